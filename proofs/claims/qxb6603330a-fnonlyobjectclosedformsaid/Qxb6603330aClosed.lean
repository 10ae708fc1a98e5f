/-
  FnOnlyObjectClosedForm: walked; the row.
-/
import Derived.Test.Qxb6603330aOnly
import Derived.Test.Qxb6603330aOpen
namespace Go.Proofs.Qxb6603330a
open Go.RowKit Go.Maps Go.WideMaps
open Go.ChangeShapes Go.WideShapes Go.ChangeAt Go.WideElems

theorem ret_bool {a : Bool} (h : a = true) : Ending.returned (.bool a) = .returned (.bool true) := by rw [h]

set_option maxHeartbeats 400000 in
theorem closed_walk {H : Type} (r : Option Nat) (D : DataW H) (w : World) (h : MapIn w r D) :
    Calls Try.prog 3 #[.map r] w fun e w' => e = .returned (.bool true) ∧ Below w.heap.size w w' := by
  have hlen := h.len
  have hlook := h.look_ok ⟨#[111, 98, 106, 101, 99, 116]⟩ (by decide)
  have hcl : ooB D = (((Maps.size D : Int) == 0) || (((Maps.size D : Int) == 1) && Maps.has D (.string [111, 98, 106, 101, 99, 116]))) := ooB_closed h
  generalize hsz : Maps.size D = n at *
  generalize hhas : Maps.has D (.string [111, 98, 106, 101, 99, 116]) = ho at *
  go_enter Try.func3, Try.ntmps3
  go_wp2_with (go_at_call 9; refine (zzOnlyObject_any r D _ h).mono ?_; rintro e w' ⟨rfl, hb⟩)
  all_goals go_ret
  · exact ⟨rfl, Below.refl _ _⟩
  · exact ⟨ret_bool (by simp), hb⟩
  · exact ⟨ret_bool (by simp), hb⟩
  · have h1 : ¬ (n : Int) = 1 := by assumption
    have h1' : ((n : Int) == 1) = false := by simpa using h1
    exact ⟨ret_bool (by simp [h1']), hb⟩

set_option maxRecDepth 100000 in
theorem closed_lifted (os : Os) (started : os.Started) (H : Type) (enc : TypeId × Value → H) :
    ReturnsInHanded {} Try.checked os 3 .any (Rows.fnOnlyObjectClosedFormSpec.pre6 enc Try.prog Try.f3 Rows.fnOnlyObjectClosedFormRow.domain false) (Rows.fnOnlyObjectClosedFormSpec.post enc Try.prog Try.f3 false true false false) := by
  refine returnsInHanded_of_change (C := Try.checked) Try.own started (by kernel_rfl) Try.func3
    (ChangeSpec.witness6 (enc := enc) (C := Try.checked) false ⟨#[], #[.map none], []⟩ 8 (by kernel_rfl) (by kernel_rfl) (by kernel_rfl) (by kernel_rfl)) ?_
  intro W base args ds gs before hval0 hW _ _
  have hval : ∀ (j : Nat) t v, Try.f3.params[j]? = some t → args[j]? = some v → Value.okWide Try.prog W .any base t v := hval0
  have hW' := hW
  obtain ⟨p, q, hA0, hV, rfl, _, _⟩ := hW
  have hA : DataW.TrodAll enc Try.prog W 0 (fun _ => true) true Try.f3.params.toList args.toList ds p := hA0
  rw [Try.params3] at hA hval
  obtain ⟨v0, d0, rfl, rfl, h0⟩ := trodAll_one hA
  obtain ⟨rfl, rfl⟩ := trodVars_none hV
  obtain ⟨r, rfl, hm⟩ := open_mapIn (hval 0 22 v0 rfl rfl) h0
  clear hA0 hval0
  simp only [List.append_nil] at hW'
  have hlt : ∀ x ∈ p, x.block < W.heap.size := fun x hx => by simpa using hW'.lt x hx
  have hargs : ∀ (W' : World), Below W.heap.size W W' → DataW.Trod enc Try.prog W' 0 (fun b => decide (b < W.heap.size)) true 22 (.map r) d0 p :=
    fun W' hn => Below.trod Try.laidOut (by kernel_rfl) (of_decide_eq_true (by kernel_rfl)) h0 hn hlt
  refine (closed_walk r d0 W hm).mono fun e W' ⟨he, hnx⟩ => ?_
  subst he
  exact ⟨_, rfl, _, _, _, [], p, [], hW', trodAll_mk1 (shut_bool Try.underlying4 _), trodAll_mk1 (hargs _ hnx), rfl, hnx.frame _, fun h => by cases h⟩

theorem fnOnlyObjectClosedForm_holds : Rows.FnOnlyObjectClosedFormSaid :=
  OpenClaim.holds_of_wide 3 Try.f3 rfl rfl rfl rfl rfl rfl rfl ⟨rfl, rfl, rfl, rfl, rfl⟩ rfl rfl rfl rfl rfl (by kernel_rfl) Try.func3 (by kernel_rfl)
    (of_decide_eq_true (by kernel_rfl)) (by unfold Func.isWrapper; first | (rw [if_pos (by decide +kernel)]; kernel_rfl) | (rw [if_neg (by decide +kernel)]; exact ⟨rfl, rfl⟩))
    (fun os started H enc _ => closed_lifted os started H enc)

end Go.Proofs.Qxb6603330a
