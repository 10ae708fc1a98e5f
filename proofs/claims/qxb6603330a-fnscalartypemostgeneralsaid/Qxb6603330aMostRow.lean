/-
  FnScalarTypeMostGeneral: the cases joined; the row.
-/
import Derived.Test.Qxb6603330aMost
namespace Go.Proofs.Qxb6603330a
open Go.RowKit Go.Maps Go.WideMaps
open Go.ChangeShapes Go.WideShapes Go.ChangeAt Go.WideElems

set_option maxHeartbeats 400000 in
theorem most_big {H : Type} (r : Option Nat) (D : DataW H) (w : World) (h : MapIn w r D) (hn : 65536 < (Maps.size D : Int)) :
    Calls Try.prog 7 #[.map r] w fun e w' => e = .returned (.bool true) ∧ Below w.heap.size w w' := by
  have hlen := h.len
  go_enter Try.func7, Try.ntmps7
  go_wp2
  go_ret
  exact ⟨rfl, Below.refl _ _⟩

theorem most_any {H : Type} (r : Option Nat) (D : DataW H) (w : World) (h : MapIn w r D) :
    Calls Try.prog 7 #[.map r] w fun e w' => e = .returned (.bool true) ∧ Below w.heap.size w w' := by
  by_cases hn : 65536 < (Maps.size D : Int)
  · exact most_big r D w h hn
  have hn : (Maps.size D : Int) ≤ 65536 := by omega
  cases b1 : bget D sS
  · cases b2 : bget D sN
    · cases b3 : bget D sI
      · cases b4 : bget D sB
        · exact most_none r D w h hn b1 b2 b3 b4
        · exact most_B r D w h hn b1 b2 b3 b4
      · exact most_I r D w h hn b1 b2 b3
    · exact most_N r D w h hn b1 b2
  · exact most_S r D w h hn b1

set_option maxRecDepth 100000 in
theorem most_lifted (os : Os) (started : os.Started) (H : Type) (enc : TypeId × Value → H) :
    ReturnsInHanded {} Try.checked os 7 .any (Rows.fnScalarTypeMostGeneralSpec.pre6 enc Try.prog Try.f7 Rows.fnScalarTypeMostGeneralRow.domain false) (Rows.fnScalarTypeMostGeneralSpec.post enc Try.prog Try.f7 false true false false) := by
  refine returnsInHanded_of_change (C := Try.checked) Try.own started (by kernel_rfl) Try.func7
    (ChangeSpec.witness6 (enc := enc) (C := Try.checked) false ⟨#[], #[.map none], []⟩ 8 (by kernel_rfl) (by kernel_rfl) (by kernel_rfl) (by kernel_rfl)) ?_
  intro W base args ds gs before hval0 hW _ _
  have hval : ∀ (j : Nat) t v, Try.f7.params[j]? = some t → args[j]? = some v → Value.okWide Try.prog W .any base t v := hval0
  have hW' := hW
  obtain ⟨p, q, hA0, hV, rfl, _, _⟩ := hW
  have hA : DataW.TrodAll enc Try.prog W 0 (fun _ => true) true Try.f7.params.toList args.toList ds p := hA0
  rw [Try.params7] at hA hval
  obtain ⟨v0, d0, rfl, rfl, h0⟩ := trodAll_one hA
  obtain ⟨rfl, rfl⟩ := trodVars_none hV
  obtain ⟨r, rfl, hm⟩ := open_mapIn (hval 0 22 v0 rfl rfl) h0
  clear hA0 hval0
  simp only [List.append_nil] at hW'
  have hlt : ∀ x ∈ p, x.block < W.heap.size := fun x hx => by simpa using hW'.lt x hx
  have hargs : ∀ (W' : World), Below W.heap.size W W' → DataW.Trod enc Try.prog W' 0 (fun b => decide (b < W.heap.size)) true 22 (.map r) d0 p :=
    fun W' hn => Below.trod Try.laidOut (by kernel_rfl) (of_decide_eq_true (by kernel_rfl)) h0 hn hlt
  refine (most_any r d0 W hm).mono fun e W' ⟨he, hnx⟩ => ?_
  subst he
  exact ⟨_, rfl, _, _, _, [], p, [], hW', trodAll_mk1 (shut_bool Try.underlying4 _), trodAll_mk1 (hargs _ hnx), rfl, hnx.frame _, fun h => by cases h⟩

theorem fnScalarTypeMostGeneral_holds : Rows.FnScalarTypeMostGeneralSaid :=
  OpenClaim.holds_of_wide 7 Try.f7 rfl rfl rfl rfl rfl rfl rfl ⟨rfl, rfl, rfl, rfl, rfl⟩ rfl rfl rfl rfl rfl (by kernel_rfl) Try.func7 (by kernel_rfl)
    (of_decide_eq_true (by kernel_rfl)) (by unfold Func.isWrapper; first | (rw [if_pos (by decide +kernel)]; kernel_rfl) | (rw [if_neg (by decide +kernel)]; exact ⟨rfl, rfl⟩))
    (fun os started H enc _ => most_lifted os started H enc)

end Go.Proofs.Qxb6603330a
