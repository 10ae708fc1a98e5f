/-
  FnIntersectSetSpec: the row.
-/
import Derived.Test.Qxb6603330aSpec
import Derived.Test.Qxb6603330aOpen2
namespace Go.Proofs.Qxb6603330a
open Go.RowKit Go.Maps Go.WideMaps
open Go.ChangeShapes Go.WideShapes Go.ChangeAt Go.WideElems

theorem spec_any {H : Type} {w : World} {a : Option Addr} {len cap : Nat} {ss : List ByteArray} {adr : Nat → Addr} {r : Option Nat} {D : DataW H} (h : StrsIn w a len cap ss adr) (hm : MapIn w r D) :
    Calls Try.prog 5 #[.map r, .slice a len cap] w fun e w' => e = .returned (.bool true) ∧ Below w.heap.size w w' := by
  by_cases hsz : 65536 < (Maps.size D : Int)
  · exact spec_big hm hsz
  have hsz : (Maps.size D : Int) ≤ 65536 := by omega
  by_cases hle : 65536 < (len : Int)
  · exact spec_long hm hsz hle
  have hle : (len : Int) ≤ 65536 := by omega
  cases hN : holdB ss sN
  · exact spec_nonum h hm hsz hle hN
  · exact spec_num h hm hsz hle hN

set_option maxRecDepth 100000 in
theorem spec_lifted (os : Os) (started : os.Started) (H : Type) (enc : TypeId × Value → H) :
    ReturnsInHanded {} Try.checked os 5 .any (Rows.fnIntersectSetSpecSpec.pre6 enc Try.prog Try.f5 Rows.fnIntersectSetSpecRow.domain false) (Rows.fnIntersectSetSpecSpec.post enc Try.prog Try.f5 false true false false) := by
  refine returnsInHanded_of_change (C := Try.checked) Try.own started (by kernel_rfl) Try.func5
    (ChangeSpec.witness6 (enc := enc) (C := Try.checked) false ⟨#[], #[.map none, .slice none 0 0], []⟩ 8 (by kernel_rfl) (by kernel_rfl) (by kernel_rfl) (by kernel_rfl)) ?_
  intro W base args ds gs before hval0 hW _ _
  have hval : ∀ (j : Nat) t v, Try.f5.params[j]? = some t → args[j]? = some v → Value.okWide Try.prog W .any base t v := hval0
  have hW' := hW
  obtain ⟨p, q, hA0, hV, rfl, _, _⟩ := hW
  have hA : DataW.TrodAll enc Try.prog W 0 (fun _ => true) true Try.f5.params.toList args.toList ds p := hA0
  rw [Try.params5] at hA hval
  obtain ⟨v0, v1, d0, d1, p0, p1, rfl, rfl, rfl, h0, h1⟩ := trodAll_two hA
  obtain ⟨rfl, rfl⟩ := trodVars_none hV
  clear hA0 hval0
  simp only [List.append_nil] at hW'
  have hlt : ∀ x ∈ p0 ++ p1, x.block < W.heap.size := fun x hx => by simpa using hW'.lt x hx
  have hlt0 : ∀ x ∈ p0, x.block < W.heap.size := fun x hx => hlt x (List.mem_append_left _ hx)
  have hlt1 : ∀ x ∈ p1, x.block < W.heap.size := fun x hx => hlt x (List.mem_append_right _ hx)
  obtain ⟨r, rfl, hm⟩ := open_mapIn (hval 0 22 v0 rfl rfl) h0
  obtain ⟨a, len, cap, ss, adr, rfl, hs⟩ := open_strsIn (hval 1 25 v1 rfl rfl) h1 hlt1
  have hargs0 : ∀ (W' : World), Below W.heap.size W W' → DataW.Trod enc Try.prog W' 0 (fun b => decide (b < W.heap.size)) true 22 (.map r) d0 p0 :=
    fun W' hn => Below.trod Try.laidOut (by kernel_rfl) (of_decide_eq_true (by kernel_rfl)) h0 hn hlt0
  have hargs1 : ∀ (W' : World), Below W.heap.size W W' → DataW.Trod enc Try.prog W' 0 (fun b => decide (b < W.heap.size)) true 25 (.slice a len cap) d1 p1 :=
    fun W' hn => Below.trod Try.laidOut (by kernel_rfl) (of_decide_eq_true (by kernel_rfl)) h1 hn hlt1
  refine (spec_any hs hm).mono fun e W' ⟨he, hnx⟩ => ?_
  subst he
  exact ⟨_, rfl, _, _, _, [], p0 ++ p1, [], hW', trodAll_mk1 (shut_bool Try.underlying4 _), trodAll_mk2 (hargs0 _ hnx) (hargs1 _ hnx), rfl, hnx.frame _, fun h => by cases h⟩

theorem fnIntersectSetSpec_holds : Rows.FnIntersectSetSpecSaid :=
  OpenClaim.holds_of_wide 5 Try.f5 rfl rfl rfl rfl rfl rfl rfl ⟨rfl, rfl, rfl, rfl, rfl⟩ rfl rfl rfl rfl rfl (by kernel_rfl) Try.func5 (by kernel_rfl)
    (of_decide_eq_true (by kernel_rfl)) (by unfold Func.isWrapper; first | (rw [if_pos (by decide +kernel)]; kernel_rfl) | (rw [if_neg (by decide +kernel)]; exact ⟨rfl, rfl⟩))
    (fun os started H enc _ => spec_lifted os started H enc)

end Go.Proofs.Qxb6603330a
