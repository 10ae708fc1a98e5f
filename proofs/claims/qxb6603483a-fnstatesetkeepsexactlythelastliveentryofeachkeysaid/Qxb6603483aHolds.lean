/-
  FnStateSetKeepsExactlyTheLastLiveEntryOfEachKey: the row.
-/
import Derived.Test.Qxb6603483aLaw
import Derived.Test.Qxb6603483aGiven
namespace Go.Proofs.Qxb6603483a
open Go.RowKit
open Go.ChangeShapes Go.WideShapes Go.ChangeAt Go.Deep

set_option maxRecDepth 100000 in
theorem law_lifted (os : Os) (started : os.Started) (H : Type) (enc : TypeId × Value → H) :
    ReturnsInHanded {} Try.checked os 3 .any (Rows.fnStateSetKeepsExactlyTheLastLiveEntryOfEachKeySpec.pre6 enc Try.prog Try.f3 Rows.fnStateSetKeepsExactlyTheLastLiveEntryOfEachKeyRow.domain false) (Rows.fnStateSetKeepsExactlyTheLastLiveEntryOfEachKeySpec.post enc Try.prog Try.f3 false true false false) := by
  refine returnsInHanded_of_change (C := Try.checked) Try.own started (by kernel_rfl) Try.func3
    (ChangeSpec.witness6 (enc := enc) (C := Try.checked) false ⟨#[], #[.slice none 0 0], []⟩ 8 (by kernel_rfl) (by kernel_rfl) (by kernel_rfl) (by kernel_rfl)) ?_
  intro W base args ds gs before hval0 hW _ _
  have hval : ∀ (j : Nat) t v, Try.f3.params[j]? = some t → args[j]? = some v → Value.okWide Try.prog W .any base t v := hval0
  have hW' := hW
  obtain ⟨p, q, hA0, hV, rfl, _, _⟩ := hW
  have hA : DataW.TrodAll enc Try.prog W 0 (fun _ => true) true Try.f3.params.toList args.toList ds p := hA0
  rw [Try.params3] at hA hval
  obtain ⟨v0, d0, rfl, rfl, h0⟩ := trodAll_one hA
  obtain ⟨rfl, rfl⟩ := trodVars_none hV
  clear hA0 hval0
  simp only [List.append_nil] at hW'
  have hlt : ∀ x ∈ p, x.block < W.heap.size := fun x hx => by simpa using hW'.lt x hx
  have hargs : ∀ (W' : World), Below W.heap.size W W' → DataW.Trod enc Try.prog W' 0 (fun b => decide (b < W.heap.size)) true 22 v0 d0 p :=
    fun W' hn => Below.trod Try.laidOut (by kernel_rfl) (of_decide_eq_true (by kernel_rfl)) h0 hn hlt
  have hcall : Calls Try.prog 3 #[v0] W fun e w' => e = .returned (.bool true) ∧ Below W.heap.size W w' := by
    obtain ⟨a, len, cap, S, E, rfl, hs, hn⟩ := open_steps (hval 0 22 v0 rfl rfl) h0
    exact law3 hs hn
  refine hcall.mono fun e W' ⟨he, hnx⟩ => ?_
  subst he
  exact ⟨_, rfl, _, _, _, [], p, [], hW', trodAll_mk1 (shut_bool Try.underlying4 _), trodAll_mk1 (hargs _ hnx), rfl, hnx.frame _, fun h => by cases h⟩

theorem fnStateSetKeepsExactlyTheLastLiveEntryOfEachKey_holds : Rows.FnStateSetKeepsExactlyTheLastLiveEntryOfEachKeySaid :=
  OpenClaim.holds_of_wide 3 Try.f3 rfl rfl rfl rfl rfl rfl rfl ⟨rfl, rfl, rfl, rfl, rfl⟩ rfl rfl rfl rfl rfl (by kernel_rfl) Try.func3 (by kernel_rfl)
    (of_decide_eq_true (by kernel_rfl)) (by unfold Func.isWrapper; first | (rw [if_pos (by decide +kernel)]; kernel_rfl) | (rw [if_neg (by decide +kernel)]; exact ⟨rfl, rfl⟩))
    (fun os started H enc _ => law_lifted os started H enc)

end Go.Proofs.Qxb6603483a
