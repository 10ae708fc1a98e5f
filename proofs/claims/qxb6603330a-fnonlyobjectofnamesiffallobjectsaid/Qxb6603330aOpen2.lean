/-
  A []string among the arguments, opened to 'StrsIn'.
-/
import Derived.Test.Qxb6603330aOpen
import Derived.Test.Qxb6603330aNames
namespace Go.Proofs.Qxb6603330a
open Go.RowKit Go.Maps Go.WideMaps
open Go.ChangeShapes Go.WideShapes Go.ChangeAt Go.WideElems

theorem open_strsIn {H : Type} {enc : TypeId × Value → H} {W : World} {base : Nat} {v : Value} {d : DataW H} {p : List MemPlace}
    (hok : Value.okWide Try.prog W .any base 25 v) (h : DataW.Trod enc Try.prog W 0 (fun _ => true) true 25 v d p) (hlt : ∀ x ∈ p, x.block < W.heap.size) :
    ∃ a len cap ss adr, v = .slice a len cap ∧ StrsIn W a len cap ss adr := by
  obtain ⟨a0, len, cap, rfl⟩ := okWide_slice Try.underlying25 hok
  obtain ⟨fuel, hf⟩ := h
  rcases open_strings Try.underlying25 Try.underlying9 Try.cells9 hf with ⟨hcs, hx⟩ | ⟨a, len', cap', ss, hcs, _, hl, hm, hz, hx, hcell, hws⟩
  · simp [Value.cells] at hcs
    obtain ⟨rfl, rfl, rfl⟩ := hcs
    exact ⟨none, 0, 0, [], fun _ => ⟨0, 0, none⟩, rfl, ⟨rfl, Nat.zero_le _, by simp, fun k _ hk => by omega, fun k hk => by omega, fun k hk => by omega⟩⟩
  · simp [Value.cells] at hcs
    obtain ⟨rfl, rfl, rfl⟩ := hcs
    simp only [if_true] at hz
    have hp : p = MemPlace.row a ss.length := congrArg Prod.snd hx
    refine ⟨some a, len, cap, ss.take len, fun k => a.add k, rfl, ⟨by rw [List.length_take]; omega, Nat.le_trans hl hm, fun s hs => hws s (List.mem_of_mem_take hs), fun k w' hk => ?_, fun k hk => ?_, fun k hk => ?_⟩⟩
    · rw [run_indexAt_slice (h := Try.underlying25)]
      have hs : (sizeOf (Try.prog.elem 25)).run Try.prog w' = .ok 1 w' := by kernel_rfl
      rw [if_pos ⟨by omega, by omega⟩, hs]
      simp [Result.andThen]
    · have := hcell k (by omega)
      rw [this]
      simp [List.getD, List.getElem?_take_of_lt hk]
    · have hb : (a.add k).block = a.block := by unfold Addr.add; split <;> rfl
      rw [hb]
      refine hlt (.cell a.block (a.off + k)) ?_
      rw [hp]
      exact MemPlace.mem_row.2 ⟨k, by omega, rfl⟩

end Go.Proofs.Qxb6603330a
