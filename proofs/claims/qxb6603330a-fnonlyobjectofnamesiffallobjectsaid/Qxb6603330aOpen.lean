/-
  The arguments opened: a map[string]bool; a []string.
-/
import Derived.Test.Qxb6603330aMaps
import Derived.ProofKit
import Derived.SizedLaws
namespace Go.Proofs.Qxb6603330a
open Go.RowKit Go.Maps Go.WideMaps
open Go.ChangeShapes Go.WideShapes Go.ChangeAt Go.WideElems

theorem Try.own : ownKnob Try.prog.godebug = none := by kernel_rfl
theorem Try.laidOut : laidOutB Try.prog = true := by kernel_rfl
theorem Try.cells9 : Try.prog.cellsOf 9 = 1 := by kernel_rfl
theorem Try.bytes9 : Try.prog.bytesOf 9 = 16 := by kernel_rfl

theorem elemAt_plainElem_bool {H : Type} {P : Program} {enc : TypeId × Value → H} {e : TypeId} (he : P.underlying e = some .bool) {W : World} {base : Nat} {sp : Nat → Bool} {held : Bool} {m : Nat} {v : Value} {z : DataW H × List MemPlace}
    (h : elemAt enc P W base sp held m e v = some z) : plainElem P e v = some z := by
  obtain ⟨a, rfl, rfl⟩ := WideElems.elemAt_bool he h
  exact plainElem_bool he a

theorem open_mapIn {H : Type} {enc : TypeId × Value → H} {W : World} {base : Nat} {v : Value} {d : DataW H} {p : List MemPlace}
    (hok : Value.okWide Try.prog W .any base 22 v) (h : DataW.Trod enc Try.prog W 0 (fun _ => true) true 22 v d p) : ∃ r, v = .map r ∧ MapIn W r d := by
  obtain ⟨r, rfl⟩ := okWide_map Try.underlying22 hok
  obtain ⟨fuel, hf⟩ := h
  refine ⟨r, rfl, ?_⟩
  rcases open_map Try.underlying22 hf with ⟨hcs, hx⟩ | ⟨bm, es, clock, m, rfl, hcs, hb, _, F, hx⟩
  · simp [Value.cells] at hcs
    subst hcs
    exact congrArg Prod.fst hx
  · simp [Value.cells] at hcs
    subst hcs
    have hd : d = _ := congrArg Prod.fst hx
    rw [hd]
    exact ⟨_, World.ownsMap_of_fit (R := plainElem Try.prog 4) hb F (fun x _ z hz => elemAt_plainElem_bool Try.underlying4 hz)⟩

end Go.Proofs.Qxb6603330a
