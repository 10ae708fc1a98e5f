/-
  The argument opened: a []SetStep, as 'StepsIn' tells it.
-/
import Derived.Test.Qxb6603483aCount
import Derived.ProofKit
import Derived.SizedLaws
import Derived.Deep.Strs
namespace Go.Proofs.Qxb6603483a
open Go.RowKit
open Go.ChangeShapes Go.WideShapes Go.ChangeAt Go.Deep

theorem Try.own : ownKnob Try.prog.godebug = none := by kernel_rfl
theorem Try.laidOut : laidOutB Try.prog = true := by kernel_rfl
theorem Try.cells31 : Try.prog.cellsOf 31 = 3 := by kernel_rfl
theorem Try.cells9 : Try.prog.cellsOf 9 = 1 := by kernel_rfl
theorem Try.cells28 : Try.prog.cellsOf 28 = 1 := by kernel_rfl
theorem Try.cells29 : Try.prog.cellsOf 29 = 1 := by kernel_rfl
theorem Try.cells5 : Try.prog.cellsOf 5 = 1 := by kernel_rfl

instance : Inhabited Ent := ⟨ent0⟩

theorem open_bytes {H : Type} {enc : TypeId × Value → H} {W : World} {fuel : Nat} {cs : List Value} {x : DataW H × List MemPlace}
    (h : DataW.trod enc Try.prog W 0 (fun _ => true) true fuel 29 cs = some x) : ∃ a n c, cs = [.slice a n c] ∧ BytesIn W a n := by
  rcases open_ints Try.underlying29 Try.underlying5 Try.cells5 h with ⟨rfl, _⟩ | ⟨a, len, cap, zs, rfl, _, hl, _, hz, _, hcell, _⟩
  · exact ⟨none, 0, 0, rfl, Or.inl ⟨rfl, rfl⟩⟩
  · simp only [if_true] at hz
    exact ⟨some a, len, cap, rfl, Or.inr ⟨a, rfl, fun i hi => ⟨_, hcell i (by omega)⟩⟩⟩

theorem add_one (ad : Addr) : ad.add 1 = ⟨ad.block, ad.off + 1, none⟩ := by unfold Addr.add; simp
theorem add_two (ad : Addr) : ad.add 2 = ⟨ad.block, ad.off + 2, none⟩ := by unfold Addr.add; simp
theorem add_zero' (ad : Addr) : ad.add 0 = ad := by unfold Addr.add; simp

theorem three_of {l : List Value} (h : l.length = 3) : ∃ a b c, l = [a, b, c] := by
  match l, h with
  | [a, b, c], _ => exact ⟨a, b, c, rfl⟩

theorem open_step {H : Type} {enc : TypeId × Value → H} {W : World} {fuel : Nat} {ad : Addr} {cs : List Value} {x : DataW H × List MemPlace}
    (hcs : W.cells? 0 ad 3 = some cs) (h : DataW.trod enc Try.prog W 0 (fun _ => true) true fuel 31 cs = some x) :
    ∃ e : Ent, W.cell? ad = some (.string e.key) ∧ W.cell? ⟨ad.block, ad.off + 1, none⟩ = some (.int .u64 e.ver) ∧ W.cell? ⟨ad.block, ad.off + 2, none⟩ = some (.slice e.va e.vn e.vc) ∧ BytesIn W e.va e.vn := by
  obtain ⟨_, hlen, hcell⟩ := World.cells?_some hcs
  obtain ⟨y0, y1, y2, n, _, _, h0, h1, h2⟩ := trod_struct3 Try.underlying31 h
  have g0 := hcell 0 (by omega)
  have g1 := hcell 1 (by omega)
  have g2 := hcell 2 (by omega)
  rw [add_zero'] at g0
  rw [add_one] at g1
  rw [add_two] at g2
  obtain ⟨c0, c1, c2, rfl⟩ := three_of hlen
  have h0' : DataW.trod enc Try.prog W 0 (fun _ => true) true n 9 (([c0, c1, c2].drop 0).take (Try.prog.cellsOf 9)) = some y0 := h0
  have h1' : DataW.trod enc Try.prog W 0 (fun _ => true) true n 28 (([c0, c1, c2].drop 1).take (Try.prog.cellsOf 28)) = some y1 := h1
  have h2' : DataW.trod enc Try.prog W 0 (fun _ => true) true n 29 (([c0, c1, c2].drop 2).take (Try.prog.cellsOf 29)) = some y2 := h2
  clear h0 h1 h2
  rw [Try.cells9] at h0'
  rw [Try.cells28] at h1'
  rw [Try.cells29] at h2'
  obtain ⟨s, hs, _, _⟩ := DataW.trod_string Try.underlying9 h0'
  obtain ⟨v, hv, _, _⟩ := DataW.trod_int Try.underlying28 h1'
  obtain ⟨a, n, c, hb, hB⟩ := open_bytes h2'
  have e0 : c0 = .string s := by simpa using hs
  have e1 : c1 = .int .u64 v := by simpa using hv
  have e2 : c2 = .slice a n c := by simpa using hb
  subst e0 e1 e2
  exact ⟨⟨s, v, a, n, c⟩, g0, g1, g2, hB⟩

set_option maxRecDepth 100000 in
theorem open_steps {H : Type} {enc : TypeId × Value → H} {W : World} {base : Nat} {v : Value} {d : DataW H} {p : List MemPlace}
    (hok : Value.okWide Try.prog W .any base 22 v) (h : DataW.Trod enc Try.prog W 0 (fun _ => true) true 22 v d p) :
    ∃ a len cap S E, v = .slice a len cap ∧ StepsIn W a len cap S E ∧ (a = none → len = 0) := by
  obtain ⟨a0, len, cap, rfl⟩ := okWide_slice Try.underlying22 hok
  obtain ⟨fuel, hf⟩ := h
  rcases open_slice Try.underlying22 hf with ⟨hcs, _⟩ | ⟨a, len', cap', m, n, D, Pl, hcs, _, hl, hm, hmm, _, hel⟩
  · simp [Value.cells] at hcs
    obtain ⟨rfl, rfl, rfl⟩ := hcs
    exact ⟨none, 0, 0, fun _ => ent0, fun _ => ⟨0, 0, none⟩, rfl, ⟨Nat.zero_le _, fun k _ hk => by omega, fun k hk => by omega, fun k hk => by omega, fun k hk => by omega, fun k hk => by omega, fun k hk => by omega⟩, fun _ => rfl⟩
  · simp [Value.cells] at hcs
    obtain ⟨rfl, rfl, rfl⟩ := hcs
    simp only [if_true] at hmm
    subst hmm
    rw [Try.cells31] at hel
    have each : ∀ i, i < m → ∃ e : Ent, W.cell? (a.add (i * 3)) = some (.string e.key) ∧ W.cell? ⟨(a.add (i * 3)).block, (a.add (i * 3)).off + 1, none⟩ = some (.int .u64 e.ver) ∧ W.cell? ⟨(a.add (i * 3)).block, (a.add (i * 3)).off + 2, none⟩ = some (.slice e.va e.vn e.vc) ∧ BytesIn W e.va e.vn := fun i hi => by
      obtain ⟨cs', h1, h2⟩ := hel i hi
      exact open_step h1 h2
    obtain ⟨S, hS⟩ := choose_lt each
    refine ⟨some a, len, m, S, fun i => a.add (i * 3), rfl, ⟨Nat.le_trans hl hm, fun k w' hk => ?_, fun k hk => (hS k (by omega)).1, fun k hk => (hS k (by omega)).2.1, fun k hk => (hS k (by omega)).2.2.1, fun k hk => cell_lt (hS k (by omega)).1, fun k hk => (hS k (by omega)).2.2.2⟩, fun h => by cases h⟩
    rw [run_indexAt_slice (h := Try.underlying22)]
    have hs : (sizeOf (Try.prog.elem 22)).run Try.prog w' = .ok 3 w' := by kernel_rfl
    rw [if_pos ⟨by omega, by omega⟩, hs]
    simp [Result.andThen]

end Go.Proofs.Qxb6603483a
