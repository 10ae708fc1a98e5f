/-
  cloneBytes: a row of its own.
-/
import Derived.Test.Qxb6603483aVals
import Derived.Laws.MakeOwn
import Derived.Deep.OwnRows
import Derived.Lib.SliceRun
namespace Go.Proofs.Qxb6603483a
open Go.RowKit
set_option linter.unusedSimpArgs false
attribute [local go_sem ↓] Go.wp_at_zero Go.wp_at_succ

/-- Bytes that can be read, of old. -/
def BytesIn (w : World) (a : Option Addr) (n : Nat) : Prop := (a = none ∧ n = 0) ∨ ∃ ad, a = some ad ∧ ∀ i, i < n → ∃ x, w.cell? (ad.add i) = some (.int .u8 x)

theorem cell_lt {w : World} {p : Addr} {v : Value} (h : w.cell? p = some v) : p.block < w.heap.size := by
  by_cases e : p.block < w.heap.size
  · exact e
  · rw [World.cell?, Array.getElem?_eq_none (by omega)] at h
    cases h

theorem info5 : (Try.prog.info? 5).map (fun i => (i.zero, i.size, i.bytes)) = some (some (.int .u8 0), 1, 1) := by kernel_rfl

theorem made_ints (n : Nat) : madeCells #[Value.int .u8 0] n = ((List.replicate n (0 : Int)).map (Value.int .u8)).toArray := by
  apply Array.ext
  · simp [madeCells]
  · intro i h1 h2
    simp [madeCells, Nat.mod_one]

theorem add_block (ad : Addr) (i : Nat) : (ad.add i).block = ad.block := by unfold Addr.add; split <;> rfl

set_option maxRecDepth 100000 in
set_option maxHeartbeats 1000000 in
theorem clone19 {w : World} {a : Option Addr} {n c : Nat} (h : BytesIn w a n) (hn : n ≤ 2000000) :
    Calls Try.prog 19 #[.slice a n c] w fun r w' => ∃ va vc, r = .returned (.slice va n vc) ∧ ValAt w' va n vc ∧ (∀ g, va = some ⟨g, 0, none⟩ → w.heap.size ≤ g) ∧ Below w.heap.size w w' := by
  have heq : ∀ (x : Option Addr) n c w', (binOp .eql 29 (.slice x n c) (.slice none 0 0)).run Try.prog w' = .ok (.bool x.isNone) w' := fun x n c w' => Lib.run_eql_slice_nil w' 29 5 x n c 0 0 Try.underlying29
  cases a with
  | none =>
    have h0 : n = 0 := by
      rcases h with ⟨_, h⟩ | ⟨ad, h, _⟩
      · exact h
      · cases h
    subst h0
    clear h
    go_enter Try.func19, Try.ntmps19
    go_wp2
    go_ret
    exact ⟨none, 0, rfl, Or.inl ⟨rfl, rfl, rfl⟩, fun g h => (by cases h), Below.refl _ _⟩
  | some ad =>
    have hc : ∀ i, i < n → ∃ x, w.cell? (ad.add i) = some (.int .u8 x) := by
      rcases h with ⟨h, _⟩ | ⟨ad', h, h2⟩
      · cases h
      · cases h; exact h2
    have hmk := run_make_row' (P := Try.prog) 29 5 (.int .u8 0) 1 Try.underlying29 info5 rfl .i64 .i64 n (by omega) (by omega) w
    rw [made_ints] at hmk
    obtain ⟨W, hW, hrow, hB⟩ : ∃ W, w.alloc (.cells ((List.replicate n (0 : Int)).map (Value.int .u8)).toArray 5) = W ∧ W.heap[w.heap.size]? = some (.cells ((List.replicate n (0 : Int)).map (Value.int .u8)).toArray 5 (0, 0)) ∧ Below w.heap.size w W := ⟨_, rfl, heap_alloc_new w _, (Below.refl _ w).alloc (Nat.le_refl _) _⟩
    rw [hW] at hmk
    have Hc := hide hc
    clear hc h hW
    go_enter Try.func19, Try.ntmps19
    go_wp2
    clear hmk
    generalize hgg : w.heap.size = g at *
    go_loopg [4] n (fun kx s4 wr => ∃ (i : Nat) (bs : List Int), s4 = .int .i64 i ∧ i ≤ n ∧ n - i ≤ kx ∧ bs.length = n ∧ wr.heap[g]? = some (.cells (bs.map (Value.int .u8)).toArray 5 (0, 0)) ∧ Below g w wr)
    case atStart => exact ⟨0, _, rfl, Nat.zero_le _, by omega, List.length_replicate .., hrow, hB⟩
    case round =>
      obtain ⟨i, bs, rfl, hin, hkx, hbs, hrk, hBk⟩ := hrel
      by_cases hlt : i < n
      · have hlt' : (i : Int) < (n : Int) := by omega
        obtain ⟨x, hx⟩ := Hc.out i hlt
        have hxr : wr.cell? (ad.add i) = some (.int .u8 x) := (hBk.cell (p := ad.add i) (by rw [← hgg]; exact cell_lt hx)).trans hx
        have hix : ∀ w', (Instr.indexAt 29 (.slice (some ad) n c) (.int .i64 (i : Int))).run Try.prog w' = .ok (.pointer (some (ad.add i))) w' := fun w' => by
          rw [run_indexAt_slice (h := Try.underlying29)]
          have hs : (sizeOf (Try.prog.elem 29)).run Try.prog w' = .ok 1 w' := by kernel_rfl
          rw [if_pos ⟨by omega, by omega⟩, hs]
          simp [Result.andThen]
        have hiy : ∀ w', (Instr.indexAt 29 (.slice (some ⟨g, 0, none⟩) n n) (.int .i64 (i : Int))).run Try.prog w' = .ok (.pointer (some ⟨g, i, none⟩)) w' :=
          fun w' => by have := run_ix (P := Try.prog) 29 1 g n n i (i : Int) rfl hlt Try.underlying29 (fun _ => by kernel_rfl) w'; rw [Nat.mul_one] at this; exact this
        have d0 : ∃ y, wr.cell? ⟨g, i, none⟩ = some y := ⟨.int .u8 (bs[i]'(by omega)), by rw [cell_blk hrk i]; simp [hbs ▸ hlt]⟩
        obtain ⟨y, d0⟩ := d0
        have f0 := frozen_blk hrk i
        have Hbs := hide hbs
        clear hbs hx
        go_wp2
        go_roundg (n - (i + 1))
        case measure => omega
        case rel =>
          refine ⟨i + 1, bs.set i x, rfl, by omega, Nat.le_refl _, by rw [List.length_set]; exact Hbs.out, ?_, hBk.setCell (p := ⟨g, i, none⟩) (Nat.le_refl _) _⟩
          rw [heap_setCell_blk hrk]
          simp [List.map_set]
      · have hlt' : ¬ (i : Int) < (n : Int) := by omega
        go_wp2
        go_ret
        exact ⟨_, n, rfl, Or.inr ⟨g, bs, rfl, hbs.symm, hn, hrk⟩, fun g' h => by cases h; exact Nat.le_refl _, hBk⟩

end Go.Proofs.Qxb6603483a
