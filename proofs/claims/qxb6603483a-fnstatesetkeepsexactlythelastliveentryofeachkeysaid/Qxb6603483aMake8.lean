/-
  ZZnewState.
-/
import Derived.Test.Qxb6603483aMake
namespace Go.Proofs.Qxb6603483a
open Go.RowKit
set_option linter.unusedSimpArgs false
attribute [local go_sem ↓] Go.wp_at_zero Go.wp_at_succ

set_option maxRecDepth 100000 in
set_option maxHeartbeats 4000000 in
theorem new8 {w : World} : Calls Try.prog 8 #[] w fun r w' => ∃ st F, r = .returned (ptr st) ∧ Chg0 w w' ∧ Sta w' st [] F ∧ (∀ k, k < w.heap.size → F k = 0) ∧ w.heap.size ≤ st := by
  go_enter Try.func8, Try.ntmps8
  go_wp2_with (fail)
  refine new20.mono ?_
  rintro _ w1 ⟨t, m1, m2, m3, m4, m5, m6, m7, m8, mb, F, rfl, hmb, hmz, hc1, B1, hF1, hFm⟩
  have hFs : F w1.heap.size = 0 := by
    have : ¬ 1 ≤ F w1.heap.size := fun h => by have := B1.lt _ h; omega
    omega
  have Hs := hide (And.intro hmz (And.intro hFs hc1.size))
  clear hmz hFs
  obtain ⟨w2, hw2, hb2, hc2⟩ : ∃ w2, w1.alloc (Obj.cells #[.pointer none, .map none, .map none, .map none, .map none, .map none, .map none, .map none, .map none, .slice none 0 0, .int .i64 0, .int .i64 0, .int .u64 0, .int .u64 0, .slice none 0 0, .int .u64 0, .slice none 0 0, .int .u64 0, .slice none 0 0, .int .u64 0, .slice none 0 0, .bool false, .bool false, .bool false, .string { data := #[] }, .slice none 0 0, .string { data := #[] }, .bool false, .map none] 63) = w2 ∧ w2.heap[w1.heap.size]? = some (.cells #[.pointer none, .map none, .map none, .map none, .map none, .map none, .map none, .map none, .map none, .slice none 0 0, .int .i64 0, .int .i64 0, .int .u64 0, .int .u64 0, .slice none 0 0, .int .u64 0, .slice none 0 0, .int .u64 0, .slice none 0 0, .int .u64 0, .slice none 0 0, .bool false, .bool false, .bool false, .string { data := #[] }, .slice none 0 0, .string { data := #[] }, .bool false, .map none] 63 (0, 0)) ∧ Chg0 w1 w2 := ⟨_, rfl, heap_alloc_new w1 _, (Chg.refl _ w1).alloc _⟩
  have hb2n := hb2
  rw [← hw2] at hb2n
  go_wp2_with (refine wpList_store_row rfl 63 (.tmp 1) (.tmp 2) rfl w1.heap.size _ (by rfl) (by rfl) 63 _ (by first | exact hb2 | exact hb2n) (by exact info63) (by rfl) (by simp [newCells, Value.oneCell']) ?_)
  go_ret
  have hr := setRow_heap w2 w1.heap.size _ (newCells t m1 m2 m3 m4 m5 m6 m7 m8 mb) 63 (0, 0) hb2
  have hmw := (Array.getElem?_eq_some_iff.1 hmb).1
  have hc3 : Chg0 w1 (w2.setRow w1.heap.size (newCells t m1 m2 m3 m4 m5 m6 m7 m8 mb)) := hc2.setRow (fun h => by omega) _
  exact ⟨w1.heap.size, F, rfl, hc1.trans hc3, ⟨t, mb, 0, newCells t m1 m2 m3 m4 m5 m6 m7 m8 mb, hr, rfl, rfl, hc3.blk hmb, B1.grew hc3, Hs.out.2.1, hFm⟩, hF1, Hs.out.2.2⟩

end Go.Proofs.Qxb6603483a
