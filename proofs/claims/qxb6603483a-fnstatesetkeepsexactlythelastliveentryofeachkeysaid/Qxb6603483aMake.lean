/-
  The makers: a new state, holding nothing.
-/
import Derived.Test.Qxb6603483aState
import Derived.Laws.MakeOwn
import Derived.Laws.Tables
import Derived.Laws.Rows
namespace Go.Proofs.Qxb6603483a
open Go.RowKit
set_option linter.unusedSimpArgs false
attribute [local go_sem ↓] Go.wp_at_zero Go.wp_at_succ

theorem make103 (w : World) : ∃ cs, (Instr.makeSlice 103 (.int .i64 0) (.int .i64 32)).run Try.prog w = .ok (.slice (some ⟨w.heap.size, 0, none⟩) 0 32) (w.alloc (.cells cs 84)) ∧ Row1 (w.alloc (.cells cs 84)) (.slice (some ⟨w.heap.size, 0, none⟩) 0 32) [] := by
  obtain ⟨i0, hi0, hz0, hz1, hz2⟩ := info_parts info84
  have hr := run_make (P := Try.prog) w 103 84 i0 _ Try.underlying103 hi0 hz0 .i64 .i64 0 32 (by omega) (by omega) (by rw [hz2]; omega) (by omega)
  rw [hz1] at hr
  refine ⟨_, hr, ?_⟩
  exact World.ownsRow_made (size := 1) w _ 32 (Nat.zero_le _) (by unfold maxLen; omega) (size_madeCells _ _)

set_option maxRecDepth 100000 in
set_option maxHeartbeats 1000000 in
theorem new36 {w : World} : Calls Try.prog 36 #[.int .i64 32] w fun r w' => r = .returned (ptr (w.heap.size + 1)) ∧ Chg0 w w' ∧ w'.heap.size = w.heap.size + 2 ∧ w'.heap[w.heap.size + 1]? = some (.cells #[.int .i32 0, .int .u32 0, .slice (some ⟨w.heap.size, 0, none⟩) 0 32] 124 (0, 0)) ∧ Row1 w' (.slice (some ⟨w.heap.size, 0, none⟩) 0 32) [] := by
  obtain ⟨cs, hm, hrow⟩ := make103 w
  have Hrow := hide hrow
  clear hrow
  go_enter Try.func36, Try.ntmps36
  go_wp2
  go_ret
  have h1 := two_boxes w cs #[.int .i32 0, .int .u32 0, .slice (some ⟨w.heap.size, 0, none⟩) 0 32] 84 124
  refine ⟨rfl, ((Chg.refl _ w).alloc _).alloc _, by simp, h1.2, Hrow.out.same (fun k hk => ?_)⟩
  rw [ob_slice] at hk
  rw [one_pos hk]
  exact Below.heap_alloc _ _ _ (by simp)

set_option maxRecDepth 100000 in
set_option maxHeartbeats 1000000 in
theorem new35 {w : World} {f : Nat} : Calls Try.prog 35 #[.int .i64 32, lessV, ptr f] w fun r w' => r = .returned (ptr (w.heap.size + 1)) ∧ Chg0 w w' ∧ w'.heap.size = w.heap.size + 2 ∧ w'.heap[w.heap.size]? = some (.cells #[ptr f, lessV] 115 (0, 0)) ∧ w'.heap[w.heap.size + 1]? = some (.cells #[.int .i64 32, .int .i64 0, .pointer none, ptr w.heap.size] 87 (0, 0)) := by
  unfold lessV ptr
  go_enter Try.func35, Try.ntmps35
  go_wp2
  go_ret
  have h1 := two_boxes w #[.pointer (some ⟨f, 0, none⟩), .func (.func 29) #[] #[]] #[.int .i64 32, .int .i64 0, .pointer none, .pointer (some ⟨w.heap.size, 0, none⟩)] 115 87
  exact ⟨rfl, ((Chg.refl _ w).alloc _).alloc _, by simp, h1.1, h1.2⟩

set_option maxRecDepth 100000 in
set_option maxHeartbeats 1000000 in
theorem new28 {w : World} : Calls Try.prog 28 #[.int .i64 32, lessV] w fun r w' => ∃ t F, r = .returned (ptr t) ∧ Chg0 w w' ∧ Bt w' t [] F ∧ (∀ k, k < w.heap.size → F k = 0) := by
  have HC := @new36 w
  have H35 := @new35
  unfold lessV at H35 ⊢
  unfold ptr at H35
  go_enter Try.func28, Try.ntmps28
  go_wp2_with (fail)
  refine HC.mono ?_
  rintro _ w1 ⟨rfl, hc1, hz1, hf1, hr1⟩
  have Hz1 := hide hz1
  clear hz1
  unfold ptr
  go_wp2_with (fail)
  refine H35.mono ?_
  rintro _ w2 ⟨rfl, hc2, hz2, hk2, ht2⟩
  clear H35 HC
  have Hz2 := hide hz2
  clear hz2
  go_wp2
  go_ret
  have hz1 := Hz1.out
  rw [hz1] at ht2 hk2 ⊢
  clear Hz1 Hz2 hz1
  generalize w.heap.size = n at *
  have e0 : ∀ k a, k ≠ a → one a k = 0 := fun k a h => one_other h
  refine ⟨n + 2 + 1, fun k => one (n + 3) k + poolF (n + 2) (n + 1) (.slice (some ⟨n, 0, none⟩) 0 32) [] k, rfl, hc1.trans hc2, ⟨List.Pairwise.nil, Or.inl ⟨n + 2, 0, poolF (n + 2) (n + 1) (.slice (some ⟨n, 0, none⟩) 0 32) [], rfl, ht2, ⟨n + 1, _, [], ⟨hk2, hc2.blk hf1, hr1.same (fun k hk => hc2.same k (hr1.lt hk) rfl), fun x hx => (by cases hx), fun k => ?_⟩, fun _ => rfl⟩, fun _ => rfl, fun k => ?_⟩⟩, fun k hk => ?_⟩
  · unfold poolF; rw [ob_slice, fnF_nil]; unfold one; split <;> split <;> split <;> omega
  · unfold poolF; rw [ob_slice, fnF_nil]; unfold one; split <;> split <;> split <;> split <;> omega
  · show one (n + 3) k + poolF _ _ _ _ k = 0
    unfold poolF; rw [ob_slice, fnF_nil, e0 k _ (by omega), e0 k _ (by omega), e0 k _ (by omega), e0 k _ (by omega)]

set_option maxRecDepth 100000 in
set_option maxHeartbeats 1000000 in
theorem new23 {w : World} : Calls Try.prog 23 #[] w fun r w' => ∃ t F, r = .returned (.agg #[ptr t]) ∧ Chg0 w w' ∧ Bt w' t [] F ∧ (∀ k, k < w.heap.size → F k = 0) := by
  obtain ⟨W, hW, hbox, hchg⟩ : ∃ W, W = w.alloc (Obj.cells #[Value.pointer none] 48) ∧ W.heap[w.heap.size]? = some (.cells #[Value.pointer none] 48 (0, 0)) ∧ Chg0 w W := ⟨_, rfl, heap_alloc_new w _, (Chg.refl _ w).alloc _⟩
  have hW' := hW.symm
  clear hW
  have HC := @new28 W
  unfold lessV at HC
  go_enter Try.func23, Try.ntmps23
  go_wp2_with (fail)
  refine HC.mono ?_
  rintro _ w1 ⟨t, F, rfl, hc1, B1, hF1⟩
  clear HC hW'
  have hb1 := hc1.blk hbox
  have c0 := cell_blk hb1 0
  have f0 := frozen_blk hb1 0
  have hlt := (Array.getElem?_eq_some_iff.1 hbox).1
  generalize hbb : w.heap.size = b at *
  have hFb : F b = 0 := hF1 b hlt
  have Hbb := hide hbb
  clear hbb
  unfold ptr
  go_wp2
  have r0 := heap_setCell_blk hb1 0 (.pointer (some ⟨t, 0, none⟩))
  refine bodyPost_ret (v := .agg #[.pointer (some ⟨t, 0, none⟩)]) (by
    have r1 := cell_blk r0 0
    simp [results, Try.results23, go_sem, r1]) rfl ?_
  exact ⟨t, F, rfl, (hchg.trans hc1).setCell (p := ⟨b, 0, none⟩) (fun h => by have h2 := Hbb.out; have h3 : b < w.heap.size := h; omega) _, B1.same (fun k hk => Below.heap_setCell _ _ _ _ (fun e => by subst e; omega)), fun k hk => hF1 k (Nat.lt_of_lt_of_le (by have := Hbb.out; omega) hchg.size)⟩

theorem info63 : (Try.prog.info? 63).map (·.size) = some 29 := by kernel_rfl

/-- The cells of a new state. -/
def newCells (t m1 m2 m3 m4 m5 m6 m7 m8 mb : Nat) : Array Value := #[.pointer (some ⟨t, 0, none⟩), .map (some m1), .map (some m2), .map (some m3), .map (some m4), .map (some m5), .map (some m6), .map (some m7), .map (some m8), .slice none 0 0, .int .i64 0, .int .i64 0, .int .u64 0, .int .u64 0, .slice none 0 0, .int .u64 0, .slice none 0 0, .int .u64 0, .slice none 0 0, .int .u64 0, .slice none 0 0, .bool false, .bool false, .bool false, .string { data := #[] }, .slice none 0 0, .string { data := #[] }, .bool false, .map (some mb)]

set_option maxRecDepth 100000 in
set_option maxHeartbeats 4000000 in
theorem new20 {w : World} : Calls Try.prog 20 #[] w fun r w' => ∃ t m1 m2 m3 m4 m5 m6 m7 m8 mb F, r = .returned (.agg (newCells t m1 m2 m3 m4 m5 m6 m7 m8 mb)) ∧ w'.heap[mb]? = some (.map #[] 0) ∧ w.heap.size ≤ mb ∧ Chg0 w w' ∧ Bt w' t [] F ∧ (∀ k, k < w.heap.size → F k = 0) ∧ F mb = 0 := by
  obtain ⟨W, hW, hbox, hchg⟩ : ∃ W, w.alloc (Obj.cells #[.pointer none, .map none, .map none, .map none, .map none, .map none, .map none, .map none, .map none, .slice none 0 0, .int .i64 0, .int .i64 0, .int .u64 0, .int .u64 0, .slice none 0 0, .int .u64 0, .slice none 0 0, .int .u64 0, .slice none 0 0, .int .u64 0, .slice none 0 0, .bool false, .bool false, .bool false, .string { data := #[] }, .slice none 0 0, .string { data := #[] }, .bool false, .map none] 63) = W ∧ W.heap[w.heap.size]? = some (.cells #[.pointer none, .map none, .map none, .map none, .map none, .map none, .map none, .map none, .map none, .slice none 0 0, .int .i64 0, .int .i64 0, .int .u64 0, .int .u64 0, .slice none 0 0, .int .u64 0, .slice none 0 0, .int .u64 0, .slice none 0 0, .int .u64 0, .slice none 0 0, .bool false, .bool false, .bool false, .string { data := #[] }, .slice none 0 0, .string { data := #[] }, .bool false, .map none] 63 (0, 0)) ∧ Chg0 w W := ⟨_, rfl, heap_alloc_new w _, (Chg.refl _ w).alloc _⟩
  have hmm := @run_makeMap Try.prog
  have HC := @new23 W
  unfold ptr at HC
  go_enter Try.func20, Try.ntmps20
  go_wp2_with (fail)
  refine HC.mono ?_
  clear HC hW
  rintro _ w1 ⟨t, F, rfl, hc1, B1, hF1⟩
  have hlt := (Array.getElem?_eq_some_iff.1 hbox).1
  obtain ⟨w9, hw9, hc9, hz9⟩ : ∃ w9, (((((((((w1.alloc (Obj.map #[] 0)).alloc (Obj.map #[] 0)).alloc (Obj.map #[] 0)).alloc (Obj.map #[] 0)).alloc (Obj.map #[] 0)).alloc (Obj.map #[] 0)).alloc (Obj.map #[] 0)).alloc (Obj.map #[] 0)).alloc (Obj.map #[] 0)) = w9 ∧ Chg0 w1 w9 ∧ w9.heap[w1.heap.size + 8]? = some (.map #[] 0) := by
    refine ⟨_, rfl, (((((((((Chg.refl _ w1).alloc _).alloc _).alloc _).alloc _).alloc _).alloc _).alloc _).alloc _).alloc _, ?_⟩
    have := heap_alloc_new ((((((((w1.alloc (Obj.map #[] 0)).alloc (Obj.map #[] 0)).alloc (Obj.map #[] 0)).alloc (Obj.map #[] 0)).alloc (Obj.map #[] 0)).alloc (Obj.map #[] 0)).alloc (Obj.map #[] 0)).alloc (Obj.map #[] 0)) (Obj.map #[] 0)
    simpa using this
  have hb9 := hc9.blk (hc1.blk hbox)
  have hFb : F w.heap.size = 0 := hF1 _ hlt
  have hmb : w.heap.size < w1.heap.size + 8 := by have := hc1.size; omega
  have hFm : F (w1.heap.size + 8) = 0 := by
    have : ¬ 1 ≤ F (w1.heap.size + 8) := fun h => by have := B1.lt _ h; omega
    omega
  have Hk := hide (And.intro hFb (And.intro hmb (And.intro hFm hlt)))
  clear hFb hmb hFm hlt
  have hb9n := hb9
  rw [← hw9] at hb9n
  go_wp2_with (refine wpList_store_row rfl 63 (.tmp 0) (.tmp 11) rfl w.heap.size _ (by rfl) (by rfl) 63 _ (by first | exact hb9 | exact hb9n) (by exact info63) (by rfl) (by simp [Value.oneCell']) ?_)
  have hr := setRow_heap w9 w.heap.size _ (newCells t w1.heap.size (w1.heap.size + 1) (w1.heap.size + 2) (w1.heap.size + 3) (w1.heap.size + 4) (w1.heap.size + 5) (w1.heap.size + 6) (w1.heap.size + 7) (w1.heap.size + 8)) 63 (0, 0) hb9
  refine bodyPost_ret (v := .agg (newCells t w1.heap.size (w1.heap.size + 1) (w1.heap.size + 2) (w1.heap.size + 3) (w1.heap.size + 4) (w1.heap.size + 5) (w1.heap.size + 6) (w1.heap.size + 7) (w1.heap.size + 8))) (results_cell_row Try.results20 _ _ w.heap.size 63 _ (0, 0) _ rfl hr Try.underlying63 rfl info63) rfl ?_
  obtain ⟨hFb, hmb, hFm, hlt⟩ := Hk.out
  have hcs : Chg0 w (w9.setRow w.heap.size (newCells t w1.heap.size (w1.heap.size + 1) (w1.heap.size + 2) (w1.heap.size + 3) (w1.heap.size + 4) (w1.heap.size + 5) (w1.heap.size + 6) (w1.heap.size + 7) (w1.heap.size + 8))) := ((hchg.trans hc1).trans hc9).setRow (fun h => by omega) _
  refine ⟨t, _, _, _, _, _, _, _, _, _, F, rfl, (setRow_other _ _ _ _ (by omega)).trans hz9, by omega, hcs, (B1.grew hc9).same (fun k hk => setRow_other _ _ _ _ (fun e => by subst e; omega)), fun k hk => hF1 k (by omega), hFm⟩

end Go.Proofs.Qxb6603483a
