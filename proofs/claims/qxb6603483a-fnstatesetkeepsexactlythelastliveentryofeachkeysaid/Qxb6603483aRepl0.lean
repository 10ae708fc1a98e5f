/-
  ReplaceOrInsert into the empty tree.
-/
import Derived.Test.Qxb6603483aRoot
namespace Go.Proofs.Qxb6603483a
open Go.RowKit
set_option linter.unusedSimpArgs false
attribute [local go_sem ↓] Go.wp_at_zero Go.wp_at_succ

set_option maxRecDepth 100000 in
set_option maxHeartbeats 1000000 in
theorem repl_nil {w : World} {t c : Nat} {len : Int} {G : Nat → Nat} {e : Ent} (hb : w.heap[t]? = some (.cells #[.int .i64 32, .int .i64 len, .pointer none, ptr c] 87 (0, 0))) (hP : Pool w c G) (hd : ∀ k, one t k + G k ≤ 1) :
    Calls Try.prog 31 #[.pointer (some ⟨t, 0, none⟩), e.v] w fun r w' => ∃ F', r = .returned (.tuple #[ent0.v, .bool false]) ∧ Bt w' t [e] F' ∧ Stp (fun k => one t k + G k) w w' F' := by
  obtain ⟨i0, hi0, hz0, hz1, hz2⟩ := info_parts info33
  obtain ⟨W, hW, ⟨hbox, hzero⟩, hchg⟩ : ∃ W, W = (w.alloc (Obj.cells #[Value.string e.key, Value.int IntKind.u64 e.ver, Value.slice e.va e.vn e.vc] 33)).alloc (Obj.cells #[Value.string { data := #[] }, Value.int IntKind.u64 0, Value.slice none 0 0] 33) ∧
      (W.heap[w.heap.size]? = some (.cells #[Value.string e.key, Value.int IntKind.u64 e.ver, Value.slice e.va e.vn e.vc] 33 (0, 0)) ∧
      W.heap[w.heap.size + 1]? = some (.cells #[Value.string { data := #[] }, Value.int IntKind.u64 0, Value.slice none 0 0] 33 (0, 0))) ∧ Chg0 w W :=
    ⟨_, rfl, two_boxes w _ _ _ _, ((Chg.refl _ w).alloc _).alloc _⟩
  have hbW := hchg.blk hb
  have hPW := hP.keep hchg (fun k => by have := hP.uniq k; omega)
  have c2 : W.cell? ⟨t, 2, none⟩ = some (.pointer none) := cell_blk hbW 2
  have c3 : W.cell? ⟨t, 3, none⟩ = some (.pointer (some ⟨c, 0, none⟩)) := cell_blk hbW 3
  have htl : t < w.heap.size := (Array.getElem?_eq_some_iff.1 hb).1
  have HB : Hid (∀ j, one t (w.heap.size + j) + G (w.heap.size + j) = 0) := fun j => by
    have h1 : one t (w.heap.size + j) = 0 := one_other (by omega)
    have h2 : ¬ 1 ≤ G (w.heap.size + j) := fun h => by have := hP.lt h; omega
    omega
  have hchgW := hide hchg
  clear hb hP hchg htl
  unfold Ent.v
  go_enter Try.func31, Try.ntmps31
  have hW' := hW.symm
  clear hW
  go_wp2_with (fail)
  clear hW'
  generalize hbb : w.heap.size = b at *
  have Hb := hide hbb
  clear hbb
  refine (newNode hPW).mono ?_
  rintro _ w2 ⟨q, iv1, cv1, G1, rfl, hN1, hP1, hS1⟩
  unfold ptr
  have htW : t < W.heap.size := (Array.getElem?_eq_some_iff.1 hbW).1
  have hGt : G t = 0 := by have := hd t; rw [one_self] at this; omega
  have hb2 := hS1.blk hbW hGt
  have hT2 : Stp (fun k => one t k + G k) W w2 (fun k => one t k + G1 k + nodeF q iv1 cv1 k) := (hS1.frame (one t) (fun k => by have := hd k; omega) (fun k hk => by rw [one_pos hk]; exact htW)).congr (fun k => by omega) (fun k => by omega)
  have hu2 := hT2.uniq
  have d2 : w2.cell? ⟨t, 2, none⟩ = some (.pointer none) := cell_blk hb2 2
  have f2 : w2.frozen? ⟨t, 2, none⟩ = false := frozen_blk hb2 2
  have hb3 : (w2.setCell ⟨t, 2, none⟩ (.pointer (some ⟨q, 0, none⟩))).heap[t]? = some (.cells #[.int .i64 32, .int .i64 len, ptr q, ptr c] 87 (0, 0)) := by rw [heap_setCell_blk hb2]; rfl
  have hc3 : Chg (one t) w2 (w2.setCell ⟨t, 2, none⟩ (.pointer (some ⟨q, 0, none⟩))) := (Chg.refl (one t) w2).setCell (p := ⟨t, 2, none⟩) (fun _ => by show 1 ≤ one t t; rw [one_self]; exact Nat.le_refl _) _
  have hN3 := hN1.keep hc3 (fun k => by have := hu2 k; omega)
  have hP3 := hP1.keep hc3 (fun k => by have := hu2 k; omega)
  have hT3 : Stp (fun k => one t k + G k) W _ (fun k => one t k + G1 k + nodeF q iv1 cv1 k) := hT2.trans ⟨hc3.mono (fun k _ h0 => by have h0 : one t k + G1 k + nodeF q iv1 cv1 k = 0 := h0; omega), fun _ _ => Nat.le_refl _, hu2, fun k hk => Nat.lt_of_lt_of_le (hT2.lt k hk) hc3.size⟩
  generalize hw3 : w2.setCell ⟨t, 2, none⟩ (.pointer (some ⟨q, 0, none⟩)) = w3 at *
  clear hT2 hS1 hPW hbW c2 c3 hP1 hN1 hc3
  have hbx3 := hT3.blk hbox (HB.out 0)
  have hz3 := hT3.blk hzero (HB.out 1)
  obtain ⟨b0, b1, b2⟩ := box_cells hbx3
  have r2 : w3.cell? ⟨t, 2, none⟩ = some (.pointer (some ⟨q, 0, none⟩)) := cell_blk hb3 2
  have q0 : w3.cell? ⟨q, 0, none⟩ = some iv1 := cell_blk hN3.blk 0
  have q1 : w3.frozen? ⟨q, 0, none⟩ = false := frozen_blk hN3.blk 0
  have ca : ∀ o, (w3.alloc o).cell? ⟨q, 0, none⟩ = some iv1 := fun o => (World.cell?_alloc_some w3 _ o (by rw [q0]; rfl)).trans q0
  have ct : ∀ o, (w3.alloc o).cell? ⟨t, 2, none⟩ = some (.pointer (some ⟨q, 0, none⟩)) := fun o => (World.cell?_alloc_some w3 _ o (by rw [r2]; rfl)).trans r2
  have hti : some t ≠ iv1.ownBlock := fun e => by have := hu2 t; unfold nodeF at this; rw [one_self, ob_of e.symm] at this; omega
  go_wp2
  go_cut [] (fun wd => ∃ g cap, NodeAt wd q (.slice (some ⟨g, 0, none⟩) 1 cap) cv1 (ptr c) [e] [] ∧ Stp (nodeF q iv1 cv1) w3 wd (nodeF q (.slice (some ⟨g, 0, none⟩) 1 cap) cv1))
  case first =>
    clear hT3 hP3 hz3 hbx3 hzero hbox HB hd hchgW Hb hb2 d2 f2 htW hGt hw3 hu2
    go_region_law (refine step_append_lies _ (by rfl) _ _ _ (by rfl) 0 33 i0 _ 3 48 Try.underlying102 hi0 hz0 hz1 hz2 rfl (by omega) iv1 0 [] (by rfl) ((hN3.ri.alloc _).drew) ⟨w3.heap.size, 0, none⟩ 1 1 [.string e.key, .int .u64 e.ver, .slice e.va e.vn e.vc] (by rfl) (by rfl) (World.news_of_block (cs := #[.string e.key, .int .u64 e.ver, .slice e.va e.vn e.vc]) (t := 33) (fr := (0, 0)) (heap_alloc_new w3 _)) (by simp [Value.oneCell']) (by omega) (by unfold maxLen; omega) (by omega) (Nat.zero_le _) (w3.heap.size + 1) (by simp) ?_; intro g cap w1 hown1 hgrow hat hlt; have hX := ((Chg.refl (fun _ => 0) w3).alloc (Obj.cells #[.string e.key, .int .u64 e.ver, .slice e.va e.vn e.vc] 33)).drew; have hb1 := grown_blk hX hgrow hN3.blk hN3.ne_i; have c1 : w1.cell? ⟨q, 0, none⟩ = some iv1 := cell_blk hb1 0; have f1 : w1.frozen? ⟨q, 0, none⟩ = false := frozen_blk hb1 0; have hbt := grown_blk hX hgrow hb3 hti; have ct1 : w1.cell? ⟨t, 2, none⟩ = some (.pointer (some ⟨q, 0, none⟩)) := cell_blk hbt 2)
    all_goals
      go_wp2
      go_meet
      case rel =>
        obtain ⟨r1, r2⟩ := app3 (news := [e]) hN3 hX hown1 (by simp) hgrow (hat.imp id (fun h => by omega))
        exact ⟨g, cap, r1, r2⟩
  case rest =>
    obtain ⟨g, cap, hN4, hS4⟩ := hcut
    have hb4 := hS4.blk hb3 (by have := hu2 t; rw [one_self] at this; omega)
    have hP4 := hP3.keep hS4.chg (fun k => by have := hu2 k; omega)
    have hT4 := hT3.trans ((hS4.frame (fun k => one t k + G1 k) (fun k => by have := hu2 k; omega) (fun k hk => hT3.lt k (by omega))).congr (B' := fun k => one t k + nodeF q (.slice (some ⟨g, 0, none⟩) 1 cap) cv1 k + G1 k) (fun k => by omega) (fun k => by omega))
    have hR : Root wc t c len 0 ⟨q, 1, [e], nodeF q (.slice (some ⟨g, 0, none⟩) 1 cap) cv1⟩ G1 := ⟨hb4, ⟨_, _, hN4, rfl, fun _ => rfl⟩, hP4, hT4.uniq⟩
    have d1 : wc.cell? ⟨t, 1, none⟩ = some (.int .i64 len) := cell_blk hb4 1
    have d2 : wc.frozen? ⟨t, 1, none⟩ = false := frozen_blk hb4 1
    have hz4 := hT4.blk hzero (HB.out 1)
    have hz4' := hT4.zero hzero (HB.out 1)
    have htb : t ≠ b + 1 := fun e => by have h1 : one t (b + 1) + _ + _ = 0 := hz4'; rw [← e, one_self] at h1; omega
    clear hS4 hT3 hN3 hP3 hb3 hz3 hbx3 b0 b1 b2 r2 q0 q1 ca ct
    go_wp2
    generalize wrap64 (len + 1) = len2
    obtain ⟨hR5, hS5⟩ := root_setLen hR len2
    have hz5 : (wc.setCell ⟨t, 1, none⟩ (.int .i64 len2)).heap[b + 1]? = _ := (Below.heap_setCell _ _ _ _ (fun e => htb e.symm)).trans hz4
    obtain ⟨z0, z1, z2⟩ := box_cells hz5
    refine bodyPost_ret (v := .tuple #[ent0.v, .bool false]) (by simp [results, Try.results31, go_sem, z0, z1, z2, Ent.v, ent0]) rfl ?_
    exact ⟨_, rfl, ⟨by simp [Asc], Or.inr ⟨c, len2, 0, _, G1, hR5, by show 1 ≤ 63; omega, Or.inl rfl, rfl, fun _ => rfl⟩⟩, ((hT4.congr (fun _ => rfl) (fun _ => rfl)).trans hS5).pre hchgW.out⟩

end Go.Proofs.Qxb6603483a
