/-
  (*items[Entry]).insertAt: walked.
-/
import Derived.Test.Qxb6603483aUpd
import Derived.Deep.RegionHeld3
import Derived.Deep.AppendLies
import Derived.Deep.DeepCutAuto
import Derived.Deep.DrawnRows
namespace Go.Proofs.Qxb6603483a
open Go.RowKit
set_option linter.unusedSimpArgs false
attribute [local go_sem ↓] Go.wp_at_zero Go.wp_at_succ

set_option maxRecDepth 100000 in
set_option maxHeartbeats 1000000 in
theorem insertAt3 {w : World} {p : Nat} {iv cv cp : Value} {its : List Ent} {cps : List Value} (h : NodeAt w p iv cv cp its cps) (i : Nat) (hi : i ≤ its.length) (hn : its.length ≤ 100000) (e : Ent) :
    Calls Try.prog 50 #[.pointer (some ⟨p, 0, none⟩), .int .i64 i, e.v] w fun r w' => r = .returned (.tuple #[]) ∧ ∃ iv', NodeAt w' p iv' cv cp (its.take i ++ e :: its.drop i) cps ∧ Stp (nodeF p iv cv) w w' (nodeF p iv' cv) := by
  obtain ⟨i0, hi0, hz0, hz1, hz2⟩ := info_parts info33
  unfold Ent.v
  go_enter Try.func50, Try.ntmps50
  go_wp2
  obtain ⟨W, hW, ⟨hbox, hzero⟩, hchg⟩ : ∃ W, W = (w.alloc (Obj.cells #[Value.string e.key, Value.int IntKind.u64 e.ver, Value.slice e.va e.vn e.vc] 33)).alloc (Obj.cells #[Value.string { data := #[] }, Value.int IntKind.u64 0, Value.slice none 0 0] 33) ∧
      (W.heap[w.heap.size]? = some (.cells #[Value.string e.key, Value.int IntKind.u64 e.ver, Value.slice e.va e.vn e.vc] 33 (0, 0)) ∧
      W.heap[w.heap.size + 1]? = some (.cells #[Value.string { data := #[] }, Value.int IntKind.u64 0, Value.slice none 0 0] 33 (0, 0))) ∧ Chg (fun _ => 0) w W :=
    ⟨_, rfl, two_boxes w _ _ _ _, ((Chg.refl _ w).alloc _).alloc _⟩
  rw [← hW]
  have hN : NodeAt W p iv cv cp its cps := hchg.node h (fun _ _ => rfl)
  clear hW
  have hBl : w.heap.size < W.heap.size := (Array.getElem?_eq_some_iff.1 hbox).1
  have hBp : w.heap.size ≠ p := by have := h.pl; omega
  have hBi : some w.heap.size ≠ iv.ownBlock := fun e => by have := h.ri.lt (k := w.heap.size) (by rw [ob_of e.symm]; omega); omega
  generalize hB : w.heap.size = B at *
  have c0 : W.cell? ⟨p, 0, none⟩ = some iv := cell_blk hN.blk 0
  have f0 : W.frozen? ⟨p, 0, none⟩ = false := frozen_blk hN.blk 0
  have z0 : W.cell? ⟨B + 1, 0, none⟩ = some (.string ⟨#[]⟩) := cell_blk hzero 0
  have z1 : W.cell? ⟨B + 1, 1, none⟩ = some (.int .u64 0) := cell_blk hzero 1
  have z2 : W.cell? ⟨B + 1, 2, none⟩ = some (.slice none 0 0) := cell_blk hzero 2
  have ca : ∀ o, (W.alloc o).cell? ⟨p, 0, none⟩ = some iv := fun o => (World.cell?_alloc_some W _ o (by rw [c0]; rfl)).trans c0
  go_cut [] (fun wc => ∃ g cap, NodeAt wc p (.slice (some ⟨g, 0, none⟩) (its.length + 1) cap) cv cp (its ++ [ent0]) cps ∧ Stp (nodeF p iv cv) w wc (nodeF p (.slice (some ⟨g, 0, none⟩) (its.length + 1) cap) cv) ∧
      wc.heap[B]? = some (.cells #[Value.string e.key, Value.int IntKind.u64 e.ver, Value.slice e.va e.vn e.vc] 33 (0, 0)) ∧ B ≠ g)
  case first =>
    go_region_law (refine step_append_lies _ (by rfl) _ _ _ (by rfl) 0 33 i0 _ 3 48 Try.underlying102 hi0 hz0 hz1 hz2 rfl (by omega) iv its.length (cellsOf its) (by rfl) ((hN.ri.alloc _).drew) ⟨W.heap.size, 0, none⟩ 1 1 [.string ⟨#[]⟩, .int .u64 0, .slice none 0 0] (by rfl) (by rfl) (World.news_of_block (cs := #[.string ⟨#[]⟩, .int .u64 0, .slice none 0 0]) (t := 33) (fr := (0, 0)) (heap_alloc_new W _)) (by simp [Value.oneCell']) (by omega) (by unfold maxLen; omega) (by omega) (Nat.zero_le _) (W.heap.size + 1) (by simp) ?_; intro g cap w1 hown1 hgrow hat hlt; have hX := ((Chg.refl (fun _ => 0) W).alloc (Obj.cells #[.string ⟨#[]⟩, .int .u64 0, .slice none 0 0] 33)).drew; have hb1 := grown_blk hX hgrow hN.blk hN.ne_i; have hb2 := grown_blk hX hgrow hbox hBi; have c1 : w1.cell? ⟨p, 0, none⟩ = some iv := cell_blk hb1 0; have f1 : w1.frozen? ⟨p, 0, none⟩ = false := frozen_blk hb1 0)
    all_goals
      go_wp2
      go_meet
      case rel =>
        have hat' : iv.ownBlock = some g ∨ W.heap.size ≤ g := hat.imp id (fun h => by omega)
        obtain ⟨r1, r2⟩ := app3 (news := [ent0]) hN hX hown1 (by simp) hgrow hat'
        refine ⟨g, cap, r1, r2.pre hchg, ?_, ?_⟩
        · rw [Below.heap_setCell _ _ _ _ hBp]; exact hb2
        · intro e
          rcases hat' with h' | h'
          · exact hBi (by rw [h', e])
          · omega
  case rest =>
    obtain ⟨g, cap, hN1, hS1, hbox1, hBg⟩ := hcut
    have c1 : wc.cell? ⟨p, 0, none⟩ = some (.slice (some ⟨g, 0, none⟩) (its.length + 1) cap) := cell_blk hN1.blk 0
    obtain ⟨sp, hrow, hlen, hx, hcap, _⟩ := hN1.ri.open'
    clear hx
    have hrow' : Hid (wc.heap[g]? = some (.cells (cellsOf (its ++ [ent0]) ++ sp).toArray 33 (0, 0))) := hrow
    clear hrow
    have hlen' := hide hlen
    clear hlen
    have i1 : (0 : Int) ≤ (i : Int) := Int.natCast_nonneg _
    have i2 : (i : Int) ≤ (its.length : Int) := by omega
    have i3 : (its.length : Int) + 1 ≤ (cap : Int) := by omega
    have i4 : (its.length : Int) ≤ 100000 := by omega
    have hc1 : ∀ w', (Instr.sliceAt 102 (.slice (some ⟨g, 0, none⟩) (its.length + 1) cap) (some (.int .i64 ((i : Int) + 1))) none none).run Try.prog w' = .ok (.slice (some (cutA g cap (i + 1) 3)) (its.length + 1 - (i + 1)) (cap - (i + 1))) w' :=
      fun w' => run_cut 102 3 g _ cap (i + 1) _ (by omega) (by omega) Try.underlying102 (fun _ => by kernel_rfl) w'
    have hc2 : ∀ w', (Instr.sliceAt 102 (.slice (some ⟨g, 0, none⟩) (its.length + 1) cap) (some (.int .i64 (i : Int))) none none).run Try.prog w' = .ok (.slice (some (cutA g cap i 3)) (its.length + 1 - i) (cap - i)) w' :=
      fun w' => run_cut 102 3 g _ cap i _ rfl (by omega) Try.underlying102 (fun _ => by kernel_rfl) w'
    have hw1 : IntKind.i64.wrap ((i : Int) + 1) = (i : Int) + 1 := by rw [IntKind.wrap_i64]; omega
    have hmin : (its.length + 1 - i).min (its.length - i) = its.length - i := Nat.min_eq_right (by omega)
    have s1 : Hid ((cellsOf (its.drop i)).length = (its.length + 1 - i).min (its.length - i) * 3) := by
      show _ = _
      rw [cellsOf_length, List.length_drop, hmin]
    have s2 : Hid ((its.length + 1 - i).min (its.length - i) = 0 → cellsOf (its.drop i) = []) := fun h0 => by
      rw [hmin] at h0
      rw [List.drop_of_length_le (by omega)]; rfl
    have s3 : Hid (0 < (its.length + 1 - i).min (its.length - i) → some (cutA g cap (i + 1) 3) = some ⟨g, (i + 1) * 3, none⟩ ∧ ∃ ad, some (cutA g cap i 3) = some ad ∧ ∀ j v, (cellsOf (its.drop i))[j]? = some v → wc.cell? (ad.add j) = some v) := fun h0 => by
      rw [hmin] at h0
      refine ⟨by rw [cutA_of (by omega)], ⟨g, i * 3, none⟩, by rw [cutA_of (by omega)], fun j v hv => ?_⟩
      refine cells3_at hrow'.out i j v ?_
      rw [List.drop_append_of_le_length (by omega), cellsOf_append, List.getElem?_append_left (by have := (List.getElem?_eq_some_iff.1 hv).1; omega)]
      exact hv
    have s4 : Hid ((i + 1) * 3 + (cellsOf (its.drop i)).length ≤ (cellsOf (its ++ [ent0]) ++ sp).length) := by
      show _ ≤ _
      rw [cellsOf_length, List.length_drop, List.length_append, cellsOf_length]
      simp
      omega
    clear hmin
    have hpg : p ≠ g := fun e => by have := hN1.uniq p; rw [one_self, ob_slice, e, one_self] at this; omega
    have hwl := hN1.pl
    clear ca z0 z1 z2 c0 f0
    go_wp2
    go_cut [] (fun w2 => NodeAt w2 p (.slice (some ⟨g, 0, none⟩) (its.length + 1) cap) cv cp ((its ++ [ent0]).take (i + 1) ++ its.drop i) cps ∧ Stp (nodeF p iv cv) w w2 (nodeF p (.slice (some ⟨g, 0, none⟩) (its.length + 1) cap) cv) ∧
      w2.heap[B]? = some (.cells #[Value.string e.key, Value.int IntKind.u64 e.ver, Value.slice e.va e.vn e.vc] 33 (0, 0)))
    case first =>
      go_region_held3 (fun w' => w'.cell? ⟨p, 0, none⟩ = some (.slice (some ⟨g, 0, none⟩) (its.length + 1) cap)) (first | exact c1 | exact (hgr.cell_far _ hwl (fun e => hpg (by injection e))).trans c1) ((refine step_copy_size (by rfl) _ _ _ _ (by rfl) 33 3 Try.underlying102 size33 _ _ _ _ _ _ (by rfl) (by rfl) g ((i + 1) * 3) _ 33 hrow'.out (cellsOf (its.drop i)) s1.out s2.out s3.out s4.out (cellsOf_one _) ?_; intro w2 hg2 hgr hsz2))
      go_wp2
      go_meet
      case rel =>
        have hc : Chg (one g) wc w2 := ((Chg.refl (one g) wc).drew).grown hgr (fun k hk _ => by injection hk with hk; subst hk; rw [one_self]; exact Nat.le_refl _)
        have hg2' := hg2.out
        rw [splice3 _ _ _ _ (by simp; omega)] at hg2'
        obtain ⟨r1, r2⟩ := row3_turned hN1 hc (Row3.shut hg2' (by have := hlen'.out; rw [List.length_append, cellsOf_length] at this ⊢; simp at this ⊢; omega) (by simp; omega) (by omega) (by assumption))
        refine ⟨r1, hS1.trans r2, ?_⟩
        exact (hc.same B (Array.getElem?_eq_some_iff.1 hbox1).1 (one_other hBg)).trans hbox1
    case rest =>
      clear hc1 hc2 s1 s2 s3 s4 hrow' hlen' hbox1 hS1 hN1 c1 hwl
      obtain ⟨hN2, hS2, hbox2⟩ := hcut
      have c1 : wc.cell? ⟨p, 0, none⟩ = some (.slice (some ⟨g, 0, none⟩) (its.length + 1) cap) := cell_blk hN2.blk 0
      have b0 : wc.cell? ⟨B, 0, none⟩ = some (.string e.key) := cell_blk hbox2 0
      have b1 : wc.cell? ⟨B, 1, none⟩ = some (.int .u64 e.ver) := cell_blk hbox2 1
      have b2 : wc.cell? ⟨B, 2, none⟩ = some (.slice e.va e.vn e.vc) := cell_blk hbox2 2
      obtain ⟨sp, hrow, hlen, hx, hcap2, hmax⟩ := hN2.ri.open'
      have hAl : i < ((its ++ [ent0]).take (i + 1) ++ its.drop i).length := by simp; omega
      obtain ⟨t0, t1, t2⟩ := ent_at hrow (List.getElem?_eq_getElem hAl)
      have g0 := frozen_blk hrow (i * 3)
      have g1 := frozen_blk hrow (i * 3 + 1)
      have g2 := frozen_blk hrow (i * 3 + 2)
      have Hrow := hide hrow
      have Hlen := hide hlen
      clear hrow hlen hx
      generalize ((its ++ [ent0]).take (i + 1) ++ its.drop i)[i] = old at t0 t1 t2
      go_wp2
      go_region_held3 (fun w' => w'.cell? ⟨p, 0, none⟩ = some (.slice (some ⟨g, 0, none⟩) (its.length + 1) cap) ∧ w'.cell? ⟨B, 0, none⟩ = some (.string e.key) ∧ w'.cell? ⟨B, 1, none⟩ = some (.int .u64 e.ver) ∧ w'.cell? ⟨B, 2, none⟩ = some (.slice e.va e.vn e.vc)) (first | exact ⟨c1, b0, b1, b2⟩ | exact ⟨(kept3 hpg).trans c1, (kept3 hBg).trans b0, (kept3 hBg).trans b1, (kept3 hBg).trans b2⟩) (fail)
      go_wp2
      go_end0
      have hset := set3 Hrow.out i hAl e
      have hc : Chg (one g) wc (((wc.setCell ⟨g, i * 3, none⟩ (.string e.key)).setCell ⟨g, i * 3 + 1, none⟩ (.int .u64 e.ver)).setCell ⟨g, i * 3 + 2, none⟩ (.slice e.va e.vn e.vc)).drew :=
        ((((Chg.refl (one g) wc).setCell (p := ⟨g, i * 3, none⟩) (fun _ => by show 1 ≤ one g g; rw [one_self]; exact Nat.le_refl _) _).setCell (p := ⟨g, i * 3 + 1, none⟩) (fun _ => by show 1 ≤ one g g; rw [one_self]; exact Nat.le_refl _) _).setCell (p := ⟨g, i * 3 + 2, none⟩) (fun _ => by show 1 ≤ one g g; rw [one_self]; exact Nat.le_refl _) _).drew
      rw [set_at_take _ i (by simp; omega)] at hset
      have hl := Hlen.out
      obtain ⟨r1, r2⟩ := row3_turned hN2 hc (Row3.shut (w := (((wc.setCell ⟨g, i * 3, none⟩ (.string e.key)).setCell ⟨g, i * 3 + 1, none⟩ (.int .u64 e.ver)).setCell ⟨g, i * 3 + 2, none⟩ (.slice e.va e.vn e.vc)).drew) (n := its.length + 1) (cap := cap) hset (by rw [List.length_append, cellsOf_length] at hl ⊢; simp at hl ⊢; omega) (by simp; omega) (by omega) hmax)
      refine ⟨rfl, _, ?_, hS2.trans r2⟩
      rw [List.take_append_of_le_length hi] at r1
      exact r1

end Go.Proofs.Qxb6603483a
