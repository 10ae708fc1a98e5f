/-
  (*items[Entry]).removeAt, pop: walked.
-/
import Derived.Test.Qxb6603483aUpd
import Derived.Deep.RegionHeld3
import Derived.Deep.RegionLaw
import Derived.Deep.DeepCutAuto
import Derived.Deep.DrawnRows
namespace Go.Proofs.Qxb6603483a
open Go.RowKit
set_option linter.unusedSimpArgs false
attribute [local go_sem ↓] Go.wp_at_zero Go.wp_at_succ

set_option maxRecDepth 100000 in
set_option maxHeartbeats 1000000 in
theorem removeAt3 {w : World} {p : Nat} {iv cv cp : Value} {its : List Ent} {cps : List Value} (h0 : NodeAt w p iv cv cp its cps) (i : Nat) (e : Ent) (he : its[i]? = some e) (hn : its.length ≤ 100000) :
    Calls Try.prog 56 #[.pointer (some ⟨p, 0, none⟩), .int .i64 i] w fun r w' => r = .returned e.v ∧ ∃ iv', NodeAt w' p iv' cv cp (its.eraseIdx i) cps ∧ Stp (nodeF p iv cv) w w' (nodeF p iv' cv) := by
  have hi : i < its.length := (List.getElem?_eq_some_iff.1 he).1
  obtain ⟨m, hm⟩ : ∃ m, its.length = m + 1 := ⟨its.length - 1, by omega⟩
  obtain ⟨g, cap, hiv⟩ : ∃ g cap, iv = .slice (some ⟨g, 0, none⟩) (m + 1) cap := by
    rcases h0.ri.form with ⟨_, h1⟩ | ⟨g, cap, h1⟩
    · rw [h1] at hi; simp at hi
    · exact ⟨g, cap, by rw [h1, hm]⟩
  subst hiv
  have h := h0
  clear h0
  obtain ⟨sp, hrow, hlen, hnl, hcap, hmax⟩ := h.ri.open'
  obtain ⟨t0, t1, t2⟩ := ent_at hrow he
  have c0 : w.cell? ⟨p, 0, none⟩ = some (.slice (some ⟨g, 0, none⟩) (m + 1) cap) := cell_blk h.blk 0
  have i1 : (0 : Int) ≤ (i : Int) := Int.natCast_nonneg _
  have i2 : (i : Int) < (m : Int) + 1 := by omega
  have hil : i < m + 1 := by omega
  have hm2 : m + 1 ≤ 100000 := by omega
  have Hi := hide hi
  clear hi
  have lg : g < w.heap.size := (Array.getElem?_eq_some_iff.1 hrow).1
  have lp := h.pl
  have Hrow := hide hrow
  have Hlen := hide hlen
  have Hnl := hide hnl
  have He := hide he
  have Hm := hide hm
  clear hrow hlen hnl he hm hn
  unfold Ent.v
  go_enter Try.func56, Try.ntmps56
  go_wp2
  obtain ⟨W, hW, ⟨hbox, hitem⟩, hchg⟩ : ∃ W, W = (w.alloc (Obj.cells #[Value.string { data := #[] }, Value.int IntKind.u64 0, Value.slice none 0 0] 33)).alloc (Obj.cells #[Value.string e.key, Value.int IntKind.u64 e.ver, Value.slice e.va e.vn e.vc] 33) ∧
      (W.heap[w.heap.size]? = some (.cells #[Value.string { data := #[] }, Value.int IntKind.u64 0, Value.slice none 0 0] 33 (0, 0)) ∧
      W.heap[w.heap.size + 1]? = some (.cells #[Value.string e.key, Value.int IntKind.u64 e.ver, Value.slice e.va e.vn e.vc] 33 (0, 0))) ∧ Chg (fun _ => 0) w W :=
    ⟨_, rfl, two_boxes w _ _ _ _, ((Chg.refl _ w).alloc _).alloc _⟩
  rw [← hW]
  have hN : NodeAt W p (.slice (some ⟨g, 0, none⟩) (m + 1) cap) cv cp its cps := hchg.node h (fun _ _ => rfl)
  have hpg : p ≠ g := fun e => by have := h.uniq p; rw [one_self, ob_slice, e, one_self] at this; omega
  have hBc : ob cv w.heap.size = 0 := by
    by_cases hc : 1 ≤ ob cv w.heap.size
    · have := h.rc.lt hc; omega
    · omega
  have hBg : w.heap.size ≠ g := by omega
  have hBg1 : w.heap.size + 1 ≠ g := by omega
  have hBp : w.heap.size ≠ p := by omega
  have hBp1 : w.heap.size + 1 ≠ p := by omega
  clear hW t0 t1 t2 c0 lg lp
  generalize hB : w.heap.size = B at *
  have hrow : W.heap[g]? = some (.cells (cellsOf its ++ sp).toArray 33 (0, 0)) := (hchg.same g (by have := (Array.getElem?_eq_some_iff.1 Hrow.out).1; omega) rfl).trans Hrow.out
  have HrowW := hide hrow
  clear hrow
  have c0 : W.cell? ⟨p, 0, none⟩ = some (.slice (some ⟨g, 0, none⟩) (m + 1) cap) := cell_blk hN.blk 0
  have hc1 : ∀ w', (Instr.sliceAt 102 (.slice (some ⟨g, 0, none⟩) (m + 1) cap) (some (.int .i64 (i : Int))) none none).run Try.prog w' = .ok (.slice (some (cutA g cap i 3)) (m + 1 - i) (cap - i)) w' :=
    fun w' => run_cut 102 3 g _ cap i _ rfl (by omega) Try.underlying102 (fun _ => by kernel_rfl) w'
  have hc2 : ∀ w', (Instr.sliceAt 102 (.slice (some ⟨g, 0, none⟩) (m + 1) cap) (some (.int .i64 ((i : Int) + 1))) none none).run Try.prog w' = .ok (.slice (some (cutA g cap (i + 1) 3)) (m - i) (cap - (i + 1))) w' :=
    fun w' => by have := run_cut (P := Try.prog) 102 3 g (m + 1) cap (i + 1) ((i : Int) + 1) (by omega) (by omega) Try.underlying102 (fun _ => by kernel_rfl) w'; rw [Nat.add_sub_add_right] at this; exact this
  have i3 : (m : Int) ≤ 100000 := by omega
  have hw1 : IntKind.i64.wrap ((i : Int) + 1) = (i : Int) + 1 := by rw [IntKind.wrap_i64]; omega
  have hmin : (m - i).min (m + 1 - i) = m - i := Nat.min_eq_left (by omega)
  have s1 : Hid ((cellsOf (its.drop (i + 1))).length = (m - i).min (m + 1 - i) * 3) := by
    show _ = _
    rw [cellsOf_length, List.length_drop, hmin, Hm.out]; omega
  have s2 : Hid ((m - i).min (m + 1 - i) = 0 → cellsOf (its.drop (i + 1)) = []) := fun h0 => by
    rw [hmin] at h0
    rw [List.drop_of_length_le (by rw [Hm.out]; omega)]; rfl
  have s3 : Hid (0 < (m - i).min (m + 1 - i) → some (cutA g cap i 3) = some ⟨g, i * 3, none⟩ ∧ ∃ ad, some (cutA g cap (i + 1) 3) = some ad ∧ ∀ j v, (cellsOf (its.drop (i + 1)))[j]? = some v → W.cell? (ad.add j) = some v) := fun h0 => by
    rw [hmin] at h0
    exact ⟨by rw [cutA_of (by omega)], ⟨g, (i + 1) * 3, none⟩, by rw [cutA_of (by omega)], cells3_at HrowW.out (i + 1)⟩
  have s4 : Hid (i * 3 + (cellsOf (its.drop (i + 1))).length ≤ (cellsOf its ++ sp).length) := by
    show _ ≤ _
    rw [cellsOf_length, List.length_drop, List.length_append, cellsOf_length, Hm.out]
    omega
  clear hmin
  have hwl := hN.pl
  go_cut [] (fun wc => ∃ y, NodeAt wc p (.slice (some ⟨g, 0, none⟩) (m + 1) cap) cv cp (its.eraseIdx i ++ [y]) cps ∧ Stp (nodeF p (.slice (some ⟨g, 0, none⟩) (m + 1) cap) cv) w wc (nodeF p (.slice (some ⟨g, 0, none⟩) (m + 1) cap) cv) ∧
      wc.heap[B]? = some (.cells #[Value.string { data := #[] }, Value.int IntKind.u64 0, Value.slice none 0 0] 33 (0, 0)) ∧
      wc.heap[B + 1]? = some (.cells #[Value.string e.key, Value.int IntKind.u64 e.ver, Value.slice e.va e.vn e.vc] 33 (0, 0)))
  case first =>
    go_region_held3 (fun w' => w'.cell? ⟨p, 0, none⟩ = some (.slice (some ⟨g, 0, none⟩) (m + 1) cap)) (first | exact c0 | exact (hgr.cell_far _ hwl (fun e => hpg (by injection e))).trans c0) ((refine step_copy_size (by rfl) _ _ _ _ (by rfl) 33 3 Try.underlying102 size33 _ _ _ _ _ _ (by rfl) (by rfl) g (i * 3) _ 33 HrowW.out (cellsOf (its.drop (i + 1))) s1.out s2.out s3.out s4.out (cellsOf_one _) ?_; intro w2 hg2 hgr hsz2))
    go_wp2
    go_meet
    case rel =>
      have hc : Chg (one g) W w2 := ((Chg.refl (one g) W).drew).grown hgr (fun k hk _ => by injection hk with hk; subst hk; rw [one_self]; exact Nat.le_refl _)
      have hg2' := hg2.out
      have hnl := Hnl.out
      have hlen := Hlen.out
      rw [splice3g _ _ _ _ (by rw [List.length_drop]; have := Hi.out; omega)] at hg2'
      obtain ⟨y, hy⟩ := erase_copy its i Hi.out
      rw [hy] at hg2'
      have hel : (its.eraseIdx i ++ [y]).length = its.length := by rw [List.length_append, List.length_eraseIdx, if_pos Hi.out]; have := Hi.out; simp; omega
      obtain ⟨r1, r2⟩ := row3_turned hN hc (Row3.shut hg2' (by rw [List.length_append, cellsOf_length] at hlen ⊢; rw [hel]; exact hlen) (by rw [hel]; exact hnl) hcap hmax)
      refine ⟨y, r1, r2.pre hchg, ?_, ?_⟩
      · exact (hc.same B (Array.getElem?_eq_some_iff.1 hbox).1 (one_other hBg)).trans hbox
      · exact (hc.same (B + 1) (Array.getElem?_eq_some_iff.1 hitem).1 (one_other hBg1)).trans hitem
  case rest =>
    clear hc1 hc2 s1 s2 s3 s4 HrowW c0 hwl hbox hitem
    obtain ⟨y, hN1, hS1, hbox1, hitem1⟩ := hcut
    have hel : (its.eraseIdx i).length = m := by rw [List.length_eraseIdx, if_pos Hi.out, Hm.out]; rfl
    have Hel := hide hel
    clear hel
    go_wp2
    obtain ⟨W2, hW2, hz2, hchg2⟩ : ∃ W2, W2 = wc.alloc (Obj.cells #[Value.string { data := #[] }, Value.int IntKind.u64 0, Value.slice none 0 0] 33) ∧
        W2.heap[wc.heap.size]? = some (.cells #[Value.string { data := #[] }, Value.int IntKind.u64 0, Value.slice none 0 0] 33 (0, 0)) ∧ Chg (fun _ => 0) wc W2 :=
      ⟨_, rfl, (MapKept.heap_alloc wc _).1, (Chg.refl _ wc).alloc _⟩
    rw [← hW2]
    have hN2 := hchg2.node hN1 (fun _ _ => rfl)
    have hbox2 := (hchg2.same B (Array.getElem?_eq_some_iff.1 hbox1).1 rfl).trans hbox1
    have hitem2 := (hchg2.same (B + 1) (Array.getElem?_eq_some_iff.1 hitem1).1 rfl).trans hitem1
    have hS2 := hS1.trans ((Stp.refl (A := nodeF p (.slice (some ⟨g, 0, none⟩) (m + 1) cap) cv) hN2.fit (fun k hk => hN2.lt hk)).pre hchg2)
    have hzg : wc.heap.size ≠ g := by have := hN1.ri.lt (k := g) (by rw [ob_slice, one_self]; exact Nat.le_refl _); omega
    clear hW2
    generalize wc.heap.size = Z at *
    clear hN1 hS1 hbox1 hitem1 hchg2
    have c0 : W2.cell? ⟨p, 0, none⟩ = some (.slice (some ⟨g, 0, none⟩) (m + 1) cap) := cell_blk hN2.blk 0
    have z0 : W2.cell? ⟨Z, 0, none⟩ = some (.string ⟨#[]⟩) := cell_blk hz2 0
    have z1 : W2.cell? ⟨Z, 1, none⟩ = some (.int .u64 0) := cell_blk hz2 1
    have z2 : W2.cell? ⟨Z, 2, none⟩ = some (.slice none 0 0) := cell_blk hz2 2
    obtain ⟨sp2, hrow2⟩ := hN2.ri.blkOf
    have hAl : (its.eraseIdx i ++ [y])[m]? = some y := by rw [List.getElem?_append_right (by rw [Hel.out]; exact Nat.le_refl _), Hel.out]; simp
    obtain ⟨t0, t1, t2⟩ := ent_at hrow2 hAl
    have g0 := frozen_blk hrow2 (m * 3)
    have g1 := frozen_blk hrow2 (m * 3 + 1)
    have g2 := frozen_blk hrow2 (m * 3 + 2)
    clear hrow2 hAl
    have m0 : (0 : Int) ≤ (m : Int) := Int.natCast_nonneg _
    have hix : ∀ w', (Instr.indexAt 102 (.slice (some ⟨g, 0, none⟩) (m + 1) cap) (.int .i64 (m : Int))).run Try.prog w' = .ok (.pointer (some ⟨g, m * 3, none⟩)) w' :=
      fun w' => run_ix 102 3 g _ cap m _ rfl (by omega) Try.underlying102 (fun _ => by kernel_rfl) w'
    have hwm : IntKind.i64.wrap (m : Int) = (m : Int) := by rw [IntKind.wrap_i64]; omega
    go_cut [] (fun wd => NodeAt wd p (.slice (some ⟨g, 0, none⟩) (m + 1) cap) cv cp (its.eraseIdx i ++ [ent0]) cps ∧ Stp (nodeF p (.slice (some ⟨g, 0, none⟩) (m + 1) cap) cv) w wd (nodeF p (.slice (some ⟨g, 0, none⟩) (m + 1) cap) cv) ∧
      wd.heap[B]? = some (.cells #[Value.string { data := #[] }, Value.int IntKind.u64 0, Value.slice none 0 0] 33 (0, 0)) ∧
      wd.heap[B + 1]? = some (.cells #[Value.string e.key, Value.int IntKind.u64 e.ver, Value.slice e.va e.vn e.vc] 33 (0, 0)))
    case first =>
      go_region_held3 (fun w' => w'.cell? ⟨p, 0, none⟩ = some (.slice (some ⟨g, 0, none⟩) (m + 1) cap) ∧ w'.cell? ⟨Z, 0, none⟩ = some (.string ⟨#[]⟩) ∧ w'.cell? ⟨Z, 1, none⟩ = some (.int .u64 0) ∧ w'.cell? ⟨Z, 2, none⟩ = some (.slice none 0 0)) (first | exact ⟨c0, z0, z1, z2⟩ | exact ⟨(kept3 hpg).trans c0, (kept3 hzg).trans z0, (kept3 hzg).trans z1, (kept3 hzg).trans z2⟩) (fail)
      go_wp2
      go_meet
      case rel =>
        obtain ⟨r1, r2, r3⟩ := store3 hN2 m (by rw [List.length_append, Hel.out]; simp) ent0
        have e1 : (its.eraseIdx i ++ [y]).set m ent0 = its.eraseIdx i ++ [ent0] := by rw [List.set_append_right _ _ (by rw [Hel.out]; exact Nat.le_refl _), Hel.out]; simp
        rw [e1] at r1
        refine ⟨r1.drew, (hS2.trans r2).drew, ?_, ?_⟩
        · exact (r3.same B (Array.getElem?_eq_some_iff.1 hbox2).1 (one_other hBg)).trans hbox2
        · exact (r3.same (B + 1) (Array.getElem?_eq_some_iff.1 hitem2).1 (one_other hBg1)).trans hitem2
    case rest =>
      clear hN2 hS2 hbox2 hitem2 hz2 c0 z0 z1 z2 t0 t1 t2 g0 g1 g2
      obtain ⟨hN3, hS3, hbox3, hitem3⟩ := hcut
      have c0 : wc.cell? ⟨p, 0, none⟩ = some (.slice (some ⟨g, 0, none⟩) (m + 1) cap) := cell_blk hN3.blk 0
      have f0 : wc.frozen? ⟨p, 0, none⟩ = false := frozen_blk hN3.blk 0
      have hh1 : ∀ w', (Instr.sliceAt 102 (.slice (some ⟨g, 0, none⟩) (m + 1) cap) none (some (.int .i64 (m : Int))) none).run Try.prog w' = .ok (.slice (some ⟨g, 0, none⟩) m cap) w' :=
        fun w' => run_head 102 3 g _ cap m _ rfl (by omega) Try.underlying102 (fun _ => by kernel_rfl) w'
      go_wp2
      go_cut [] (fun wd => NodeAt wd p (.slice (some ⟨g, 0, none⟩) m cap) cv cp (its.eraseIdx i) cps ∧ Stp (nodeF p (.slice (some ⟨g, 0, none⟩) (m + 1) cap) cv) w wd (nodeF p (.slice (some ⟨g, 0, none⟩) m cap) cv) ∧
        wd.heap[B]? = some (.cells #[Value.string { data := #[] }, Value.int IntKind.u64 0, Value.slice none 0 0] 33 (0, 0)) ∧
        wd.heap[B + 1]? = some (.cells #[Value.string e.key, Value.int IntKind.u64 e.ver, Value.slice e.va e.vn e.vc] 33 (0, 0)))
      case first =>
        go_region_law (fail)
        all_goals
          go_wp2
          go_meet
          case rel =>
            obtain ⟨r1, r2⟩ := head3 (m := m) hN3 (by rw [List.length_append, Hel.out]; simp)
            rw [List.take_append_of_le_length (by rw [Hel.out]; exact Nat.le_refl _), List.take_of_length_le (by rw [Hel.out]; exact Nat.le_refl _)] at r1
            refine ⟨r1.drew, (hS3.trans r2).drew, ?_, ?_⟩
            · exact (Below.heap_setCell _ _ _ _ hBp).trans hbox3
            · exact (Below.heap_setCell _ _ _ _ hBp1).trans hitem3
      case rest =>
        clear hN3 hS3 hbox3 hitem3 c0 f0 hh1
        obtain ⟨hN4, hS4, hbox4, hitem4⟩ := hcut
        have b0 : wc.cell? ⟨B, 0, none⟩ = some (.string ⟨#[]⟩) := cell_blk hbox4 0
        have b1 : wc.cell? ⟨B, 1, none⟩ = some (.int .u64 0) := cell_blk hbox4 1
        have b2 : wc.cell? ⟨B, 2, none⟩ = some (.slice none 0 0) := cell_blk hbox4 2
        have e0 : wc.cell? ⟨B + 1, 0, none⟩ = some (.string e.key) := cell_blk hitem4 0
        have e1 : wc.cell? ⟨B + 1, 1, none⟩ = some (.int .u64 e.ver) := cell_blk hitem4 1
        have e2 : wc.cell? ⟨B + 1, 2, none⟩ = some (.slice e.va e.vn e.vc) := cell_blk hitem4 2
        have f0 := frozen_blk hbox4 0
        have f1 := frozen_blk hbox4 1
        have f2 := frozen_blk hbox4 2
        go_wp2
        have hf0 : nodeF p (.slice (some ⟨g, 0, none⟩) m cap) cv B = 0 := by unfold nodeF; rw [ob_slice, one_other hBp, one_other hBg, hBc]
        refine bodyPost_ret (v := .agg #[Value.string e.key, Value.int IntKind.u64 e.ver, Value.slice e.va e.vn e.vc]) (by simp [results, Try.results56, go_sem, b0, b1, b2]) rfl ⟨rfl, _, ((hN4.setCell (a := ⟨B, 0, none⟩) hf0 _).setCell (a := ⟨B, 1, none⟩) hf0 _).setCell (a := ⟨B, 2, none⟩) hf0 _, ?_⟩
        exact ((hS4.setFresh (a := ⟨B, 0, none⟩) (by rw [hB]; exact Nat.le_refl _) _).setFresh (a := ⟨B, 1, none⟩) (by rw [hB]; exact Nat.le_refl _) _).setFresh (a := ⟨B, 2, none⟩) (by rw [hB]; exact Nat.le_refl _) _

end Go.Proofs.Qxb6603483a
