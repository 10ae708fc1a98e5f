/-
  split: walked.
-/
import Derived.Test.Qxb6603483aBox
import Derived.Test.Qxb6603483aNew
import Derived.Test.Qxb6603483aTru3
import Derived.Test.Qxb6603483aTru1
import Derived.Test.Qxb6603483aIns1
namespace Go.Proofs.Qxb6603483a
open Go.RowKit
set_option linter.unusedSimpArgs false
attribute [local go_sem ↓] Go.wp_at_zero Go.wp_at_succ

set_option maxRecDepth 100000 in
set_option maxHeartbeats 1000000 in
theorem split41 {w : World} {p c i : Nat} {iv cv : Value} {its : List Ent} {cps : List Value} {G : Nat → Nat} {e : Ent} (hN : NodeAt w p iv cv (ptr c) its cps) (hP : Pool w c G) (hd : ∀ k, nodeF p iv cv k + G k ≤ 1)
    (he : its[i]? = some e) (hi : i + 1 < its.length) (hn : its.length ≤ 1000) (hk : cps = [] ∨ (i + 1 < cps.length ∧ cps.length ≤ 1001)) (hone : ∀ v ∈ cps, v.oneCell' = true) :
    Calls Try.prog 41 #[.pointer (some ⟨p, 0, none⟩), .int .i64 i] w fun r w' => ∃ q iv' cv' iv2 cv2 G', r = .returned (.tuple #[e.v, ptr q]) ∧ NodeAt w' p iv' cv' (ptr c) (its.take i) (cps.take (i + 1)) ∧ NodeAt w' q iv2 cv2 (ptr c) (its.drop (i + 1)) (cps.drop (i + 1)) ∧
      Pool w' c G' ∧ Stp (fun k => nodeF p iv cv k + G k) w w' (fun k => nodeF p iv' cv' k + nodeF q iv2 cv2 k + G' k) := by
  obtain ⟨n, hnl⟩ : ∃ n, n = its.length := ⟨_, rfl⟩
  obtain ⟨g, cap, hiv⟩ : ∃ g cap, iv = .slice (some ⟨g, 0, none⟩) n cap := by
    rcases hN.ri.form with ⟨_, h1⟩ | ⟨g, cap, h1⟩
    · rw [h1] at hi; simp at hi
    · exact ⟨g, cap, by rw [h1, hnl]⟩
  subst hiv
  obtain ⟨sp, hrow⟩ := hN.ri.blkOf
  have c0 : w.cell? ⟨p, 0, none⟩ = some (.slice (some ⟨g, 0, none⟩) n cap) := cell_blk hN.blk 0
  have c2 : w.cell? ⟨p, 2, none⟩ = some (.pointer (some ⟨c, 0, none⟩)) := cell_blk hN.blk 2
  obtain ⟨t0, t1, t2⟩ := ent_at hrow he
  have hin : i < n := by omega
  have hix : ∀ w', (Instr.indexAt 102 (.slice (some ⟨g, 0, none⟩) n cap) (.int .i64 (i : Int))).run Try.prog w' = .ok (.pointer (some ⟨g, i * 3, none⟩)) w' :=
    fun w' => run_ix (P := Try.prog) 102 3 g n cap i (i : Int) rfl hin Try.underlying102 (fun _ => by kernel_rfl) w'
  obtain ⟨i0, hi0, hz0, hz1, hz2⟩ := info_parts info33
  obtain ⟨i1, hi1, hy0, hy1, hy2⟩ := info_parts info84
  obtain ⟨sp', hr', hl', hn', hcap, hm'⟩ := hN.ri.open'
  clear hr' hl' hn' hm'
  clear sp'
  have Hnl := hide hnl
  have Hi := hide hi
  have Hn := hide hn
  have Hk := hide hk
  have Hone := hide hone
  have hn2 : n ≤ 1000 := by omega
  have hpl := hN.pl
  have hgl : g < w.heap.size := hN.ri.lt (by rw [ob_slice, one_self]; omega)
  obtain ⟨L, hL⟩ : ∃ L, L = n - (i + 1) := ⟨_, rfl⟩
  have hL0 : 0 < L := by omega
  have hL1 : L ≤ 1000 := by omega
  have HL := hide hL
  have hcL : i + 1 < cap := by omega
  have hi0' : (0 : Int) ≤ (i : Int) := Int.natCast_nonneg _
  have hi1' : (i : Int) + 1 < (n : Int) := by omega
  have hi2' : (i : Int) ≤ 1000 := by omega
  have hw1 : IntKind.i64.wrap ((i : Int) + 1) = (i : Int) + 1 := by rw [IntKind.wrap_i64]; omega
  have hc1 : ∀ w', (Instr.sliceAt 102 (.slice (some ⟨g, 0, none⟩) n cap) (some (.int .i64 ((i : Int) + 1))) none none).run Try.prog w' = .ok (.slice (some ⟨g, (i + 1) * 3, none⟩) L (cap - (i + 1))) w' :=
    fun w' => by have := run_cut (P := Try.prog) 102 3 g n cap (i + 1) ((i : Int) + 1) (by omega) (by omega) Try.underlying102 (fun _ => by kernel_rfl) w'; rw [cutA_of hcL, ← hL] at this; exact this
  have s1 : Hid ((cellsOf (its.drop (i + 1))).length = L * 3) := by show _ = _; rw [cellsOf_length, List.length_drop, hL, hnl]
  clear hnl hi hn he hin hk hone hL hcap
  go_enter Try.func41, Try.ntmps41
  go_wp2_with (fail)
  obtain ⟨W, hW, ⟨hz, hbox⟩, hch⟩ : ∃ W, W = (w.alloc (Obj.cells #[Value.string { data := #[] }, Value.int IntKind.u64 0, Value.slice none 0 0] 33)).alloc (Obj.cells #[Value.string e.key, Value.int IntKind.u64 e.ver, Value.slice e.va e.vn e.vc] 33) ∧
      (W.heap[w.heap.size]? = some (.cells #[Value.string { data := #[] }, Value.int IntKind.u64 0, Value.slice none 0 0] 33 (0, 0)) ∧
      W.heap[w.heap.size + 1]? = some (.cells #[Value.string e.key, Value.int IntKind.u64 e.ver, Value.slice e.va e.vn e.vc] 33 (0, 0))) ∧ Chg0 w W :=
    ⟨_, rfl, two_boxes w _ _ _ _, ((Chg.refl _ w).alloc _).alloc _⟩
  rw [← hW]
  have hNW : NodeAt W p (.slice (some ⟨g, 0, none⟩) n cap) cv (ptr c) its cps := hch.node hN (fun _ _ => rfl)
  have hPW : Pool W c G := hP.chg hch (fun _ _ => rfl)
  have hB : ∀ k, k = w.heap.size ∨ k = w.heap.size + 1 → nodeF p (.slice (some ⟨g, 0, none⟩) n cap) cv k + G k = 0 := fun k hk => by
    have h1 : ¬ 1 ≤ nodeF p (.slice (some ⟨g, 0, none⟩) n cap) cv k := fun h => by have := hN.lt h; omega
    have h2 : ¬ 1 ≤ G k := fun h => by have := hP.lt h; omega
    omega
  have HB := hide hB
  have Hch := hide hch
  have Hz := hide hz
  have Hbox := hide hbox
  clear hW hN hP hrow c0 c2 t0 t1 t2 hpl hgl hB hch hz hbox
  generalize hBw : w.heap.size = B at *
  have HBw := hide hBw
  clear hBw
  refine (newNode hPW).mono ?_
  rintro _ w2 ⟨q, iv1, cv1, G1, rfl, hN1, hP1, hS1⟩
  unfold ptr
  have hNp := hNW.keep hS1.chg hd
  have hT1 : Stp (fun k => nodeF p (.slice (some ⟨g, 0, none⟩) n cap) cv k + G k) W w2 (fun k => nodeF p (.slice (some ⟨g, 0, none⟩) n cap) cv k + nodeF q iv1 cv1 k + G1 k) :=
    (hS1.frame (nodeF p (.slice (some ⟨g, 0, none⟩) n cap) cv) (fun k => by have := hd k; omega) (fun k hk => hNW.lt hk)).congr (fun k => Nat.add_comm _ _) (fun k => by omega)
  have hu1 := hT1.uniq
  clear hPW hNW hS1
  obtain ⟨sp, hrow⟩ := hNp.ri.blkOf
  have c0 : w2.cell? ⟨p, 0, none⟩ = some (.slice (some ⟨g, 0, none⟩) n cap) := cell_blk hNp.blk 0
  have q0 : w2.cell? ⟨q, 0, none⟩ = some iv1 := cell_blk hN1.blk 0
  have q1 : w2.frozen? ⟨q, 0, none⟩ = false := frozen_blk hN1.blk 0
  have s2 : Hid (∀ j v, (cellsOf (its.drop (i + 1)))[j]? = some v → w2.cell? ((⟨g, (i + 1) * 3, none⟩ : Addr).add j) = some v) := cells3_at hrow (i + 1)
  clear hrow
  go_wp2
  go_cut [] (fun wd => ∃ g2 cap2, NodeAt wd q (.slice (some ⟨g2, 0, none⟩) L cap2) cv1 (ptr c) (its.drop (i + 1)) [] ∧ Stp (nodeF q iv1 cv1) w2 wd (nodeF q (.slice (some ⟨g2, 0, none⟩) L cap2) cv1))
  case first =>
    go_region_law (refine step_append_lies _ (by rfl) _ _ _ (by rfl) 0 33 i0 _ 3 48 Try.underlying102 hi0 hz0 hz1 hz2 rfl (by omega) iv1 0 [] (by rfl) (hN1.ri.drew) ⟨g, (i + 1) * 3, none⟩ L (cap - (i + 1)) (cellsOf (its.drop (i + 1))) (by rfl) s1.out s2.out (cellsOf_one _) hL0 (by unfold maxLen; omega) (by omega) (Nat.zero_le _) w2.heap.size (by rfl) ?_; rw [Nat.zero_add]; intro g2 cap2 w1 hown1 hgrow hat hlt; have hX := (Chg.refl (fun _ => 0) w2).drew; have hb1 := grown_blk hX hgrow hN1.blk hN1.ne_i; have c1 : w1.cell? ⟨q, 0, none⟩ = some iv1 := cell_blk hb1 0; have f1 : w1.frozen? ⟨q, 0, none⟩ = false := frozen_blk hb1 0)
    all_goals
      go_wp2
      go_meet
      case rel =>
        obtain ⟨r1, r2⟩ := app3 (news := its.drop (i + 1)) hN1 hX hown1 (by rw [List.length_drop, ← Hnl.out, HL.out]; simp) hgrow (hat.imp id (fun h => by omega))
        exact ⟨g2, cap2, r1, r2⟩
  case rest =>
    obtain ⟨g2, cap2, hN2, hS2⟩ := hcut
    have hNp2 := hNp.keep hS2.chg (fun k => by have := hu1 k; omega)
    have hP2 := hP1.keep hS2.chg (fun k => by have := hu1 k; omega)
    have hT2 : Stp (fun k => nodeF p (.slice (some ⟨g, 0, none⟩) n cap) cv k + G k) W wc (fun k => nodeF p (.slice (some ⟨g, 0, none⟩) n cap) cv k + nodeF q (.slice (some ⟨g2, 0, none⟩) L cap2) cv1 k + G1 k) :=
      hT1.trans ((hS2.frame (fun k => nodeF p (.slice (some ⟨g, 0, none⟩) n cap) cv k + G1 k) (fun k => by have := hu1 k; omega) (fun k hk => hT1.lt k (by omega))).congr (fun k => by omega) (fun k => by omega))
    have hu2 := hT2.uniq
    clear hT1 hS2 hP1 hNp hN1 hu1 c0 q0 q1 s1 s2 hc1 hix
    go_wp2_with (fail)
    refine (truncate3 hNp2 i (by have := Hi.out; omega) (by have := Hn.out; omega)).mono ?_
    rintro _ w4 ⟨rfl, iv4, hN4, hS4⟩
    have hNq4 := hN2.keep hS4.chg (fun k => by have := hu2 k; omega)
    have hP4 := hP2.keep hS4.chg (fun k => by have := hu2 k; omega)
    have hT4 : Stp (fun k => nodeF p (.slice (some ⟨g, 0, none⟩) n cap) cv k + G k) W w4 (fun k => nodeF p iv4 cv k + nodeF q (.slice (some ⟨g2, 0, none⟩) L cap2) cv1 k + G1 k) :=
      hT2.trans ((hS4.frame (fun k => nodeF q (.slice (some ⟨g2, 0, none⟩) L cap2) cv1 k + G1 k) (fun k => by have := hu2 k; omega) (fun k hk => hT2.lt k (by omega))).congr (fun k => by omega) (fun k => by omega))
    have hu4 := hT4.uniq
    clear hT2 hS4 hP2 hNp2 hN2 hu2
    have d1 : w4.cell? ⟨p, 1, none⟩ = some cv := cell_blk hN4.blk 1
    rcases Hk.out with hk | hk
    · subst hk
      obtain ⟨a, cc, hcv⟩ : ∃ a cc, cv = .slice a 0 cc := hN4.cform
      subst hcv
      have hb := hT4.blk Hbox.out (HB.out _ (Or.inr rfl))
      have hbz := hT4.blk Hz.out (HB.out _ (Or.inl rfl))
      have e0 : w4.cell? ⟨B + 1, 0, none⟩ = some (.string e.key) := cell_blk hb 0
      have e1 : w4.cell? ⟨B + 1, 1, none⟩ = some (.int .u64 e.ver) := cell_blk hb 1
      have e2 : w4.cell? ⟨B + 1, 2, none⟩ = some (.slice e.va e.vn e.vc) := cell_blk hb 2
      have z0 : w4.cell? ⟨B, 0, none⟩ = some (.string ⟨#[]⟩) := cell_blk hbz 0
      have z1 : w4.cell? ⟨B, 1, none⟩ = some (.int .u64 0) := cell_blk hbz 1
      have z2 : w4.cell? ⟨B, 2, none⟩ = some (.slice none 0 0) := cell_blk hbz 2
      have y0 : w4.frozen? ⟨B, 0, none⟩ = false := frozen_blk hbz 0
      have y1 : w4.frozen? ⟨B, 1, none⟩ = false := frozen_blk hbz 1
      have y2 : w4.frozen? ⟨B, 2, none⟩ = false := frozen_blk hbz 2
      go_wp2
      have hz4 := hT4.zero Hz.out (HB.out _ (Or.inl rfl))
      have r0 := boxPut_at e hbz
      refine bodyPost_ret (v := .tuple #[e.v, ptr q]) (by
        have r1 := cell_blk r0 0
        have r2 := cell_blk r0 1
        have r3 := cell_blk r0 2
        unfold boxPut at r1 r2 r3
        simp [results, Try.results41, go_sem, r1, r2, r3, Ent.v, ptr]) rfl ?_
      refine ⟨q, _, _, _, _, G1, rfl, hN4.boxPut (b := B) (by omega) e, ?_, hP4.boxPut (b := B) (by omega) e, (hT4.pre Hch.out).boxPut (b := B) (by rw [HBw.out]; exact Nat.le_refl _) e⟩
      rw [List.drop_nil]
      exact hNq4.boxPut (b := B) (by omega) e
    · obtain ⟨hk1, hk2⟩ := hk
      obtain ⟨m, hml⟩ : ∃ m, m = cps.length := ⟨_, rfl⟩
      obtain ⟨gc, cc, hcv⟩ : ∃ gc cc, cv = .slice (some ⟨gc, 0, none⟩) m cc := by
        rcases hN4.rc.form with ⟨_, h1⟩ | ⟨gc, cc, h1⟩
        · rw [h1] at hk1; simp at hk1
        · exact ⟨gc, cc, by rw [h1, hml]⟩
      subst hcv
      obtain ⟨spc, hrc, hlc, hmc, hcc, hmx⟩ := hN4.rc.open'
      obtain ⟨K, hK⟩ : ∃ K, K = m - (i + 1) := ⟨_, rfl⟩
      have hK0 : 0 < K := by omega
      have hK1 : K ≤ 1001 := by omega
      have hcK : i + 1 < cc := by omega
      have hm1 : (i : Int) + 1 < (m : Int) := by omega
      have hm2 : 0 < m := by omega
      have hm3 : (0 : Int) < (m : Int) := by omega
      have hc2 : ∀ w', (Instr.sliceAt 104 (.slice (some ⟨gc, 0, none⟩) m cc) (some (.int .i64 ((i : Int) + 1))) none none).run Try.prog w' = .ok (.slice (some ⟨gc, i + 1, none⟩) K (cc - (i + 1))) w' :=
        fun w' => by have := run_cut (P := Try.prog) 104 1 gc m cc (i + 1) ((i : Int) + 1) (by omega) (by omega) Try.underlying104 (fun _ => by kernel_rfl) w'; rw [cutA_of hcK, ← hK, Nat.mul_one] at this; exact this
      have s1 : Hid ((cps.drop (i + 1)).length = K * 1) := by show _ = _; rw [List.length_drop, hK, hml, Nat.mul_one]
      have s2 : Hid (∀ j v, (cps.drop (i + 1))[j]? = some v → w4.cell? ((⟨gc, i + 1, none⟩ : Addr).add j) = some v) := cells1_at hrc (i + 1)
      have s3 : Hid (∀ v ∈ cps.drop (i + 1), v.oneCell' = true) := fun v hv => Hone.out v (List.mem_of_mem_drop hv)
      have Hml := hide hml
      have HK := hide hK
      have Hk1 := hide hk1
      have Hk2 := hide hk2
      clear hrc hlc hmc hcc hmx hml hK hk1 hk2
      have q1 : w4.cell? ⟨q, 1, none⟩ = some cv1 := cell_blk hNq4.blk 1
      have q2 : w4.frozen? ⟨q, 1, none⟩ = false := frozen_blk hNq4.blk 1
      go_wp2
      go_cut [] (fun wd => ∃ g3 cap3, NodeAt wd q (.slice (some ⟨g2, 0, none⟩) L cap2) (.slice (some ⟨g3, 0, none⟩) K cap3) (ptr c) (its.drop (i + 1)) (cps.drop (i + 1)) ∧ Stp (nodeF q (.slice (some ⟨g2, 0, none⟩) L cap2) cv1) w4 wd (nodeF q (.slice (some ⟨g2, 0, none⟩) L cap2) (.slice (some ⟨g3, 0, none⟩) K cap3)))
      case first =>
        go_region_law (refine step_append_lies _ (by rfl) _ _ _ (by rfl) 0 84 i1 _ 1 8 Try.underlying104 hi1 hy0 hy1 hy2 rfl (by omega) cv1 0 [] (by rfl) (hNq4.rc.drew) ⟨gc, i + 1, none⟩ K (cc - (i + 1)) (cps.drop (i + 1)) (by rfl) s1.out s2.out s3.out hK0 (by unfold maxLen; omega) (by omega) (Nat.zero_le _) w4.heap.size (by rfl) ?_; rw [Nat.zero_add]; intro g3 cap3 w1 hown1 hgrow hat hlt; have hX := (Chg.refl (fun _ => 0) w4).drew; have hb1 := grown_blk hX hgrow hNq4.blk hNq4.ne_c; have c1 : w1.cell? ⟨q, 1, none⟩ = some cv1 := cell_blk hb1 1; have f1 : w1.frozen? ⟨q, 1, none⟩ = false := frozen_blk hb1 1)
        all_goals
          go_wp2
          go_meet
          case rel =>
            obtain ⟨r1, r2⟩ := app1 (news := cps.drop (i + 1)) hNq4 hX hown1 (by rw [List.length_drop, ← Hml.out, HK.out]; simp) hgrow (hat.imp id (fun h => by omega))
            exact ⟨g3, cap3, r1, r2⟩
      case rest =>
        obtain ⟨g3, cap3, hN5, hS5⟩ := hcut
        have hNp5 := hN4.keep hS5.chg (fun k => by have := hu4 k; omega)
        have hP5 := hP4.keep hS5.chg (fun k => by have := hu4 k; omega)
        have hT5 := hT4.trans ((hS5.frame (fun k => nodeF p iv4 (.slice (some ⟨gc, 0, none⟩) m cc) k + G1 k) (fun k => by have := hu4 k; omega) (fun k hk => hT4.lt k (by omega))).congr (B' := fun k => nodeF p iv4 (.slice (some ⟨gc, 0, none⟩) m cc) k + nodeF q (.slice (some ⟨g2, 0, none⟩) L cap2) (.slice (some ⟨g3, 0, none⟩) K cap3) k + G1 k) (fun k => by omega) (fun k => by omega))
        have hu5 := hT5.uniq
        clear hT4 hS5 hP4 hN4 hNq4 hu4 s1 s2 s3 hc2 q1 q2 d1
        go_wp2_with (fail)
        refine (truncate1 hNp5 (i + 1) (by have := Hk1.out; omega) (by have := Hk2.out; omega)).mono ?_
        rintro _ w6 ⟨rfl, cv6, hN6, hS6⟩
        have hNq6 := hN5.keep hS6.chg (fun k => by have := hu5 k; omega)
        have hP6 := hP5.keep hS6.chg (fun k => by have := hu5 k; omega)
        have hT6 := hT5.trans ((hS6.frame (fun k => nodeF q (.slice (some ⟨g2, 0, none⟩) L cap2) (.slice (some ⟨g3, 0, none⟩) K cap3) k + G1 k) (fun k => by have := hu5 k; omega) (fun k hk => hT5.lt k (by omega))).congr (B' := fun k => nodeF p iv4 cv6 k + nodeF q (.slice (some ⟨g2, 0, none⟩) L cap2) (.slice (some ⟨g3, 0, none⟩) K cap3) k + G1 k) (fun k => by omega) (fun k => by omega))
        clear hT5 hS6 hP5 hNp5 hN5 hu5
        have hb := hT6.blk Hbox.out (HB.out _ (Or.inr rfl))
        have hbz := hT6.blk Hz.out (HB.out _ (Or.inl rfl))
        have e0 : w6.cell? ⟨B + 1, 0, none⟩ = some (.string e.key) := cell_blk hb 0
        have e1 : w6.cell? ⟨B + 1, 1, none⟩ = some (.int .u64 e.ver) := cell_blk hb 1
        have e2 : w6.cell? ⟨B + 1, 2, none⟩ = some (.slice e.va e.vn e.vc) := cell_blk hb 2
        have z0 : w6.cell? ⟨B, 0, none⟩ = some (.string ⟨#[]⟩) := cell_blk hbz 0
        have z1 : w6.cell? ⟨B, 1, none⟩ = some (.int .u64 0) := cell_blk hbz 1
        have z2 : w6.cell? ⟨B, 2, none⟩ = some (.slice none 0 0) := cell_blk hbz 2
        have y0 : w6.frozen? ⟨B, 0, none⟩ = false := frozen_blk hbz 0
        have y1 : w6.frozen? ⟨B, 1, none⟩ = false := frozen_blk hbz 1
        have y2 : w6.frozen? ⟨B, 2, none⟩ = false := frozen_blk hbz 2
        go_wp2
        have hz6 := hT6.zero Hz.out (HB.out _ (Or.inl rfl))
        have r0 := boxPut_at e hbz
        refine bodyPost_ret (v := .tuple #[e.v, ptr q]) (by
          have r1 := cell_blk r0 0
          have r2 := cell_blk r0 1
          have r3 := cell_blk r0 2
          unfold boxPut at r1 r2 r3
          simp [results, Try.results41, go_sem, r1, r2, r3, Ent.v, ptr]) rfl ?_
        exact ⟨q, _, _, _, _, G1, rfl, hN6.boxPut (b := B) (by omega) e, hNq6.boxPut (b := B) (by omega) e, hP6.boxPut (b := B) (by omega) e, (hT6.pre Hch.out).boxPut (b := B) (by rw [HBw.out]; exact Nat.le_refl _) e⟩

end Go.Proofs.Qxb6603483a
