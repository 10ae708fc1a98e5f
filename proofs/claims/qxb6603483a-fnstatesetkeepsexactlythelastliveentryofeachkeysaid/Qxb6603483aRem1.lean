/-
  (*items[*node]).removeAt, pop, truncate: walked.
-/
import Derived.Test.Qxb6603483aIns1
import Derived.Deep.RegionLaw
namespace Go.Proofs.Qxb6603483a
open Go.RowKit
set_option linter.unusedSimpArgs false
attribute [local go_sem ↓] Go.wp_at_zero Go.wp_at_succ

set_option maxRecDepth 100000 in
set_option maxHeartbeats 1000000 in
theorem removeAt1 {w : World} {p : Nat} {iv cv cp : Value} {its : List Ent} {cps : List Value} (h0 : NodeAt w p iv cv cp its cps) (hone : ∀ v ∈ cps, v.oneCell' = true) (i q : Nat) (he : cps[i]? = some (ptr q)) (hn : cps.length ≤ 100000) :
    Calls Try.prog 63 #[.pointer (some ⟨p, 1, none⟩), .int .i64 i] w fun r w' => r = .returned (ptr q) ∧ ∃ cv', NodeAt w' p iv cv' cp its (cps.eraseIdx i) ∧ Stp (nodeF p iv cv) w w' (nodeF p iv cv') := by
  have hi : i < cps.length := (List.getElem?_eq_some_iff.1 he).1
  obtain ⟨m, hm⟩ : ∃ m, cps.length = m + 1 := ⟨cps.length - 1, by omega⟩
  obtain ⟨g, cap, hiv⟩ : ∃ g cap, cv = .slice (some ⟨g, 0, none⟩) (m + 1) cap := by
    rcases h0.rc.form with ⟨_, h1⟩ | ⟨g, cap, h1⟩
    · rw [h1] at hi; simp at hi
    · exact ⟨g, cap, by rw [h1, hm]⟩
  subst hiv
  have h := h0
  clear h0
  obtain ⟨sp, hrow, hlen, hnl, hcap, hmax⟩ := h.rc.open'
  have t0 : w.cell? ⟨g, i, none⟩ = some (.pointer (some ⟨q, 0, none⟩)) := ptr_at hrow he
  have c0 : w.cell? ⟨p, 1, none⟩ = some (.slice (some ⟨g, 0, none⟩) (m + 1) cap) := cell_blk h.blk 1
  have i1 : (0 : Int) ≤ (i : Int) := Int.natCast_nonneg _
  have i2 : (i : Int) < (m : Int) + 1 := by omega
  have hil : i < m + 1 := by omega
  have hm2 : m + 1 ≤ 100000 := by omega
  have Hi := hide hi
  clear hi
  have hpg : p ≠ g := fun e => by have := h.uniq p; rw [one_self, ob_slice, e, one_self] at this; omega
  have Hrow := hide hrow
  have Hlen := hide hlen
  have Hnl := hide hnl
  have Hm := hide hm
  clear hrow hlen hnl he hm hn
  have hix0 : ∀ w', (Instr.indexAt 104 (.slice (some ⟨g, 0, none⟩) (m + 1) cap) (.int .i64 (i : Int))).run Try.prog w' = .ok (.pointer (some ⟨g, i, none⟩)) w' :=
    fun w' => by have := run_ix (P := Try.prog) 104 1 g (m + 1) cap i (i : Int) rfl hil Try.underlying104 (fun _ => by kernel_rfl) w'; rw [Nat.mul_one] at this; exact this
  have hc1 : ∀ w', (Instr.sliceAt 104 (.slice (some ⟨g, 0, none⟩) (m + 1) cap) (some (.int .i64 (i : Int))) none none).run Try.prog w' = .ok (.slice (some (cutA g cap i 1)) (m + 1 - i) (cap - i)) w' :=
    fun w' => run_cut 104 1 g _ cap i _ rfl (by omega) Try.underlying104 (fun _ => by kernel_rfl) w'
  have hc2 : ∀ w', (Instr.sliceAt 104 (.slice (some ⟨g, 0, none⟩) (m + 1) cap) (some (.int .i64 ((i : Int) + 1))) none none).run Try.prog w' = .ok (.slice (some (cutA g cap (i + 1) 1)) (m - i) (cap - (i + 1))) w' :=
    fun w' => by have := run_cut (P := Try.prog) 104 1 g (m + 1) cap (i + 1) ((i : Int) + 1) (by omega) (by omega) Try.underlying104 (fun _ => by kernel_rfl) w'; rw [Nat.add_sub_add_right] at this; exact this
  have i3 : (m : Int) ≤ 100000 := by omega
  have hw1 : IntKind.i64.wrap ((i : Int) + 1) = (i : Int) + 1 := by rw [IntKind.wrap_i64]; omega
  have hmin : (m - i).min (m + 1 - i) = m - i := Nat.min_eq_left (by omega)
  have s1 : Hid ((cps.drop (i + 1)).length = (m - i).min (m + 1 - i) * 1) := by
    show _ = _
    rw [List.length_drop, hmin, Hm.out]; omega
  have s2 : Hid ((m - i).min (m + 1 - i) = 0 → cps.drop (i + 1) = []) := fun h0 => by
    rw [hmin] at h0
    exact List.drop_of_length_le (by rw [Hm.out]; omega)
  have s3 : Hid (0 < (m - i).min (m + 1 - i) → some (cutA g cap i 1) = some ⟨g, i, none⟩ ∧ ∃ ad, some (cutA g cap (i + 1) 1) = some ad ∧ ∀ j v, (cps.drop (i + 1))[j]? = some v → w.cell? (ad.add j) = some v) := fun h0 => by
    rw [hmin] at h0
    exact ⟨by rw [cutA_of (by omega), Nat.mul_one], ⟨g, i + 1, none⟩, by rw [cutA_of (by omega), Nat.mul_one], cells1_at Hrow.out (i + 1)⟩
  have s4 : Hid (i + (cps.drop (i + 1)).length ≤ (cps ++ sp).length) := by
    show _ ≤ _
    rw [List.length_drop, List.length_append, Hm.out]
    omega
  have s5 : Hid (∀ v ∈ cps.drop (i + 1), v.oneCell' = true) := fun v hv => hone v (List.mem_of_mem_drop hv)
  clear hmin hone
  have hwl := h.pl
  unfold ptr
  go_enter Try.func63, Try.ntmps63
  go_wp2
  go_cut [] (fun wc => ∃ y, NodeAt wc p iv (.slice (some ⟨g, 0, none⟩) (m + 1) cap) cp its (cps.eraseIdx i ++ [y]) ∧ Stp (nodeF p iv (.slice (some ⟨g, 0, none⟩) (m + 1) cap)) w wc (nodeF p iv (.slice (some ⟨g, 0, none⟩) (m + 1) cap)))
  case first =>
    go_region_held3 (fun w' => w'.cell? ⟨p, 1, none⟩ = some (.slice (some ⟨g, 0, none⟩) (m + 1) cap)) (first | exact c0 | exact (hgr.cell_far _ hwl (fun e => hpg (by injection e))).trans c0) ((refine step_copy_size (by rfl) _ _ _ _ (by rfl) 84 1 Try.underlying104 size84 _ _ _ _ _ _ (by rfl) (by rfl) g i _ 84 Hrow.out (cps.drop (i + 1)) s1.out s2.out s3.out s4.out s5.out ?_; intro w2 hg2 hgr hsz2))
    go_wp2
    go_meet
    case rel =>
      have hc : Chg (one g) w w2 := ((Chg.refl (one g) w).drew).grown hgr (fun k hk _ => by injection hk with hk; subst hk; rw [one_self]; exact Nat.le_refl _)
      have hg2' := hg2.out
      have hnl := Hnl.out
      have hlen := Hlen.out
      rw [splice1g _ _ _ _ (by rw [List.length_drop]; have := Hi.out; omega)] at hg2'
      obtain ⟨y, hy⟩ := erase_copy cps i Hi.out
      rw [hy] at hg2'
      have hel : (cps.eraseIdx i ++ [y]).length = cps.length := by rw [List.length_append, List.length_eraseIdx, if_pos Hi.out]; have := Hi.out; simp; omega
      obtain ⟨r1, r2⟩ := row1_turned h hc (Row1.shut hg2' (by rw [List.length_append] at hlen ⊢; rw [hel]; exact hlen) (by rw [hel]; exact hnl) hcap hmax)
      exact ⟨y, r1, r2⟩
  case rest =>
    clear hc1 hc2 s1 s2 s3 s4 s5 Hrow c0 hwl t0 h
    obtain ⟨y, hN2, hS2⟩ := hcut
    have hel : (cps.eraseIdx i).length = m := by rw [List.length_eraseIdx, if_pos Hi.out, Hm.out]; rfl
    have Hel := hide hel
    clear hel
    go_wp2
    have c0 : wc.cell? ⟨p, 1, none⟩ = some (.slice (some ⟨g, 0, none⟩) (m + 1) cap) := cell_blk hN2.blk 1
    obtain ⟨sp2, hrow2⟩ := hN2.rc.blkOf
    have hAl : (cps.eraseIdx i ++ [y])[m]? = some y := by rw [List.getElem?_append_right (by rw [Hel.out]; exact Nat.le_refl _), Hel.out]; simp
    have t0 := ptr_at hrow2 hAl
    have g0 := frozen_blk hrow2 m
    clear hrow2 hAl
    have m0 : (0 : Int) ≤ (m : Int) := Int.natCast_nonneg _
    have hix : ∀ w', (Instr.indexAt 104 (.slice (some ⟨g, 0, none⟩) (m + 1) cap) (.int .i64 (m : Int))).run Try.prog w' = .ok (.pointer (some ⟨g, m, none⟩)) w' :=
      fun w' => by have := run_ix (P := Try.prog) 104 1 g (m + 1) cap m (m : Int) rfl (by omega) Try.underlying104 (fun _ => by kernel_rfl) w'; rw [Nat.mul_one] at this; exact this
    have hwm : IntKind.i64.wrap (m : Int) = (m : Int) := by rw [IntKind.wrap_i64]; omega
    go_cut [] (fun wd => NodeAt wd p iv (.slice (some ⟨g, 0, none⟩) (m + 1) cap) cp its (cps.eraseIdx i ++ [.pointer none]) ∧ Stp (nodeF p iv (.slice (some ⟨g, 0, none⟩) (m + 1) cap)) w wd (nodeF p iv (.slice (some ⟨g, 0, none⟩) (m + 1) cap)))
    case first =>
      go_region_held3 (fun w' => w'.cell? ⟨p, 1, none⟩ = some (.slice (some ⟨g, 0, none⟩) (m + 1) cap)) (first | exact c0 | exact (World.cell?_of_block (Below.heap_setCell _ _ _ _ hpg)).trans c0) (fail)
      go_wp2
      go_meet
      case rel =>
        obtain ⟨r1, r2, r3⟩ := store1 hN2 m (by rw [List.length_append, Hel.out]; simp) (.pointer none)
        have e1 : (cps.eraseIdx i ++ [y]).set m (.pointer none) = cps.eraseIdx i ++ [.pointer none] := by rw [List.set_append_right _ _ (by rw [Hel.out]; exact Nat.le_refl _), Hel.out]; simp
        rw [e1] at r1
        exact ⟨r1.drew, (hS2.trans r2).drew⟩
    case rest =>
      clear hN2 hS2 c0 t0 g0
      obtain ⟨hN3, hS3⟩ := hcut
      have c0 : wc.cell? ⟨p, 1, none⟩ = some (.slice (some ⟨g, 0, none⟩) (m + 1) cap) := cell_blk hN3.blk 1
      have f0 : wc.frozen? ⟨p, 1, none⟩ = false := frozen_blk hN3.blk 1
      have hh1 : ∀ w', (Instr.sliceAt 104 (.slice (some ⟨g, 0, none⟩) (m + 1) cap) none (some (.int .i64 (m : Int))) none).run Try.prog w' = .ok (.slice (some ⟨g, 0, none⟩) m cap) w' :=
        fun w' => run_head 104 1 g _ cap m _ rfl (by omega) Try.underlying104 (fun _ => by kernel_rfl) w'
      go_wp2
      go_cut [] (fun wd => NodeAt wd p iv (.slice (some ⟨g, 0, none⟩) m cap) cp its (cps.eraseIdx i) ∧ Stp (nodeF p iv (.slice (some ⟨g, 0, none⟩) (m + 1) cap)) w wd (nodeF p iv (.slice (some ⟨g, 0, none⟩) m cap)))
      case first =>
        go_region_law (fail)
        all_goals
          go_wp2
          go_meet
          case rel =>
            obtain ⟨r1, r2⟩ := head1 (m := m) hN3 (by rw [List.length_append, Hel.out]; simp)
            rw [List.take_append_of_le_length (by rw [Hel.out]; exact Nat.le_refl _), List.take_of_length_le (by rw [Hel.out]; exact Nat.le_refl _)] at r1
            exact ⟨r1.drew, (hS3.trans r2).drew⟩
      case rest =>
        clear hN3 hS3 c0 f0 hh1
        obtain ⟨hN4, hS4⟩ := hcut
        go_wp2
        go_ret
        exact ⟨rfl, _, hN4, hS4⟩

set_option maxRecDepth 100000 in
set_option maxHeartbeats 1000000 in
theorem pop1 {w : World} {p : Nat} {iv cv cp : Value} {its : List Ent} {cps : List Value} {q : Nat} (h0 : NodeAt w p iv cv cp its (cps ++ [ptr q])) (hn : cps.length ≤ 100000) :
    Calls Try.prog 62 #[.pointer (some ⟨p, 1, none⟩)] w fun r w' => r = .returned (ptr q) ∧ ∃ cv', NodeAt w' p iv cv' cp its cps ∧ Stp (nodeF p iv cv) w w' (nodeF p iv cv') := by
  obtain ⟨m, hm⟩ : ∃ m, cps.length = m := ⟨_, rfl⟩
  obtain ⟨g, cap, hiv⟩ : ∃ g cap, cv = .slice (some ⟨g, 0, none⟩) (m + 1) cap := by
    rcases h0.rc.form with ⟨_, h1⟩ | ⟨g, cap, h1⟩
    · simp at h1
    · exact ⟨g, cap, by rw [h1]; simp [hm]⟩
  subst hiv
  have h := h0
  clear h0
  obtain ⟨sp, hrow, hlen, hnl, hcap, hmax⟩ := h.rc.open'
  have hAl : (cps ++ [ptr q])[m]? = some (ptr q) := by rw [List.getElem?_append_right (by omega), hm]; simp
  have t0 : w.cell? ⟨g, m, none⟩ = some (.pointer (some ⟨q, 0, none⟩)) := ptr_at hrow hAl
  have g0 := frozen_blk hrow m
  have c0 : w.cell? ⟨p, 1, none⟩ = some (.slice (some ⟨g, 0, none⟩) (m + 1) cap) := cell_blk h.blk 1
  have f0 : w.frozen? ⟨p, 1, none⟩ = false := frozen_blk h.blk 1
  have m0 : (0 : Int) ≤ (m : Int) := Int.natCast_nonneg _
  have m1 : (m : Int) ≤ 100000 := by omega
  have hpg : p ≠ g := fun e => by have := h.uniq p; rw [one_self, ob_slice, e, one_self] at this; omega
  have Hm := hide hm
  clear hrow hlen hnl hAl hm hn
  have hix : ∀ w', (Instr.indexAt 104 (.slice (some ⟨g, 0, none⟩) (m + 1) cap) (.int .i64 (m : Int))).run Try.prog w' = .ok (.pointer (some ⟨g, m, none⟩)) w' :=
    fun w' => by have := run_ix (P := Try.prog) 104 1 g (m + 1) cap m (m : Int) rfl (by omega) Try.underlying104 (fun _ => by kernel_rfl) w'; rw [Nat.mul_one] at this; exact this
  have hh1 : ∀ w', (Instr.sliceAt 104 (.slice (some ⟨g, 0, none⟩) (m + 1) cap) none (some (.int .i64 (m : Int))) none).run Try.prog w' = .ok (.slice (some ⟨g, 0, none⟩) m cap) w' :=
    fun w' => run_head 104 1 g _ cap m _ rfl (by omega) Try.underlying104 (fun _ => by kernel_rfl) w'
  obtain ⟨r1, r2, r3⟩ := store1 h m (by rw [List.length_append, Hm.out]; simp) (.pointer none)
  have e1 : (cps ++ [ptr q]).set m (.pointer none) = cps ++ [.pointer none] := by rw [List.set_append_right _ _ (by rw [Hm.out]; exact Nat.le_refl _), Hm.out]; simp
  rw [e1] at r1
  clear e1
  obtain ⟨a1, a2⟩ := head1 (m := m) r1 (by rw [List.length_append, Hm.out]; simp)
  rw [List.take_append_of_le_length (by rw [Hm.out]; exact Nat.le_refl _), List.take_of_length_le (by rw [Hm.out]; exact Nat.le_refl _)] at a1
  have c1 : (w.setCell ⟨g, m, none⟩ (.pointer none)).cell? ⟨p, 1, none⟩ = some (.slice (some ⟨g, 0, none⟩) (m + 1) cap) := cell_blk r1.blk 1
  have f1 : (w.setCell ⟨g, m, none⟩ (.pointer none)).frozen? ⟨p, 1, none⟩ = false := frozen_blk r1.blk 1
  unfold ptr
  go_enter Try.func62, Try.ntmps62
  go_wp2
  go_ret
  exact ⟨rfl, _, a1, r2.trans a2⟩

end Go.Proofs.Qxb6603483a
