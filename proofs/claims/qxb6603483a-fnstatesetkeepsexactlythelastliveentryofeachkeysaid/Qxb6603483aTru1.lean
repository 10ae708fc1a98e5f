/-
  (*items[*node]).truncate: walked.
-/
import Derived.Test.Qxb6603483aUpd
import Derived.Deep.RegionHeld3
import Derived.Deep.RegionLaw
import Derived.Deep.DeepCutAuto
import Derived.Deep.DrawnRows
namespace Go.Proofs.Qxb6603483a
open Go.RowKit
set_option linter.unusedSimpArgs false
attribute [local go_sem ↓] Go.wp_at_zero Go.wp_at_succ

set_option maxRecDepth 100000 in
set_option maxHeartbeats 1000000 in
theorem truncate1_some {w : World} {p g n cap : Nat} {iv cp : Value} {its : List Ent} {cps : List Value} (h : NodeAt w p iv (.slice (some ⟨g, 0, none⟩) n cap) cp its cps) (m : Nat) (hm : m ≤ cps.length) (hn : cps.length ≤ 100000) :
    Calls Try.prog 49 #[.pointer (some ⟨p, 1, none⟩), .int .i64 m] w fun r w' => r = .returned (.tuple #[]) ∧ ∃ cv', NodeAt w' p iv cv' cp its (cps.take m) ∧ Stp (nodeF p iv (.slice (some ⟨g, 0, none⟩) n cap)) w w' (nodeF p iv cv') := by
  obtain ⟨sp, hrow, hlen, hnl, hcap, hmax⟩ := h.rc.open'
  have hmn : m ≤ n := by omega
  have hn2 : n ≤ 100000 := by omega
  have Hnl := hide hnl
  have hpg : p ≠ g := fun e => by have := h.uniq p; rw [one_self, ob_slice, e, one_self] at this; omega
  clear hrow hlen hnl hm hn
  have c0 : w.cell? ⟨p, 1, none⟩ = some (.slice (some ⟨g, 0, none⟩) n cap) := cell_blk h.blk 1
  have f0 : w.frozen? ⟨p, 1, none⟩ = false := frozen_blk h.blk 1
  have m0 : (0 : Int) ≤ (m : Int) := Int.natCast_nonneg _
  have m1 : (m : Int) ≤ (n : Int) := by omega
  have hc1 : ∀ w', (Instr.sliceAt 104 (.slice (some ⟨g, 0, none⟩) n cap) (some (.int .i64 (m : Int))) none none).run Try.prog w' = .ok (.slice (some (cutA g cap m 1)) (n - m) (cap - m)) w' :=
    fun w' => run_cut 104 1 g _ cap m _ rfl hmn Try.underlying104 (fun _ => by kernel_rfl) w'
  have hh1 : ∀ w', (Instr.sliceAt 104 (.slice (some ⟨g, 0, none⟩) n cap) none (some (.int .i64 (m : Int))) none).run Try.prog w' = .ok (.slice (some ⟨g, 0, none⟩) m cap) w' :=
    fun w' => run_head 104 1 g _ cap m _ rfl (by omega) Try.underlying104 (fun _ => by kernel_rfl) w'
  go_enter Try.func49, Try.ntmps49
  go_wp2
  go_cut [4] (fun s4 wd => s4 = .slice (some (cutA g cap m 1)) (n - m) (cap - m) ∧ NodeAt wd p iv (.slice (some ⟨g, 0, none⟩) (cps.take m).length cap) cp its (cps.take m) ∧ Stp (nodeF p iv (.slice (some ⟨g, 0, none⟩) n cap)) w wd (nodeF p iv (.slice (some ⟨g, 0, none⟩) (cps.take m).length cap)))
  case first =>
    go_region_law (fail)
    all_goals
      go_wp2
      go_meet
      case rel =>
        have hl : (cps.take m).length = m := by rw [List.length_take, ← Hnl.out]; omega
        obtain ⟨r1, r2⟩ := head1 (m := m) h (by rw [← Hnl.out]; exact hmn)
        rw [hl]
        exact ⟨rfl, r1.drew, r2.drew⟩
  case rest =>
    obtain ⟨rfl, hN1, hS1⟩ := hcut
    clear h c0 f0 hc1 hh1
    have htl : (cps.take m).length = m := by rw [List.length_take, ← Hnl.out]; omega
    have Htl := hide htl
    clear htl
    obtain ⟨sp1, hrow1, hlen1, hnl1, hcap1, hmax1⟩ := hN1.rc.open'
    clear hrow1 hlen1 hnl1
    generalize hX : cps.take m = X at *
    have HX := hide hX
    clear hX
    have hmc : m < n → m < cap := fun _ => by omega
    obtain ⟨L, hL⟩ : ∃ L, L = n - m := ⟨_, rfl⟩
    rw [← hL]
    have HL := hide hL
    clear hL
    have hL2 : L ≤ 100000 := by have := HL.out; omega
    go_wp2
    go_loopw [6] (fun i wr => ∃ k : Nat, k ≤ L ∧ i = .int .i64 k ∧ NodeAt wr p iv (.slice (some ⟨g, 0, none⟩) X.length cap) cp its X ∧ Stp (nodeF p iv (.slice (some ⟨g, 0, none⟩) n cap)) w wr (nodeF p iv (.slice (some ⟨g, 0, none⟩) X.length cap)))
      (fun i _ => L - (intOf i).toNat)
    case atStart => exact ⟨0, Nat.zero_le _, rfl, hN1, hS1⟩
    case round =>
      obtain ⟨k, hk, rfl, hN3, hS3⟩ := hrel
      by_cases hlt : k < L
      · have hLn := HL.out
        have hXl := Htl.out
        obtain ⟨⟨x0, t0⟩, g0⟩ := ownsRow_there (j := m + k) hN3.rc (by omega)
        have hix : ∀ w', (Instr.indexAt 104 (.slice (some (cutA g cap m 1)) L (cap - m)) (.int .i64 (k : Int))).run Try.prog w' = .ok (.pointer (some ⟨g, m + k, none⟩)) w' :=
          fun w' => by have := run_ix_cut (P := Try.prog) 104 1 g cap m L (cap - m) k hlt (by omega) Try.underlying104 (fun _ => by kernel_rfl) w'; rw [Nat.mul_one, Nat.mul_one] at this; exact this
        clear hLn hXl
        go_wp2
        have hXl := Htl.out
        obtain ⟨a1, a2, a3⟩ := spare1 (j := m + k) hN3 (by omega) (.pointer none)
        go_roundw
        case rel => exact ⟨k + 1, by omega, by go_num, a1, hS3.trans a2⟩
        case measure => simp [intOf] <;> omega
      · go_wp2
        go_end0
        exact ⟨rfl, _, by rw [HX.out]; exact hN3, hS3⟩

/-- A slice that is nil: nothing to do. -/
theorem truncate1_nil {w : World} {p : Nat} {iv cp : Value} {its : List Ent} (h : NodeAt w p iv (.slice none 0 0) cp its []) :
    Calls Try.prog 49 #[.pointer (some ⟨p, 1, none⟩), .int .i64 0] w fun r w' => r = .returned (.tuple #[]) ∧ ∃ cv', NodeAt w' p iv cv' cp its [] ∧ Stp (nodeF p iv (.slice none 0 0)) w w' (nodeF p iv cv') := by
  have c0 : w.cell? ⟨p, 1, none⟩ = some (.slice none 0 0) := cell_blk h.blk 1
  have f0 : w.frozen? ⟨p, 1, none⟩ = false := frozen_blk h.blk 1
  go_enter Try.func49, Try.ntmps49
  go_wp2
  go_cut [4] (fun s4 wd => s4 = .slice none 0 0 ∧ wd = (w.setCell ⟨p, 1, none⟩ (.slice none 0 0)).drew)
  case first =>
    go_region_law (fail)
    all_goals
      go_wp2
      go_meet
      case rel => exact ⟨rfl, rfl⟩
  case rest =>
    obtain ⟨rfl, hwd⟩ := hcut
    have hN : NodeAt wc p iv (.slice none 0 0) cp its [] ∧ Stp (nodeF p iv (.slice none 0 0)) w wc (nodeF p iv (.slice none 0 0)) := by
      subst hwd
      have hb : (w.setCell ⟨p, 1, none⟩ (.slice none 0 0)).heap[p]? = some (.cells #[iv, .slice none 0 0, cp] 106 (0, 0)) := by rw [heap_setCell_blk h.blk]; rfl
      have hN : NodeAt (w.setCell ⟨p, 1, none⟩ (.slice none 0 0)) p iv (.slice none 0 0) cp its [] :=
        ⟨hb, h.ri.same (fun k hk => Below.heap_setCell _ _ _ _ (fun e => by subst e; have := h.uniq k; rw [one_self] at this; omega)), Row1.nil _, h.uniq⟩
      exact ⟨hN.drew, ((Chg.refl _ w).setCell (p := ⟨p, 1, none⟩) (fun _ => by show 1 ≤ nodeF p iv _ p; unfold nodeF; rw [one_self]; omega) _).drew, fun _ _ => Nat.le_refl _, hN.fit, fun k hk => hN.lt hk⟩
    obtain ⟨hN1, hS1⟩ := hN
    clear hwd c0 f0
    go_wp2
    refine wp_loop_rounds 1 ?_
    rw [rounds_succ]
    go_wp2
    go_end0
    exact ⟨rfl, _, hN1, hS1⟩

theorem truncate1 {w : World} {p : Nat} {iv cv cp : Value} {its : List Ent} {cps : List Value} (h : NodeAt w p iv cv cp its cps) (m : Nat) (hm : m ≤ cps.length) (hn : cps.length ≤ 100000) :
    Calls Try.prog 49 #[.pointer (some ⟨p, 1, none⟩), .int .i64 m] w fun r w' => r = .returned (.tuple #[]) ∧ ∃ cv', NodeAt w' p iv cv' cp its (cps.take m) ∧ Stp (nodeF p iv cv) w w' (nodeF p iv cv') := by
  rcases h.rc.form with ⟨h1, h2⟩ | ⟨g, cap, h1⟩
  · subst h1; subst h2
    obtain rfl : m = 0 := by simpa using hm
    exact truncate1_nil h
  · subst h1
    exact truncate1_some h m hm hn

end Go.Proofs.Qxb6603483a
