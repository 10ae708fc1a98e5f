/-
  (*items[*node]).insertAt, removeAt, pop: walked.
-/
import Derived.Test.Qxb6603483aUpd
import Derived.Deep.RegionHeld3
import Derived.Deep.AppendLies
import Derived.Deep.DeepCutAuto
import Derived.Deep.DrawnRows
namespace Go.Proofs.Qxb6603483a
open Go.RowKit
set_option linter.unusedSimpArgs false
attribute [local go_sem ↓] Go.wp_at_zero Go.wp_at_succ

theorem info84 : (Try.prog.info? 84).map (fun i => (i.zero, i.size, i.bytes)) = some (some (.pointer none), 1, 8) := by kernel_rfl
theorem size84 : (Try.prog.info? 84).map (·.size) = some 1 := by kernel_rfl

set_option maxRecDepth 100000 in
set_option maxHeartbeats 1000000 in
theorem insertAt1 {w : World} {p : Nat} {iv cv cp : Value} {its : List Ent} {cps : List Value} (h : NodeAt w p iv cv cp its cps) (hone : ∀ v ∈ cps, v.oneCell' = true) (i : Nat) (hi : i ≤ cps.length) (hn : cps.length ≤ 100000) (q : Nat) :
    Calls Try.prog 61 #[.pointer (some ⟨p, 1, none⟩), .int .i64 i, .pointer (some ⟨q, 0, none⟩)] w fun r w' => r = .returned (.tuple #[]) ∧ ∃ cv', NodeAt w' p iv cv' cp its (cps.take i ++ ptr q :: cps.drop i) ∧ Stp (nodeF p iv cv) w w' (nodeF p iv cv') := by
  obtain ⟨i0, hi0, hz0, hz1, hz2⟩ := info_parts info84
  have c0 : w.cell? ⟨p, 1, none⟩ = some cv := cell_blk h.blk 1
  have lp := h.pl
  go_enter Try.func61, Try.ntmps61
  go_wp2_with (at_builtin; refine wpList_append_lies _ rfl _ _ _ rfl 0 84 i0 _ 1 8 Try.underlying104 hi0 hz0 hz1 hz2 rfl (by omega) cv cps.length cps (by rfl) (h.rc.alloc _) ⟨w.heap.size, 0, none⟩ 1 1 [.pointer none] (by rfl) (by rfl) (World.news_of_block (cs := #[.pointer none]) (t := 84) (fr := (0, 0)) (heap_alloc_new w _)) (by simp [Value.oneCell']) (by omega) (by unfold maxLen; omega) (by omega) (Nat.zero_le _) (w.heap.size + 1) (by simp) ?_; intro g cap w1 hown1 hgrow hat hlt; have hX := (Chg.refl (fun _ => 0) w).alloc (Obj.cells #[.pointer none] 84); have hb1 := grown_blk hX hgrow h.blk h.ne_c; have c1 : w1.cell? ⟨p, 1, none⟩ = some cv := cell_blk hb1 1; have f1 : w1.frozen? ⟨p, 1, none⟩ = false := frozen_blk hb1 1)
  obtain ⟨r1, r2⟩ := app1 (news := [.pointer none]) h hX hown1 (by simp) hgrow (hat.imp id (fun h => by omega))
  generalize w1.setCell ⟨p, 1, none⟩ (.slice (some ⟨g, 0, none⟩) (cps.length + 1) cap) = W at *
  clear c0 c1 f1 hb1 hgrow hown1 hat hX lp hlt
  obtain ⟨sp, hrow, hlen, hx, hcap, hmax⟩ := r1.rc.open'
  have hpg : p ≠ g := fun e => by have := r1.uniq p; rw [one_self, ob_slice, e, one_self] at this; omega
  have hwl := r1.pl
  have Hrow := hide hrow
  have Hlen := hide hlen
  clear hrow hlen hx
  have c1 : W.cell? ⟨p, 1, none⟩ = some (.slice (some ⟨g, 0, none⟩) (cps.length + 1) cap) := cell_blk r1.blk 1
  have i1 : (0 : Int) ≤ (i : Int) := Int.natCast_nonneg _
  have i2 : (i : Int) ≤ (cps.length : Int) := by omega
  have i4 : (cps.length : Int) ≤ 100000 := by omega
  have hc1 : ∀ w', (Instr.sliceAt 104 (.slice (some ⟨g, 0, none⟩) (cps.length + 1) cap) (some (.int .i64 ((i : Int) + 1))) none none).run Try.prog w' = .ok (.slice (some (cutA g cap (i + 1) 1)) (cps.length - i) (cap - (i + 1))) w' :=
    fun w' => by have := run_cut (P := Try.prog) 104 1 g (cps.length + 1) cap (i + 1) ((i : Int) + 1) (by omega) (by omega) Try.underlying104 (fun _ => by kernel_rfl) w'; rw [Nat.add_sub_add_right] at this; exact this
  have hc2 : ∀ w', (Instr.sliceAt 104 (.slice (some ⟨g, 0, none⟩) (cps.length + 1) cap) (some (.int .i64 (i : Int))) none none).run Try.prog w' = .ok (.slice (some (cutA g cap i 1)) (cps.length + 1 - i) (cap - i)) w' :=
    fun w' => run_cut 104 1 g _ cap i _ rfl (by omega) Try.underlying104 (fun _ => by kernel_rfl) w'
  have hw1 : IntKind.i64.wrap ((i : Int) + 1) = (i : Int) + 1 := by rw [IntKind.wrap_i64]; omega
  have hmin : (cps.length + 1 - i).min (cps.length - i) = cps.length - i := Nat.min_eq_right (by omega)
  have s1 : Hid ((cps.drop i).length = (cps.length + 1 - i).min (cps.length - i) * 1) := by
    show _ = _
    rw [List.length_drop, hmin, Nat.mul_one]
  have s2 : Hid ((cps.length + 1 - i).min (cps.length - i) = 0 → cps.drop i = []) := fun h0 => by
    rw [hmin] at h0
    exact List.drop_of_length_le (by omega)
  have s3 : Hid (0 < (cps.length + 1 - i).min (cps.length - i) → some (cutA g cap (i + 1) 1) = some ⟨g, i + 1, none⟩ ∧ ∃ ad, some (cutA g cap i 1) = some ad ∧ ∀ j v, (cps.drop i)[j]? = some v → W.cell? (ad.add j) = some v) := fun h0 => by
    rw [hmin] at h0
    refine ⟨by rw [cutA_of (by omega), Nat.mul_one], ⟨g, i, none⟩, by rw [cutA_of (by omega), Nat.mul_one], fun j v hv => ?_⟩
    refine cells1_at Hrow.out i j v ?_
    rw [List.drop_append_of_le_length (by omega), List.getElem?_append_left (by have := (List.getElem?_eq_some_iff.1 hv).1; omega)]
    exact hv
  have s4 : Hid (i + 1 + (cps.drop i).length ≤ (cps ++ [Value.pointer none] ++ sp).length) := by
    show _ ≤ _
    rw [List.length_drop, List.length_append, List.length_append]
    simp
    omega
  have s5 : Hid (∀ v ∈ cps.drop i, v.oneCell' = true) := fun v hv => hone v (List.mem_of_mem_drop hv)
  clear hmin hone
  go_cut [] (fun w2 => NodeAt w2 p iv (.slice (some ⟨g, 0, none⟩) (cps.length + 1) cap) cp its ((cps ++ [Value.pointer none]).take (i + 1) ++ cps.drop i) ∧ Stp (nodeF p iv cv) w w2 (nodeF p iv (.slice (some ⟨g, 0, none⟩) (cps.length + 1) cap)))
  case first =>
    go_region_held3 (fun w' => w'.cell? ⟨p, 1, none⟩ = some (.slice (some ⟨g, 0, none⟩) (cps.length + 1) cap)) (first | exact c1 | exact (hgr.cell_far _ hwl (fun e => hpg (by injection e))).trans c1) ((refine step_copy_size (by rfl) _ _ _ _ (by rfl) 84 1 Try.underlying104 size84 _ _ _ _ _ _ (by rfl) (by rfl) g (i + 1) _ 84 Hrow.out (cps.drop i) s1.out s2.out s3.out s4.out s5.out ?_; intro w2 hg2 hgr hsz2))
    go_wp2
    go_meet
    case rel =>
      have hc : Chg (one g) W w2 := ((Chg.refl (one g) W).drew).grown hgr (fun k hk _ => by injection hk with hk; subst hk; rw [one_self]; exact Nat.le_refl _)
      have hg2' := hg2.out
      rw [splice1 _ _ _ _ (by simp; omega)] at hg2'
      obtain ⟨a1, a2⟩ := row1_turned r1 hc (Row1.shut hg2' (by have := Hlen.out; simp at this ⊢; omega) (by simp; omega) (by omega) hmax)
      exact ⟨a1, r2.trans a2⟩
  case rest =>
    clear hc1 hc2 s1 s2 s3 s4 s5 Hrow Hlen r1 r2 c1 hwl hcap
    obtain ⟨hN2, hS2⟩ := hcut
    have c1 : wc.cell? ⟨p, 1, none⟩ = some (.slice (some ⟨g, 0, none⟩) (cps.length + 1) cap) := cell_blk hN2.blk 1
    obtain ⟨sp2, hrow2⟩ := hN2.rc.blkOf
    have hAl : i < ((cps ++ [Value.pointer none]).take (i + 1) ++ cps.drop i).length := by simp; omega
    have t0 := ptr_at hrow2 (List.getElem?_eq_getElem hAl)
    have g0 := frozen_blk hrow2 i
    clear hrow2
    generalize ((cps ++ [Value.pointer none]).take (i + 1) ++ cps.drop i)[i] = old at t0
    have hix : ∀ w', (Instr.indexAt 104 (.slice (some ⟨g, 0, none⟩) (cps.length + 1) cap) (.int .i64 (i : Int))).run Try.prog w' = .ok (.pointer (some ⟨g, i, none⟩)) w' :=
      fun w' => by have := run_ix (P := Try.prog) 104 1 g (cps.length + 1) cap i (i : Int) rfl (by omega) Try.underlying104 (fun _ => by kernel_rfl) w'; rw [Nat.mul_one] at this; exact this
    go_wp2
    go_end0
    obtain ⟨a1, a2, _⟩ := store1 hN2 i hAl (ptr q)
    rw [set_at_take _ i (by simp; omega), List.take_append_of_le_length hi] at a1
    exact ⟨rfl, _, a1, hS2.trans a2⟩

end Go.Proofs.Qxb6603483a
