/-
  (*items[Entry]).truncate: walked.
-/
import Derived.Test.Qxb6603483aUpd
import Derived.Deep.RegionHeld3
import Derived.Deep.RegionLaw
import Derived.Deep.DeepCutAuto
import Derived.Deep.DrawnRows
namespace Go.Proofs.Qxb6603483a
open Go.RowKit
set_option linter.unusedSimpArgs false
attribute [local go_sem ↓] Go.wp_at_zero Go.wp_at_succ

set_option maxRecDepth 100000 in
set_option maxHeartbeats 1000000 in
theorem truncate3_some {w : World} {p g n cap : Nat} {cv cp : Value} {its : List Ent} {cps : List Value} (h : NodeAt w p (.slice (some ⟨g, 0, none⟩) n cap) cv cp its cps) (m : Nat) (hm : m ≤ its.length) (hn : its.length ≤ 100000) :
    Calls Try.prog 48 #[.pointer (some ⟨p, 0, none⟩), .int .i64 m] w fun r w' => r = .returned (.tuple #[]) ∧ ∃ iv', NodeAt w' p iv' cv cp (its.take m) cps ∧ Stp (nodeF p (.slice (some ⟨g, 0, none⟩) n cap) cv) w w' (nodeF p iv' cv) := by
  obtain ⟨sp, hrow, hlen, hnl, hcap, hmax⟩ := h.ri.open'
  have hmn : m ≤ n := by omega
  have hn2 : n ≤ 100000 := by omega
  have Hnl := hide hnl
  have hpg : p ≠ g := fun e => by have := h.uniq p; rw [one_self, ob_slice, e, one_self] at this; omega
  clear hrow hlen hnl hm hn
  have c0 : w.cell? ⟨p, 0, none⟩ = some (.slice (some ⟨g, 0, none⟩) n cap) := cell_blk h.blk 0
  have f0 : w.frozen? ⟨p, 0, none⟩ = false := frozen_blk h.blk 0
  have m0 : (0 : Int) ≤ (m : Int) := Int.natCast_nonneg _
  have m1 : (m : Int) ≤ (n : Int) := by omega
  have hc1 : ∀ w', (Instr.sliceAt 102 (.slice (some ⟨g, 0, none⟩) n cap) (some (.int .i64 (m : Int))) none none).run Try.prog w' = .ok (.slice (some (cutA g cap m 3)) (n - m) (cap - m)) w' :=
    fun w' => run_cut 102 3 g _ cap m _ rfl hmn Try.underlying102 (fun _ => by kernel_rfl) w'
  have hh1 : ∀ w', (Instr.sliceAt 102 (.slice (some ⟨g, 0, none⟩) n cap) none (some (.int .i64 (m : Int))) none).run Try.prog w' = .ok (.slice (some ⟨g, 0, none⟩) m cap) w' :=
    fun w' => run_head 102 3 g _ cap m _ rfl (by omega) Try.underlying102 (fun _ => by kernel_rfl) w'
  go_enter Try.func48, Try.ntmps48
  go_wp2
  go_cut [4] (fun s4 wd => s4 = .slice (some (cutA g cap m 3)) (n - m) (cap - m) ∧ NodeAt wd p (.slice (some ⟨g, 0, none⟩) (its.take m).length cap) cv cp (its.take m) cps ∧ Stp (nodeF p (.slice (some ⟨g, 0, none⟩) n cap) cv) w wd (nodeF p (.slice (some ⟨g, 0, none⟩) (its.take m).length cap) cv))
  case first =>
    go_region_law (fail)
    all_goals
      go_wp2
      go_meet
      case rel =>
        have hl : (its.take m).length = m := by rw [List.length_take, ← Hnl.out]; omega
        obtain ⟨r1, r2⟩ := head3 (m := m) h (by rw [← Hnl.out]; exact hmn)
        rw [hl]
        exact ⟨rfl, r1.drew, r2.drew⟩
  case rest =>
    obtain ⟨rfl, hN1, hS1⟩ := hcut
    clear h c0 f0 hc1 hh1
    have htl : (its.take m).length = m := by rw [List.length_take, ← Hnl.out]; omega
    have Htl := hide htl
    clear htl
    obtain ⟨sp1, hrow1, hlen1, hnl1, hcap1, hmax1⟩ := hN1.ri.open'
    clear hrow1 hlen1 hnl1
    generalize hX : its.take m = X at *
    have HX := hide hX
    clear hX
    have hmc : m < n → m < cap := fun _ => by omega
    obtain ⟨L, hL⟩ : ∃ L, L = n - m := ⟨_, rfl⟩
    rw [← hL]
    have HL := hide hL
    clear hL
    have hL2 : L ≤ 100000 := by have := HL.out; omega
    go_wp2
    obtain ⟨W, hW, hz, hchg⟩ : ∃ W, W = wc.alloc (Obj.cells #[Value.string { data := #[] }, Value.int IntKind.u64 0, Value.slice none 0 0] 33) ∧
        W.heap[wc.heap.size]? = some (.cells #[Value.string { data := #[] }, Value.int IntKind.u64 0, Value.slice none 0 0] 33 (0, 0)) ∧ Chg (fun _ => 0) wc W :=
      ⟨_, rfl, (MapKept.heap_alloc wc _).1, (Chg.refl _ wc).alloc _⟩
    rw [← hW]
    have hN2 := hchg.node hN1 (fun _ _ => rfl)
    have hS2 := hS1.trans ((Stp.refl (A := nodeF p (.slice (some ⟨g, 0, none⟩) X.length cap) cv) hN2.fit (fun k hk => hN2.lt hk)).pre hchg)
    have hzg : wc.heap.size ≠ g := by have := hN1.ri.lt (k := g) (by rw [ob_slice, one_self]; exact Nat.le_refl _); omega
    clear hW
    generalize wc.heap.size = Z at *
    clear hN1 hS1 hchg
    go_loopw [6] (fun i wr => ∃ k : Nat, k ≤ L ∧ i = .int .i64 k ∧ NodeAt wr p (.slice (some ⟨g, 0, none⟩) X.length cap) cv cp X cps ∧ Stp (nodeF p (.slice (some ⟨g, 0, none⟩) n cap) cv) w wr (nodeF p (.slice (some ⟨g, 0, none⟩) X.length cap) cv) ∧
        wr.heap[Z]? = some (.cells #[Value.string { data := #[] }, Value.int IntKind.u64 0, Value.slice none 0 0] 33 (0, 0)))
      (fun i _ => L - (intOf i).toNat)
    case atStart => exact ⟨0, Nat.zero_le _, rfl, hN2, hS2, hz⟩
    case round =>
      obtain ⟨k, hk, rfl, hN3, hS3, hz3⟩ := hrel
      by_cases hlt : k < L
      · have z0 : wr.cell? ⟨Z, 0, none⟩ = some (.string ⟨#[]⟩) := cell_blk hz3 0
        have z1 : wr.cell? ⟨Z, 1, none⟩ = some (.int .u64 0) := cell_blk hz3 1
        have z2 : wr.cell? ⟨Z, 2, none⟩ = some (.slice none 0 0) := cell_blk hz3 2
        have hLn := HL.out
        have hXl := Htl.out
        obtain ⟨⟨x0, t0⟩, g0⟩ := ownsRow_there (j := m * 3 + k * 3) hN3.ri (by omega)
        obtain ⟨⟨x1, t1⟩, g1⟩ := ownsRow_there (j := m * 3 + k * 3 + 1) hN3.ri (by omega)
        obtain ⟨⟨x2, t2⟩, g2⟩ := ownsRow_there (j := m * 3 + k * 3 + 2) hN3.ri (by omega)
        have hix : ∀ w', (Instr.indexAt 102 (.slice (some (cutA g cap m 3)) L (cap - m)) (.int .i64 (k : Int))).run Try.prog w' = .ok (.pointer (some ⟨g, m * 3 + k * 3, none⟩)) w' :=
          fun w' => run_ix_cut 102 3 g cap m L _ k hlt (by omega) Try.underlying102 (fun _ => by kernel_rfl) w'
        clear hLn hXl
        go_wp2
        have hXl := Htl.out
        obtain ⟨a1, a2, a3⟩ := spare3 (j := m * 3 + k * 3) hN3 (by omega) (.string ⟨#[]⟩)
        obtain ⟨b1, b2, b3⟩ := spare3 (j := m * 3 + k * 3 + 1) a1 (by omega) (.int .u64 0)
        obtain ⟨d1, d2, d3⟩ := spare3 (j := m * 3 + k * 3 + 2) b1 (by omega) (.slice none 0 0)
        go_roundw
        case rel => exact ⟨k + 1, by omega, by go_num, d1, ((hS3.trans a2).trans b2).trans d2, (((a3.trans b3).trans d3).same Z (Array.getElem?_eq_some_iff.1 hz3).1 (one_other hzg)).trans hz3⟩
        case measure => simp [intOf] <;> omega
      · go_wp2
        go_end0
        exact ⟨rfl, _, by rw [HX.out]; exact hN3, hS3⟩

/-- A slice that is nil: nothing to do. -/
theorem truncate3_nil {w : World} {p : Nat} {cv cp : Value} {cps : List Value} (h : NodeAt w p (.slice none 0 0) cv cp [] cps) :
    Calls Try.prog 48 #[.pointer (some ⟨p, 0, none⟩), .int .i64 0] w fun r w' => r = .returned (.tuple #[]) ∧ ∃ iv', NodeAt w' p iv' cv cp [] cps ∧ Stp (nodeF p (.slice none 0 0) cv) w w' (nodeF p iv' cv) := by
  have c0 : w.cell? ⟨p, 0, none⟩ = some (.slice none 0 0) := cell_blk h.blk 0
  have f0 : w.frozen? ⟨p, 0, none⟩ = false := frozen_blk h.blk 0
  go_enter Try.func48, Try.ntmps48
  go_wp2
  go_cut [4] (fun s4 wd => s4 = .slice none 0 0 ∧ wd = (w.setCell ⟨p, 0, none⟩ (.slice none 0 0)).drew)
  case first =>
    go_region_law (fail)
    all_goals
      go_wp2
      go_meet
      case rel => exact ⟨rfl, rfl⟩
  case rest =>
    obtain ⟨rfl, hwd⟩ := hcut
    have hN : NodeAt wc p (.slice none 0 0) cv cp [] cps ∧ Stp (nodeF p (.slice none 0 0) cv) w wc (nodeF p (.slice none 0 0) cv) := by
      subst hwd
      have hb : (w.setCell ⟨p, 0, none⟩ (.slice none 0 0)).heap[p]? = some (.cells #[.slice none 0 0, cv, cp] 106 (0, 0)) := by rw [heap_setCell_blk h.blk]; rfl
      have hN : NodeAt (w.setCell ⟨p, 0, none⟩ (.slice none 0 0)) p (.slice none 0 0) cv cp [] cps :=
        ⟨hb, Row3.nil _, h.rc.same (fun k hk => Below.heap_setCell _ _ _ _ (fun e => by subst e; have := h.uniq k; rw [one_self] at this; omega)), h.uniq⟩
      exact ⟨hN.drew, ((Chg.refl _ w).setCell (p := ⟨p, 0, none⟩) (fun _ => by show 1 ≤ nodeF p _ cv p; unfold nodeF; rw [one_self]; omega) _).drew, fun _ _ => Nat.le_refl _, hN.fit, fun k hk => hN.lt hk⟩
    obtain ⟨hN1, hS1⟩ := hN
    clear hwd c0 f0
    go_wp2
    refine wp_loop_rounds 1 ?_
    rw [rounds_succ]
    go_wp2
    go_end0
    have hc : Chg (fun _ => 0) wc (wc.alloc (Obj.cells #[Value.string { data := #[] }, Value.int IntKind.u64 0, Value.slice none 0 0] 33)) := (Chg.refl _ wc).alloc _
    have hN2 := hc.node hN1 (fun _ _ => rfl)
    exact ⟨rfl, _, hN2, hS1.trans ((Stp.refl hN2.fit (fun k hk => hN2.lt hk)).pre hc)⟩

theorem truncate3 {w : World} {p : Nat} {iv cv cp : Value} {its : List Ent} {cps : List Value} (h : NodeAt w p iv cv cp its cps) (m : Nat) (hm : m ≤ its.length) (hn : its.length ≤ 100000) :
    Calls Try.prog 48 #[.pointer (some ⟨p, 0, none⟩), .int .i64 m] w fun r w' => r = .returned (.tuple #[]) ∧ ∃ iv', NodeAt w' p iv' cv cp (its.take m) cps ∧ Stp (nodeF p iv cv) w w' (nodeF p iv' cv) := by
  rcases h.ri.form with ⟨h1, h2⟩ | ⟨g, cap, h1⟩
  · subst h1; subst h2
    obtain rfl : m = 0 := by simpa using hm
    exact truncate3_nil h
  · subst h1
    exact truncate3_some h m hm hn

end Go.Proofs.Qxb6603483a
