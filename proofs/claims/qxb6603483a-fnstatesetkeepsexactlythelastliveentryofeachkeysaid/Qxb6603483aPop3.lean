/-
  (*items[Entry]).pop: walked.
-/
import Derived.Test.Qxb6603483aUpd
import Derived.Deep.RegionHeld3
import Derived.Deep.RegionLaw
import Derived.Deep.DeepCutAuto
import Derived.Deep.DrawnRows
namespace Go.Proofs.Qxb6603483a
open Go.RowKit
set_option linter.unusedSimpArgs false
attribute [local go_sem ↓] Go.wp_at_zero Go.wp_at_succ

set_option maxRecDepth 100000 in
set_option maxHeartbeats 1000000 in
theorem pop3 {w : World} {p : Nat} {iv cv cp : Value} {its : List Ent} {e : Ent} {cps : List Value} (h0 : NodeAt w p iv cv cp (its ++ [e]) cps) (hn : its.length ≤ 100000) :
    Calls Try.prog 55 #[.pointer (some ⟨p, 0, none⟩)] w fun r w' => r = .returned e.v ∧ ∃ iv', NodeAt w' p iv' cv cp its cps ∧ Stp (nodeF p iv cv) w w' (nodeF p iv' cv) := by
  obtain ⟨m, hm⟩ : ∃ m, its.length = m := ⟨_, rfl⟩
  obtain ⟨g, cap, hiv⟩ : ∃ g cap, iv = .slice (some ⟨g, 0, none⟩) (m + 1) cap := by
    rcases h0.ri.form with ⟨_, h1⟩ | ⟨g, cap, h1⟩
    · simp at h1
    · exact ⟨g, cap, by rw [h1]; simp [hm]⟩
  subst hiv
  have h := h0
  clear h0
  obtain ⟨sp, hrow, hlen, hnl, hcap, hmax⟩ := h.ri.open'
  have hAl : (its ++ [e])[m]? = some e := by rw [List.getElem?_append_right (by omega), hm]; simp
  obtain ⟨t0, t1, t2⟩ := ent_at hrow hAl
  have c0 : w.cell? ⟨p, 0, none⟩ = some (.slice (some ⟨g, 0, none⟩) (m + 1) cap) := cell_blk h.blk 0
  have m0 : (0 : Int) ≤ (m : Int) := Int.natCast_nonneg _
  have m1 : (m : Int) ≤ 100000 := by omega
  have lg : g < w.heap.size := (Array.getElem?_eq_some_iff.1 hrow).1
  have lp := h.pl
  have Hm := hide hm
  clear hrow hlen hnl hAl hm hn
  have hix : ∀ w', (Instr.indexAt 102 (.slice (some ⟨g, 0, none⟩) (m + 1) cap) (.int .i64 (m : Int))).run Try.prog w' = .ok (.pointer (some ⟨g, m * 3, none⟩)) w' :=
    fun w' => run_ix 102 3 g _ cap m _ rfl (by omega) Try.underlying102 (fun _ => by kernel_rfl) w'
  have hh1 : ∀ w', (Instr.sliceAt 102 (.slice (some ⟨g, 0, none⟩) (m + 1) cap) none (some (.int .i64 (m : Int))) none).run Try.prog w' = .ok (.slice (some ⟨g, 0, none⟩) m cap) w' :=
    fun w' => run_head 102 3 g _ cap m _ rfl (by omega) Try.underlying102 (fun _ => by kernel_rfl) w'
  unfold Ent.v
  go_enter Try.func55, Try.ntmps55
  go_wp2
  obtain ⟨W, hW, ⟨hbox, hzero⟩, hchg⟩ : ∃ W, W = (w.alloc (Obj.cells #[Value.string e.key, Value.int IntKind.u64 e.ver, Value.slice e.va e.vn e.vc] 33)).alloc (Obj.cells #[Value.string { data := #[] }, Value.int IntKind.u64 0, Value.slice none 0 0] 33) ∧
      (W.heap[w.heap.size]? = some (.cells #[Value.string e.key, Value.int IntKind.u64 e.ver, Value.slice e.va e.vn e.vc] 33 (0, 0)) ∧
      W.heap[w.heap.size + 1]? = some (.cells #[Value.string { data := #[] }, Value.int IntKind.u64 0, Value.slice none 0 0] 33 (0, 0))) ∧ Chg (fun _ => 0) w W :=
    ⟨_, rfl, two_boxes w _ _ _ _, ((Chg.refl _ w).alloc _).alloc _⟩
  rw [← hW]
  have hN : NodeAt W p (.slice (some ⟨g, 0, none⟩) (m + 1) cap) cv cp (its ++ [e]) cps := hchg.node h (fun _ _ => rfl)
  have hpg : p ≠ g := fun e => by have := h.uniq p; rw [one_self, ob_slice, e, one_self] at this; omega
  have hBg : w.heap.size ≠ g := by omega
  have hBg1 : w.heap.size + 1 ≠ g := by omega
  have hBp : w.heap.size ≠ p := by omega
  clear hW t0 t1 t2 c0 lg lp
  generalize w.heap.size = B at *
  have c0 : W.cell? ⟨p, 0, none⟩ = some (.slice (some ⟨g, 0, none⟩) (m + 1) cap) := cell_blk hN.blk 0
  have z0 : W.cell? ⟨B + 1, 0, none⟩ = some (.string ⟨#[]⟩) := cell_blk hzero 0
  have z1 : W.cell? ⟨B + 1, 1, none⟩ = some (.int .u64 0) := cell_blk hzero 1
  have z2 : W.cell? ⟨B + 1, 2, none⟩ = some (.slice none 0 0) := cell_blk hzero 2
  obtain ⟨sp2, hrow2⟩ := hN.ri.blkOf
  have hAl : (its ++ [e])[m]? = some e := by rw [List.getElem?_append_right (by rw [Hm.out]; exact Nat.le_refl _), Hm.out]; simp
  obtain ⟨t0, t1, t2⟩ := ent_at hrow2 hAl
  have g0 := frozen_blk hrow2 (m * 3)
  have g1 := frozen_blk hrow2 (m * 3 + 1)
  have g2 := frozen_blk hrow2 (m * 3 + 2)
  clear hrow2 hAl
  go_cut [] (fun wd => NodeAt wd p (.slice (some ⟨g, 0, none⟩) (m + 1) cap) cv cp (its ++ [ent0]) cps ∧ Stp (nodeF p (.slice (some ⟨g, 0, none⟩) (m + 1) cap) cv) w wd (nodeF p (.slice (some ⟨g, 0, none⟩) (m + 1) cap) cv) ∧
    wd.heap[B]? = some (.cells #[Value.string e.key, Value.int IntKind.u64 e.ver, Value.slice e.va e.vn e.vc] 33 (0, 0)))
  case first =>
    go_region_held3 (fun w' => w'.cell? ⟨p, 0, none⟩ = some (.slice (some ⟨g, 0, none⟩) (m + 1) cap) ∧ w'.cell? ⟨B + 1, 0, none⟩ = some (.string ⟨#[]⟩) ∧ w'.cell? ⟨B + 1, 1, none⟩ = some (.int .u64 0) ∧ w'.cell? ⟨B + 1, 2, none⟩ = some (.slice none 0 0)) (first | exact ⟨c0, z0, z1, z2⟩ | exact ⟨(kept3 hpg).trans c0, (kept3 hBg1).trans z0, (kept3 hBg1).trans z1, (kept3 hBg1).trans z2⟩) (fail)
    go_wp2
    go_meet
    case rel =>
      obtain ⟨r1, r2, r3⟩ := store3 hN m (by rw [List.length_append, Hm.out]; simp) ent0
      have e1 : (its ++ [e]).set m ent0 = its ++ [ent0] := by rw [List.set_append_right _ _ (by rw [Hm.out]; exact Nat.le_refl _), Hm.out]; simp
      rw [e1] at r1
      exact ⟨r1.drew, (r2.pre hchg).drew, (r3.same B (Array.getElem?_eq_some_iff.1 hbox).1 (one_other hBg)).trans hbox⟩
  case rest =>
    clear hN hbox hzero c0 z0 z1 z2 t0 t1 t2 g0 g1 g2
    obtain ⟨hN3, hS3, hbox3⟩ := hcut
    have c0 : wc.cell? ⟨p, 0, none⟩ = some (.slice (some ⟨g, 0, none⟩) (m + 1) cap) := cell_blk hN3.blk 0
    have f0 : wc.frozen? ⟨p, 0, none⟩ = false := frozen_blk hN3.blk 0
    go_wp2
    have hb2 : (wc.setCell ⟨p, 0, none⟩ (.slice (some ⟨g, 0, none⟩) m cap)).heap[B]? = some (.cells #[Value.string e.key, Value.int IntKind.u64 e.ver, Value.slice e.va e.vn e.vc] 33 (0, 0)) := (Below.heap_setCell _ _ _ _ hBp).trans hbox3
    have b0 : (wc.setCell ⟨p, 0, none⟩ (.slice (some ⟨g, 0, none⟩) m cap)).cell? ⟨B, 0, none⟩ = some (.string e.key) := cell_blk hb2 0
    have b1 : (wc.setCell ⟨p, 0, none⟩ (.slice (some ⟨g, 0, none⟩) m cap)).cell? ⟨B, 1, none⟩ = some (.int .u64 e.ver) := cell_blk hb2 1
    have b2 : (wc.setCell ⟨p, 0, none⟩ (.slice (some ⟨g, 0, none⟩) m cap)).cell? ⟨B, 2, none⟩ = some (.slice e.va e.vn e.vc) := cell_blk hb2 2
    obtain ⟨r1, r2⟩ := head3 (m := m) hN3 (by rw [List.length_append, Hm.out]; simp)
    rw [List.take_append_of_le_length (by rw [Hm.out]; exact Nat.le_refl _), List.take_of_length_le (by rw [Hm.out]; exact Nat.le_refl _)] at r1
    exact bodyPost_ret (v := .agg #[Value.string e.key, Value.int IntKind.u64 e.ver, Value.slice e.va e.vn e.vc]) (by simp [results, Try.results55, go_sem, b0, b1, b2]) rfl ⟨rfl, _, r1, hS3.trans r2⟩

end Go.Proofs.Qxb6603483a
