/-
  freeNode: the free list's, the context's: walked.
-/
import Derived.Test.Qxb6603483aPool
import Derived.Test.Qxb6603483aLocks
import Derived.Test.Qxb6603483aTru3
import Derived.Test.Qxb6603483aTru1
import Derived.Test.Qxb6603483aIns1
import Derived.OwnWalk
import Derived.BigQuiet
namespace Go.Proofs.Qxb6603483a
open Go.RowKit Go.MuLone
set_option linter.unusedSimpArgs false
attribute [local go_sem ↓] Go.wp_at_zero Go.wp_at_succ

set_option maxRecDepth 100000 in
set_option maxHeartbeats 1000000 in
theorem flFree_some {w : World} {c f q g m cap : Nat} {iv cv : Value} {ns : List FN} (h : PoolAt w c f (.slice (some ⟨g, 0, none⟩) m cap) ns) (hm : m = ns.length) (hN : NodeAt w q iv cv (.pointer none) [] [])
    (hd : ∀ k, poolF c f (.slice (some ⟨g, 0, none⟩) m cap) ns k + nodeF q iv cv k ≤ 1) (hlt : m < cap) :
    Calls Try.prog 58 #[.pointer (some ⟨f, 0, none⟩), .pointer (some ⟨q, 0, none⟩)] w fun r w' => ∃ b fv' ns', r = .returned (.bool b) ∧ PoolAt w' c f fv' ns' ∧ Stp (fun k => poolF c f (.slice (some ⟨g, 0, none⟩) m cap) ns k + nodeF q iv cv k) w w' (poolF c f fv' ns') := by
  obtain ⟨i0, hi0, hz0, hz1, hz2⟩ := info_parts info84
  have hpl : (ptrs ns).length = ns.length := by simp [ptrs]
  have hu := h.uniq
  have hgf : g ≠ f := fun e => by have := hu f; unfold poolF at this; rw [ob_slice, e, one_self] at this; omega
  have hfl := (Array.getElem?_eq_some_iff.1 h.fl).1
  have hgl : g < w.heap.size := h.row.lt (by rw [ob_slice, one_self]; omega)
  -- the lock taken
  have c0 : w.cell? ⟨f, 0, none⟩ = some (.int .i32 0) := cell_blk h.fl 0
  have f0 : w.frozen? ⟨f, 0, none⟩ = false := frozen_blk h.fl 0
  have hb1 : (w.setCell ⟨f, 0, none⟩ (.int .i32 1)).heap[f]? = some (.cells #[.int .i32 1, .int .u32 0, .slice (some ⟨g, 0, none⟩) m cap] 124 (0, 0)) := by rw [heap_setCell_blk h.fl]; rfl
  have hr1 : Row1 (w.setCell ⟨f, 0, none⟩ (.int .i32 1)) (.slice (some ⟨g, 0, none⟩) m cap) (ptrs ns) := h.row.same (fun k hk => Below.heap_setCell _ _ _ _ (fun e => by rw [ob_slice] at hk; exact hgf (by rw [← one_pos hk]; exact e)))
  have hc1 : Chg (fun k => one f k + ob (.slice (some ⟨g, 0, none⟩) m cap) k) w (w.setCell ⟨f, 0, none⟩ (.int .i32 1)) := (Chg.refl _ w).setCell (p := ⟨f, 0, none⟩) (fun _ => by show 1 ≤ one f f + _; rw [one_self]; omega) _
  have hs1 : (w.setCell ⟨f, 0, none⟩ (.int .i32 1)).heap.size = w.heap.size := by simp [World.setCell]
  generalize hW1 : w.setCell ⟨f, 0, none⟩ (.int .i32 1) = W1 at *
  have d2 : W1.cell? ⟨f, 2, none⟩ = some (.slice (some ⟨g, 0, none⟩) m cap) := cell_blk hb1 2
  have hlt' : (m : Int) < (cap : Int) := by omega
  unfold Row1 at hr1
  rw [hpl, ← hm] at hr1
  have Hm := hide hm
  have Hpl := hide hpl
  have Hs1 := hide hs1
  have hf1 : f < W1.heap.size := by rw [hs1]; exact hfl
  clear hm hpl hs1
  go_enter Try.func58, Try.ntmps58
  go_wp2_with (go_at_call 59; refine (lock_free muLib ⟨f, 0, none⟩ _ c0 f0).mono ?_; rintro e w' ⟨rfl, rfl⟩; rw [hW1])
  go_quiet (fail)
  obtain ⟨W, hW, hbW, hrW, hcW, hsW, hfW⟩ : ∃ W, W = W1.drewN nq ∧ W.heap[f]? = some (.cells #[.int .i32 1, .int .u32 0, .slice (some ⟨g, 0, none⟩) m cap] 124 (0, 0)) ∧ W.ownsRow 0 84 1 (.slice (some ⟨g, 0, none⟩) m cap) m (ptrs ns) ∧
      Chg (fun k => one f k + ob (.slice (some ⟨g, 0, none⟩) m cap) k) w W ∧ Hid (W.heap.size = w.heap.size) ∧ f < W.heap.size := ⟨_, rfl, hb1, hr1, ⟨hc1.os, hc1.tape, hc1.output, hc1.size, hc1.same⟩, Hs1, hf1⟩
  rw [← hW]
  clear hW hb1 hr1 hc1 Hs1 hf1 d2 hW1 c0 f0
  clear W1
  have d2 : W.cell? ⟨f, 2, none⟩ = some (.slice (some ⟨g, 0, none⟩) m cap) := cell_blk hbW 2
  go_wp2_with (at_builtin; refine wpList_append_fits _ rfl _ _ _ rfl 0 84 i0 1 Try.underlying103 hi0 hz1 g m cap (ptrs ns) (by rfl) (hrW.alloc _) ⟨W.heap.size, 0, none⟩ 1 1 [.pointer (some ⟨q, 0, none⟩)] (by rfl) (by rfl) (World.news_of_block (cs := #[.pointer (some ⟨q, 0, none⟩)]) (t := 84) (fr := (0, 0)) (heap_alloc_new W _)) (by simp [Value.oneCell']) hlt ?_; intro w1 hown1 hgrow; have hX := (Chg.refl (fun _ => 0) W).alloc (Obj.cells #[.pointer (some ⟨q, 0, none⟩)] 84); have hb1 := grown_blk hX hgrow hbW (fun e => hgf (by injection e with e; exact e.symm)); have c1 : w1.cell? ⟨f, 2, none⟩ = some (.slice (some ⟨g, 0, none⟩) m cap) := cell_blk hb1 2; have f1 : w1.frozen? ⟨f, 2, none⟩ = false := frozen_blk hb1 2)
  have hb2 : (w1.setCell ⟨f, 2, none⟩ (.slice (some ⟨g, 0, none⟩) (m + 1) cap)).heap[f]? = some (.cells #[.int .i32 1, .int .u32 0, .slice (some ⟨g, 0, none⟩) (m + 1) cap] 124 (0, 0)) := by rw [heap_setCell_blk hb1]; rfl
  refine (unlock_held muLib ⟨f, 0, none⟩ _ (cell_blk hb2 0) (frozen_blk hb2 0)).mono ?_
  rintro e w' ⟨rfl, rfl⟩
  go_wp2
  go_ret
  have hb3 : ((w1.setCell ⟨f, 2, none⟩ (.slice (some ⟨g, 0, none⟩) (m + 1) cap)).setCell ⟨f, 0, none⟩ (.int .i32 0)).heap[f]? = some (.cells #[.int .i32 0, .int .u32 0, .slice (some ⟨g, 0, none⟩) (m + 1) cap] 124 (0, 0)) := by rw [heap_setCell_blk hb2]; rfl
  have hr3 : Row1 ((w1.setCell ⟨f, 2, none⟩ (.slice (some ⟨g, 0, none⟩) (m + 1) cap)).setCell ⟨f, 0, none⟩ (.int .i32 0)) (.slice (some ⟨g, 0, none⟩) (m + 1) cap) (ptrs (ns ++ [⟨q, iv, cv⟩])) := by
    have e1 : ptrs (ns ++ [⟨q, iv, cv⟩]) = ptrs ns ++ [ptr q] := by simp [ptrs]
    unfold Row1
    rw [e1, List.length_append, Hpl.out, ← Hm.out]
    refine ownsRow_same hown1 (fun k hk => ?_)
    have e : g = k := by simpa [Value.ownBlock] using hk
    subst e
    exact (Below.heap_setCell _ _ _ _ hgf).trans (Below.heap_setCell _ _ _ _ hgf)
  have hc3 : Chg (fun k => one f k + ob (.slice (some ⟨g, 0, none⟩) m cap) k) w ((w1.setCell ⟨f, 2, none⟩ (.slice (some ⟨g, 0, none⟩) (m + 1) cap)).setCell ⟨f, 0, none⟩ (.int .i32 0)) := by
    have a1 := (hcW.alloc (Obj.cells #[.pointer (some ⟨q, 0, none⟩)] 84)).grown hgrow (fun k hk _ => by injection hk with hk; subst hk; show 1 ≤ one f g + ob _ g; rw [ob_slice, one_self]; omega)
    exact (a1.setCell (p := ⟨f, 2, none⟩) (fun _ => by show 1 ≤ one f f + _; rw [one_self]; omega) _).setCell (p := ⟨f, 0, none⟩) (fun _ => by show 1 ≤ one f f + _; rw [one_self]; omega) _
  have e1 : ∀ k, poolF c f (.slice (some ⟨g, 0, none⟩) m cap) (ns ++ [⟨q, iv, cv⟩]) k + 0 = poolF c f (.slice (some ⟨g, 0, none⟩) m cap) ns k + nodeF q iv cv k := fun k => by unfold poolF; rw [fnF_append]; have : fnF [⟨q, iv, cv⟩] k = nodeF q iv cv k := fnF_one _ _; omega
  obtain ⟨r1, r2⟩ := pool_turned (R := fun _ => 0) h hc3 hb3 hr3 (fun k _ => by rw [ob_slice, ob_slice]; exact Nat.le_refl _) (fun x hx => by
    rcases List.mem_append.1 hx with hx | hx
    · exact h.nodes x hx
    · rw [List.mem_singleton.1 hx]; exact hN) (fun k => by rw [e1]; exact hd k) (fun k hk => by omega)
  exact ⟨_, _, _, rfl, r1, r2.congr e1 (fun _ => rfl)⟩

set_option maxRecDepth 100000 in
set_option maxHeartbeats 1000000 in
theorem flFree_full {w : World} {c f q m cap : Nat} {a : Option Addr} {iv cv : Value} {ns : List FN} (h : PoolAt w c f (.slice a m cap) ns)
    (hlt : ¬ m < cap) :
    Calls Try.prog 58 #[.pointer (some ⟨f, 0, none⟩), .pointer (some ⟨q, 0, none⟩)] w fun r w' => ∃ b fv' ns', r = .returned (.bool b) ∧ PoolAt w' c f fv' ns' ∧ Stp (fun k => poolF c f (.slice a m cap) ns k + nodeF q iv cv k) w w' (poolF c f fv' ns') := by
  have c0 : w.cell? ⟨f, 0, none⟩ = some (.int .i32 0) := cell_blk h.fl 0
  have f0 : w.frozen? ⟨f, 0, none⟩ = false := frozen_blk h.fl 0
  have hb1 : (w.setCell ⟨f, 0, none⟩ (.int .i32 1)).heap[f]? = some (.cells #[.int .i32 1, .int .u32 0, .slice a m cap] 124 (0, 0)) := by rw [heap_setCell_blk h.fl]; rfl
  have hc1 : Chg (fun k => one f k + ob (.slice a m cap) k) w (w.setCell ⟨f, 0, none⟩ (.int .i32 1)) := (Chg.refl _ w).setCell (p := ⟨f, 0, none⟩) (fun _ => by show 1 ≤ one f f + _; rw [one_self]; omega) _
  generalize hW1 : w.setCell ⟨f, 0, none⟩ (.int .i32 1) = W1 at *
  have d2 : W1.cell? ⟨f, 2, none⟩ = some (.slice a m cap) := cell_blk hb1 2
  have hlt' : ¬ (m : Int) < (cap : Int) := by omega
  have HW1 := hide hW1
  clear hW1
  go_enter Try.func58, Try.ntmps58
  go_wp2_with (go_at_call 59; refine (lock_free muLib ⟨f, 0, none⟩ _ c0 f0).mono ?_; rintro e w' ⟨rfl, rfl⟩; rw [HW1.out])
  go_quiet (fail)
  obtain ⟨W, hW, hbW, hcW, hsame⟩ : ∃ W, W = W1.drewN nq ∧ W.heap[f]? = some (.cells #[.int .i32 1, .int .u32 0, .slice a m cap] 124 (0, 0)) ∧
      Chg (fun k => one f k + ob (.slice a m cap) k) w W ∧ Hid (∀ k, k ≠ f → W.heap[k]? = w.heap[k]?) := ⟨_, rfl, hb1, ⟨hc1.os, hc1.tape, hc1.output, hc1.size, hc1.same⟩, fun k hk => by rw [World.heap_drewN, ← HW1.out]; exact Below.heap_setCell _ _ _ _ hk⟩
  rw [← hW]
  clear hW hb1 hc1 d2 HW1 c0 f0
  clear W1
  go_wp2_with (fail)
  refine (unlock_held muLib ⟨f, 0, none⟩ _ (cell_blk hbW 0) (frozen_blk hbW 0)).mono ?_
  rintro e w' ⟨rfl, rfl⟩
  go_wp2
  go_ret
  have hb3 : (W.setCell ⟨f, 0, none⟩ (.int .i32 0)).heap[f]? = some (.cells #[.int .i32 0, .int .u32 0, .slice a m cap] 124 (0, 0)) := by rw [heap_setCell_blk hbW]; rfl
  have hu := h.uniq
  have hr3 : Row1 (W.setCell ⟨f, 0, none⟩ (.int .i32 0)) (.slice a m cap) (ptrs ns) := h.row.same (fun k hk => by
    have hne : k ≠ f := fun e => by have := hu k; unfold poolF at this; rw [e, one_self] at this; subst e; omega
    exact (Below.heap_setCell _ _ _ _ hne).trans (hsame.out k hne))
  have hc3 : Chg (fun k => one f k + ob (.slice a m cap) k) w (W.setCell ⟨f, 0, none⟩ (.int .i32 0)) := hcW.setCell (p := ⟨f, 0, none⟩) (fun _ => by show 1 ≤ one f f + _; rw [one_self]; omega) _
  obtain ⟨r1, r2⟩ := pool_turned (R := fun _ => 0) h hc3 hb3 hr3 (fun k _ => Nat.le_refl _) h.nodes (fun k => hu k) (fun k hk => by omega)
  exact ⟨_, _, _, rfl, r1, r2.chg.mono (fun k _ h0 => by have h0 : poolF c f (.slice a m cap) ns k + nodeF q iv cv k = 0 := h0; show poolF c f (.slice a m cap) ns k + 0 = 0; omega), fun k hk => Nat.le_add_right _ _, r1.uniq, fun k hk => r1.lt hk⟩

theorem flFree {w : World} {c f q : Nat} {fv iv cv : Value} {ns : List FN} (h : PoolAt w c f fv ns) (hN : NodeAt w q iv cv (.pointer none) [] [])
    (hd : ∀ k, poolF c f fv ns k + nodeF q iv cv k ≤ 1) :
    Calls Try.prog 58 #[.pointer (some ⟨f, 0, none⟩), .pointer (some ⟨q, 0, none⟩)] w fun r w' => ∃ b fv' ns', r = .returned (.bool b) ∧ PoolAt w' c f fv' ns' ∧ Stp (fun k => poolF c f fv ns k + nodeF q iv cv k) w w' (poolF c f fv' ns') := by
  have hpl : (ptrs ns).length = ns.length := by simp [ptrs]
  rcases h.row.form with ⟨h1, h2⟩ | ⟨g, cap, h1⟩
  · subst h1
    exact flFree_full h (by omega)
  · rw [hpl] at h1
    subst h1
    by_cases hlt : ns.length < cap
    · exact flFree_some h rfl hN hd hlt
    · exact flFree_full h hlt

set_option maxRecDepth 100000 in
set_option maxHeartbeats 1000000 in
theorem freeNode {w : World} {c q : Nat} {iv cv : Value} {its : List Ent} {cps : List Value} {G : Nat → Nat} (h : Pool w c G) (hN : NodeAt w q iv cv (ptr c) its cps) (hd : ∀ k, G k + nodeF q iv cv k ≤ 1)
    (hi : its.length ≤ 100000) (hc : cps.length ≤ 100000) :
    Calls Try.prog 46 #[.pointer (some ⟨c, 0, none⟩), .pointer (some ⟨q, 0, none⟩)] w fun r w' => ∃ x G', r = .returned (.int .i64 x) ∧ Pool w' c G' ∧ Stp (fun k => G k + nodeF q iv cv k) w w' G' := by
  obtain ⟨f, fv, ns, h, e⟩ := h
  obtain rfl : G = poolF c f fv ns := funext e
  clear e
  have Hi := hide hi
  have Hc := hide hc
  clear hi hc
  have c2 : w.cell? ⟨q, 2, none⟩ = some (.pointer (some ⟨c, 0, none⟩)) := cell_blk hN.blk 2
  have hq : ∀ w', (binOp .eql 85 (.pointer (some ⟨c, 0, none⟩)) (.pointer (some ⟨c, 0, none⟩))).run Try.prog w' = .ok (.bool true) w' := cow_eql _
  go_enter Try.func46, Try.ntmps46
  go_wp2_with (go_at_call 48; refine (truncate3 hN 0 (Nat.zero_le _) Hi.out).mono ?_; rintro e w1 ⟨rfl, iv1, hN1, hS1⟩)
  refine (truncate1 hN1 0 (Nat.zero_le _) Hc.out).mono ?_
  rintro e w2 ⟨rfl, cv2, hN2, hS2⟩
  rw [List.take_zero, List.take_zero] at hN2
  have d2 : w2.cell? ⟨q, 2, none⟩ = some (.pointer (some ⟨c, 0, none⟩)) := cell_blk hN2.blk 2
  have e2 : w2.frozen? ⟨q, 2, none⟩ = false := frozen_blk hN2.blk 2
  obtain ⟨r1, r2, r3⟩ := hN2.setCow (.pointer none)
  have hSt := ((hS1.trans hS2).trans r2).frame (poolF c f fv ns) (fun k => by have := hd k; omega) (fun k hk => h.lt hk)
  have h3 : PoolAt (w2.setCell ⟨q, 2, none⟩ (.pointer none)) c f fv ns := h.same (fun k hk => ((hS1.trans hS2).trans r2).chg.same k (h.lt hk) (by have := hd k; omega))
  generalize hW3 : w2.setCell ⟨q, 2, none⟩ (.pointer none) = W3 at *
  have b0 : W3.cell? ⟨c, 0, none⟩ = some (.pointer (some ⟨f, 0, none⟩)) := cell_blk h3.cow 0
  go_wp2_with (go_at_call 58; refine (flFree h3 r1 (fun k => by have := hSt.uniq k; omega)).mono ?_; rintro e w4 ⟨b, fv', ns', rfl, hP, hS4⟩)
  all_goals
    go_ret
    exact ⟨_, _, rfl, ⟨f, fv', ns', hP, fun _ => rfl⟩, (hSt.congr (fun k => Nat.add_comm _ _) (fun k => Nat.add_comm _ _)).trans hS4⟩

end Go.Proofs.Qxb6603483a
