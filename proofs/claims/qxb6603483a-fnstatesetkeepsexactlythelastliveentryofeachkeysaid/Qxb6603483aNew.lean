/-
  newNode: the free list's, the context's: walked.
-/
import Derived.Test.Qxb6603483aPool
import Derived.Test.Qxb6603483aLocks
import Derived.Deep.RegionHeld3
import Derived.Deep.RegionLaw
import Derived.Deep.DeepCutAuto
import Derived.Deep.DrawnRows
namespace Go.Proofs.Qxb6603483a
open Go.RowKit Go.MuLone
set_option linter.unusedSimpArgs false
attribute [local go_sem ↓] Go.wp_at_zero Go.wp_at_succ

set_option maxRecDepth 100000 in
set_option maxHeartbeats 1000000 in
theorem flNew_none {w : World} {c f : Nat} {fv : Value} (h : PoolAt w c f fv []) :
    Calls Try.prog 47 #[.pointer (some ⟨f, 0, none⟩)] w fun r w' => ∃ q iv cv fv' ns', r = .returned (ptr q) ∧ NodeAt w' q iv cv (.pointer none) [] [] ∧ PoolAt w' c f fv' ns' ∧ Stp (poolF c f fv []) w w' (fun k => poolF c f fv' ns' k + nodeF q iv cv k) := by
  obtain ⟨a, cap, hfv⟩ : ∃ a cap, fv = .slice a 0 cap := by
    rcases h.row.form with ⟨h1, h2⟩ | ⟨g, cap, h1⟩
    · exact ⟨none, 0, h1⟩
    · exact ⟨_, _, h1⟩
  subst hfv
  have c0 : w.cell? ⟨f, 0, none⟩ = some (.int .i32 0) := cell_blk h.fl 0
  have f0 : w.frozen? ⟨f, 0, none⟩ = false := frozen_blk h.fl 0
  have hb1 : (w.setCell ⟨f, 0, none⟩ (.int .i32 1)).heap[f]? = some (.cells #[.int .i32 1, .int .u32 0, .slice a 0 cap] 124 (0, 0)) := by rw [heap_setCell_blk h.fl]; rfl
  have hc1 : Chg (one f) w (w.setCell ⟨f, 0, none⟩ (.int .i32 1)) := (Chg.refl (one f) w).setCell (p := ⟨f, 0, none⟩) (fun _ => by show 1 ≤ one f f; rw [one_self]; exact Nat.le_refl _) _
  generalize hW1 : w.setCell ⟨f, 0, none⟩ (.int .i32 1) = W1 at *
  have d0 : W1.cell? ⟨f, 0, none⟩ = some (.int .i32 1) := cell_blk hb1 0
  have d2 : W1.cell? ⟨f, 2, none⟩ = some (.slice a 0 cap) := cell_blk hb1 2
  have e0 : W1.frozen? ⟨f, 0, none⟩ = false := frozen_blk hb1 0
  have hb2 : (W1.setCell ⟨f, 0, none⟩ (.int .i32 0)).heap[f]? = some (.cells #[.int .i32 0, .int .u32 0, .slice a 0 cap] 124 (0, 0)) := by rw [heap_setCell_blk hb1]; rfl
  have hc2 : Chg (one f) w (W1.setCell ⟨f, 0, none⟩ (.int .i32 0)) := hc1.setCell (p := ⟨f, 0, none⟩) (fun _ => by show 1 ≤ one f f; rw [one_self]; exact Nat.le_refl _) _
  go_enter Try.func47, Try.ntmps47
  go_wp2_with (go_at_call 59; refine (lock_free muLib ⟨f, 0, none⟩ _ c0 f0).mono ?_; rintro e w' ⟨rfl, rfl⟩; rw [hW1])
  refine (unlock_held muLib ⟨f, 0, none⟩ _ d0 e0).mono ?_
  rintro e w' ⟨rfl, rfl⟩
  generalize hW2 : W1.setCell ⟨f, 0, none⟩ (.int .i32 0) = W2 at *
  go_wp2
  go_ret
  have hsz := hc2.size
  have hu := h.uniq
  have hfl := (Array.getElem?_eq_some_iff.1 h.fl).1
  have hcl := (Array.getElem?_eq_some_iff.1 h.cow).1
  obtain ⟨hz, hsz3⟩ := MapKept.heap_alloc W2 (Obj.cells #[.slice none 0 0, .slice none 0 0, .pointer none] 106)
  have hc3 : Chg (one f) w (W2.alloc (Obj.cells #[.slice none 0 0, .slice none 0 0, .pointer none] 106)) := hc2.alloc _
  have hN : NodeAt (W2.alloc (Obj.cells #[.slice none 0 0, .slice none 0 0, .pointer none] 106)) W2.heap.size (.slice none 0 0) (.slice none 0 0) (.pointer none) [] [] :=
    ⟨hz, Row3.nil _, Row1.nil _, fun k => by rw [ob_nil]; have := one_le W2.heap.size k; omega⟩
  have hP : PoolAt (W2.alloc (Obj.cells #[.slice none 0 0, .slice none 0 0, .pointer none] 106)) c f (.slice a 0 cap) [] :=
    ⟨(hc3.same c hcl (one_other (fun e => by have := hu c; unfold poolF at this; rw [e, one_self] at this; omega))).trans h.cow,
      (Below.heap_alloc _ _ _ (by omega)).trans hb2, h.row.same (fun k hk => hc3.same k (h.row.lt hk) (one_other (fun e => by have := hu k; unfold poolF at this; rw [e, one_self] at this; subst e; omega))), fun n hn => (by cases hn), hu⟩
  refine ⟨_, _, _, _, _, rfl, hN, hP, hc3.mono (fun k _ h0 => by unfold poolF at h0; omega), fun k hk => ?_, fun k => ?_, fun k hk => ?_⟩
  · show poolF c f _ [] k + nodeF W2.heap.size _ _ k ≤ _
    unfold nodeF
    rw [ob_nil, one_other (by omega)]
    omega
  · show poolF c f _ [] k + nodeF W2.heap.size _ _ k ≤ _
    unfold nodeF
    rw [ob_nil]
    by_cases hk : k = W2.heap.size
    · have : ¬ 1 ≤ poolF c f (.slice a 0 cap) [] k := fun h1 => by have := h.lt h1; omega
      have := one_le W2.heap.size k
      omega
    · rw [one_other hk]; have := hu k; omega
  · have hk : 1 ≤ poolF c f (.slice a 0 cap) [] k + nodeF W2.heap.size (.slice none 0 0) (.slice none 0 0) k := hk
    by_cases h1 : 1 ≤ poolF c f (.slice a 0 cap) [] k
    · exact hP.lt h1
    · exact hN.lt (by omega)

set_option maxRecDepth 100000 in
set_option maxHeartbeats 1000000 in
theorem flNew_some {w : World} {c f : Nat} {fv : Value} {ns : List FN} {n : FN} (h : PoolAt w c f fv (ns ++ [n])) :
    Calls Try.prog 47 #[.pointer (some ⟨f, 0, none⟩)] w fun r w' => ∃ q iv cv fv' ns', r = .returned (ptr q) ∧ NodeAt w' q iv cv (.pointer none) [] [] ∧ PoolAt w' c f fv' ns' ∧ Stp (poolF c f fv (ns ++ [n])) w w' (fun k => poolF c f fv' ns' k + nodeF q iv cv k) := by
  have hps : ptrs (ns ++ [n]) = ptrs ns ++ [ptr n.q] := by simp [ptrs]
  have hpl : (ptrs ns).length = ns.length := by simp [ptrs]
  obtain ⟨m, hm⟩ : ∃ m, m = ns.length := ⟨_, rfl⟩
  obtain ⟨g, cap, hfv⟩ : ∃ g cap, fv = .slice (some ⟨g, 0, none⟩) (m + 1) cap := by
    rcases h.row.form with ⟨_, h2⟩ | ⟨g, cap, h1⟩
    · rw [hps] at h2; simp at h2
    · exact ⟨g, cap, by rw [h1, hps, List.length_append, hpl, hm]; rfl⟩
  subst hfv
  have hrow0 := h.row
  rw [hps] at hrow0
  obtain ⟨sp, hrow, hlen, hnl, hcap, hmax⟩ := hrow0.open'
  clear hnl
  have hAl : (ptrs ns ++ [ptr n.q])[m]? = some (ptr n.q) := by rw [List.getElem?_append_right (by omega), hpl, hm]; simp
  have hu := h.uniq
  have hgf : g ≠ f := fun e => by have := hu f; unfold poolF at this; rw [ob_slice, e, one_self] at this; omega
  have hm1 : m < 9223372036854775807 := by unfold maxLen at hmax; omega
  -- the lock taken
  have c0 : w.cell? ⟨f, 0, none⟩ = some (.int .i32 0) := cell_blk h.fl 0
  have f0 : w.frozen? ⟨f, 0, none⟩ = false := frozen_blk h.fl 0
  have hb1 : (w.setCell ⟨f, 0, none⟩ (.int .i32 1)).heap[f]? = some (.cells #[.int .i32 1, .int .u32 0, .slice (some ⟨g, 0, none⟩) (m + 1) cap] 124 (0, 0)) := by rw [heap_setCell_blk h.fl]; rfl
  have hr1 : (w.setCell ⟨f, 0, none⟩ (.int .i32 1)).heap[g]? = some (.cells (ptrs ns ++ [ptr n.q] ++ sp).toArray 84 (0, 0)) := (Below.heap_setCell _ _ _ _ hgf).trans hrow
  have hc1 : Chg (fun k => one f k + ob (.slice (some ⟨g, 0, none⟩) (m + 1) cap) k) w (w.setCell ⟨f, 0, none⟩ (.int .i32 1)) := (Chg.refl _ w).setCell (p := ⟨f, 0, none⟩) (fun _ => by show 1 ≤ one f f + _; rw [one_self]; omega) _
  generalize hW1 : w.setCell ⟨f, 0, none⟩ (.int .i32 1) = W1 at *
  have d2 : W1.cell? ⟨f, 2, none⟩ = some (.slice (some ⟨g, 0, none⟩) (m + 1) cap) := cell_blk hb1 2
  have t0 : W1.cell? ⟨g, m, none⟩ = some (.pointer (some ⟨n.q, 0, none⟩)) := ptr_at hr1 hAl
  have g0 := frozen_blk hr1 m
  -- the last place cleared
  have hr2 : (W1.setCell ⟨g, m, none⟩ (.pointer none)).heap[g]? = some (.cells (ptrs ns ++ ([Value.pointer none] ++ sp)).toArray 84 (0, 0)) := by
    rw [heap_setCell_blk hr1]
    simp only [List.setIfInBounds_toArray]
    rw [List.append_assoc, List.set_append_right _ _ (by omega), hpl, hm]
    simp
  have hb2 : (W1.setCell ⟨g, m, none⟩ (.pointer none)).heap[f]? = some (.cells #[.int .i32 1, .int .u32 0, .slice (some ⟨g, 0, none⟩) (m + 1) cap] 124 (0, 0)) := (Below.heap_setCell _ _ _ _ (fun e => hgf e.symm)).trans hb1
  have hc2 : Chg (fun k => one f k + ob (.slice (some ⟨g, 0, none⟩) (m + 1) cap) k) w (W1.setCell ⟨g, m, none⟩ (.pointer none)) := hc1.setCell (p := ⟨g, m, none⟩) (fun _ => by show 1 ≤ one f g + ob _ g; rw [ob_slice, one_self]; omega) _
  have d2' : (W1.setCell ⟨g, m, none⟩ (.pointer none)).cell? ⟨f, 2, none⟩ = some (.slice (some ⟨g, 0, none⟩) (m + 1) cap) := cell_blk hb2 2
  have e2' : (W1.setCell ⟨g, m, none⟩ (.pointer none)).frozen? ⟨f, 2, none⟩ = false := frozen_blk hb2 2
  have hm0 : (0 : Int) ≤ (m : Int) := Int.natCast_nonneg _
  have hwm : IntKind.i64.wrap (m : Int) = (m : Int) := by rw [IntKind.wrap_i64]; omega
  have Hcap := hide hcap
  have Hmax := hide hmax
  clear hm1
  have hix : ∀ w', (Instr.indexAt 103 (.slice (some ⟨g, 0, none⟩) (m + 1) cap) (.int .i64 (m : Int))).run Try.prog w' = .ok (.pointer (some ⟨g, m, none⟩)) w' :=
    fun w' => by have := run_ix (P := Try.prog) 103 1 g (m + 1) cap m (m : Int) rfl (by omega) Try.underlying103 (fun _ => by kernel_rfl) w'; rw [Nat.mul_one] at this; exact this
  have hh1 : ∀ w', (Instr.sliceAt 103 (.slice (some ⟨g, 0, none⟩) (m + 1) cap) none (some (.int .i64 (m : Int))) none).run Try.prog w' = .ok (.slice (some ⟨g, 0, none⟩) m cap) w' :=
    fun w' => run_head 103 1 g _ cap m _ rfl (by omega) Try.underlying103 (fun _ => by kernel_rfl) w'
  generalize hW2 : W1.setCell ⟨g, m, none⟩ (.pointer none) = W2 at *
  -- the list cut, the lock let go
  have hb3 : (W2.setCell ⟨f, 2, none⟩ (.slice (some ⟨g, 0, none⟩) m cap)).heap[f]? = some (.cells #[.int .i32 1, .int .u32 0, .slice (some ⟨g, 0, none⟩) m cap] 124 (0, 0)) := by rw [heap_setCell_blk hb2]; rfl
  have hr3 : (W2.setCell ⟨f, 2, none⟩ (.slice (some ⟨g, 0, none⟩) m cap)).heap[g]? = _ := (Below.heap_setCell _ _ _ _ hgf).trans hr2
  have hc3 : Chg (fun k => one f k + ob (.slice (some ⟨g, 0, none⟩) (m + 1) cap) k) w (W2.setCell ⟨f, 2, none⟩ (.slice (some ⟨g, 0, none⟩) m cap)) := hc2.setCell (p := ⟨f, 2, none⟩) (fun _ => by show 1 ≤ one f f + _; rw [one_self]; omega) _
  generalize hW3 : W2.setCell ⟨f, 2, none⟩ (.slice (some ⟨g, 0, none⟩) m cap) = W3 at *
  have d0 : W3.cell? ⟨f, 0, none⟩ = some (.int .i32 1) := cell_blk hb3 0
  have e0 : W3.frozen? ⟨f, 0, none⟩ = false := frozen_blk hb3 0
  have hb4 : (W3.setCell ⟨f, 0, none⟩ (.int .i32 0)).heap[f]? = some (.cells #[.int .i32 0, .int .u32 0, .slice (some ⟨g, 0, none⟩) m cap] 124 (0, 0)) := by rw [heap_setCell_blk hb3]; rfl
  have hr4 : (W3.setCell ⟨f, 0, none⟩ (.int .i32 0)).heap[g]? = _ := (Below.heap_setCell _ _ _ _ hgf).trans hr3
  have hc4 : Chg (fun k => one f k + ob (.slice (some ⟨g, 0, none⟩) (m + 1) cap) k) w (W3.setCell ⟨f, 0, none⟩ (.int .i32 0)) := hc3.setCell (p := ⟨f, 0, none⟩) (fun _ => by show 1 ≤ one f f + _; rw [one_self]; omega) _
  generalize hW4 : W3.setCell ⟨f, 0, none⟩ (.int .i32 0) = W4 at *
  have Hm := hide hm
  have Hlen := hide hlen
  have Hpl := hide hpl
  have Hps := hide hps
  clear hm hlen hAl hpl hps hcap hmax
  unfold ptr
  go_enter Try.func47, Try.ntmps47
  go_wp2_with (go_at_call 59; refine (lock_free muLib ⟨f, 0, none⟩ _ c0 f0).mono ?_; rintro e w' ⟨rfl, rfl⟩; rw [hW1])
  refine (unlock_held muLib ⟨f, 0, none⟩ _ d0 e0).mono ?_
  rintro e w' ⟨rfl, rfl⟩
  rw [hW4]
  go_wp2
  go_ret
  have hrow' : Row1 W4 (.slice (some ⟨g, 0, none⟩) m cap) (ptrs ns) := Row1.shut hr4 (by have := Hlen.out; rw [List.append_assoc, List.length_append] at this; rw [List.length_append]; exact this) (by rw [Hpl.out]; exact Hm.out) (by have := Hcap.out; omega) Hmax.out
  have e1 : ∀ k, poolF c f (.slice (some ⟨g, 0, none⟩) (m + 1) cap) ns k + nodeF n.q n.iv n.cv k = poolF c f (.slice (some ⟨g, 0, none⟩) (m + 1) cap) (ns ++ [n]) k := fun k => by unfold poolF; rw [fnF_append, fnF_one]; omega
  have hnm : n ∈ ns ++ [n] := by simp
  obtain ⟨r1, r2⟩ := pool_turned (R := nodeF n.q n.iv n.cv) h hc4 hb4 hrow' (fun k _ => by rw [ob_slice, ob_slice]; exact Nat.le_refl _) (fun x hx => h.nodes x (by simp [hx])) (fun k => by rw [e1]; exact hu k) (fun k hk => (h.nodes n hnm).lt hk)
  refine ⟨_, n.iv, n.cv, _, _, rfl, hc4.node (h.nodes n hnm) (fun k hk => ?_), r1, r2.congr e1 (fun _ => rfl)⟩
  have h1 := hu k
  rw [← e1 k] at h1
  unfold poolF at h1
  show one f k + ob _ k = 0
  omega

theorem flNew {w : World} {c f : Nat} {fv : Value} {ns : List FN} (h : PoolAt w c f fv ns) :
    Calls Try.prog 47 #[.pointer (some ⟨f, 0, none⟩)] w fun r w' => ∃ q iv cv fv' ns', r = .returned (ptr q) ∧ NodeAt w' q iv cv (.pointer none) [] [] ∧ PoolAt w' c f fv' ns' ∧ Stp (poolF c f fv ns) w w' (fun k => poolF c f fv' ns' k + nodeF q iv cv k) := by
  rcases List.eq_nil_or_concat ns with rfl | ⟨t, n, rfl⟩
  · exact flNew_none h
  · rw [List.concat_eq_append] at h ⊢
    exact flNew_some h

set_option maxRecDepth 100000 in
set_option maxHeartbeats 1000000 in
theorem newNode {w : World} {c : Nat} {G : Nat → Nat} (h : Pool w c G) :
    Calls Try.prog 38 #[.pointer (some ⟨c, 0, none⟩)] w fun r w' => ∃ q iv cv G', r = .returned (ptr q) ∧ NodeAt w' q iv cv (ptr c) [] [] ∧ Pool w' c G' ∧ Stp G w w' (fun k => G' k + nodeF q iv cv k) := by
  obtain ⟨f, fv, ns, h, e⟩ := h
  obtain rfl : G = poolF c f fv ns := funext e
  clear e
  have c0 : w.cell? ⟨c, 0, none⟩ = some (.pointer (some ⟨f, 0, none⟩)) := cell_blk h.cow 0
  unfold ptr
  go_enter Try.func38, Try.ntmps38
  go_wp2_with (go_at_call 47; refine (flNew h).mono ?_; rintro e w' ⟨q, iv, cv, fv', ns', rfl, hN, hP, hS⟩; unfold ptr; have d0 : w'.cell? ⟨q, 2, none⟩ = some (.pointer none) := cell_blk hN.blk 2; have d1 : w'.frozen? ⟨q, 2, none⟩ = false := frozen_blk hN.blk 2)
  go_ret
  obtain ⟨r1, r2, r3⟩ := hN.setCow (ptr c)
  have hu := hS.uniq
  refine ⟨q, iv, cv, _, rfl, r1, ⟨f, fv', ns', hP.same (fun k hk => ?_), fun _ => rfl⟩, hS.trans ?_⟩
  · refine r3.same k (hP.lt hk) (one_other (fun e => ?_))
    have := hu k
    have h2 : 1 ≤ nodeF q iv cv k := by unfold nodeF; rw [e, one_self]; omega
    omega
  · exact (r2.frame (poolF c f fv' ns') (fun k => by have := hu k; omega) (fun k hk => hP.lt hk)).congr (fun k => Nat.add_comm _ _) (fun k => Nat.add_comm _ _)

end Go.Proofs.Qxb6603483a
