/-
  AscendGreaterOrEqual from the empty key on; the key map's from.
-/
import Derived.Test.Qxb6603483aIter1
namespace Go.Proofs.Qxb6603483a
open Go.RowKit
set_option linter.unusedSimpArgs false
attribute [local go_sem ↓] Go.wp_at_zero Go.wp_at_succ

theorem iter_all {l B N : Nat} {J Jx : List Ent → World → Prop} (RR : Rnds l B N J Jx) : ∀ h, IterOK l B N J Jx h
  | 0 => iter_leaf RR
  | h + 1 => iter_inner RR (iter_all RR h)

theorem stepZ {P : Program} {md : Region.Mode} {ops : Array Oper} {Q : Exit → Act → World → Prop} {S : World → Prop} {n i : Nat} {o : Oper} {fuel : Nat} {listed : Array Bool} {a : Act} {w : World} (hr : Region.ready md ops listed = [i]) (_hn : i ≠ n) (ho : ops[i]? = some o)
    (h : ∀ K' : Act → World → Prop, Shut (∀ a w, S w → (S w → AnyZ P md ops Q S n fuel (listed.setIfInBounds i true) a w) → K' a w) → if Region.wanted o (yielded ops a.tmps) = true then Oper.wp P o a w K' Q else K' (a.put o.dst undef) w) :
    AnyZ P md ops Q S n (fuel + 1) listed a w := by
  refine ⟨fun h0 => (by rw [hr] at h0; cases h0), fun j hj => ?_⟩
  rw [hr] at hj
  rw [List.mem_singleton.1 hj]
  exact wpOp_step ho (fun K' hK => h K' (fun a w hS hW => hK a w ⟨fun _ => hS, hW hS⟩))

set_option maxRecDepth 100000 in
set_option maxHeartbeats 1000000 in
theorem opt33 {w : World} : Calls Try.prog 33 #[.agg #[.string ⟨#[]⟩, .int .u64 0, .slice none 0 0]] w fun r w' => r = .returned startV ∧ Chg0 w w' := by
  obtain ⟨W, hW, ⟨hbox, hzero⟩, hchg⟩ : ∃ W, W = (w.alloc (Obj.cells #[Value.string { data := #[] }, Value.int IntKind.u64 0, Value.slice none 0 0] 33)).alloc (Obj.cells #[Value.string { data := #[] }, Value.int IntKind.u64 0, Value.slice none 0 0, Value.bool false] 92) ∧
      (W.heap[w.heap.size]? = some (.cells #[Value.string { data := #[] }, Value.int IntKind.u64 0, Value.slice none 0 0] 33 (0, 0)) ∧
      W.heap[w.heap.size + 1]? = some (.cells #[Value.string { data := #[] }, Value.int IntKind.u64 0, Value.slice none 0 0, Value.bool false] 92 (0, 0))) ∧ Chg0 w W :=
    ⟨_, rfl, two_boxes w _ _ _ _, ((Chg.refl _ w).alloc _).alloc _⟩
  have hW' := hW.symm
  clear hW
  have b0 : W.cell? ⟨w.heap.size, 0, none⟩ = some (.string ⟨#[]⟩) := cell_blk hbox 0
  have b1 : W.cell? ⟨w.heap.size, 1, none⟩ = some (.int .u64 0) := cell_blk hbox 1
  have b2 : W.cell? ⟨w.heap.size, 2, none⟩ = some (.slice none 0 0) := cell_blk hbox 2
  have z0 : W.cell? ⟨w.heap.size + 1, 0, none⟩ = some (.string ⟨#[]⟩) := cell_blk hzero 0
  have z1 : W.cell? ⟨w.heap.size + 1, 1, none⟩ = some (.int .u64 0) := cell_blk hzero 1
  have z2 : W.cell? ⟨w.heap.size + 1, 2, none⟩ = some (.slice none 0 0) := cell_blk hzero 2
  have z3 : W.cell? ⟨w.heap.size + 1, 3, none⟩ = some (.bool false) := cell_blk hzero 3
  have y0 := frozen_blk hzero 0
  have y1 := frozen_blk hzero 1
  have y2 := frozen_blk hzero 2
  have y3 := frozen_blk hzero 3
  go_enter Try.func33, Try.ntmps33
  go_wp2
  clear hW'
  have r0 := heap_setCell_blk (heap_setCell_blk (heap_setCell_blk (heap_setCell_blk hzero 0 (.string ⟨#[]⟩)) 1 (.int .u64 0)) 2 (.slice none 0 0)) 3 (.bool true)
  refine bodyPost_ret (v := startV) (by
    have r1 := cell_blk r0 0
    have r2 := cell_blk r0 1
    have r3 := cell_blk r0 2
    have r4 := cell_blk r0 3
    simp [results, Try.results33, go_sem, r1, r2, r3, r4, startV]) rfl ?_
  refine ⟨rfl, (((hchg.setCell (p := ⟨w.heap.size + 1, 0, none⟩) (fun h => ?_) _).setCell (p := ⟨w.heap.size + 1, 1, none⟩) (fun h => ?_) _).setCell (p := ⟨w.heap.size + 1, 2, none⟩) (fun h => ?_) _).setCell (p := ⟨w.heap.size + 1, 3, none⟩) (fun h => ?_) _⟩
  all_goals
    have h' : w.heap.size + 1 < w.heap.size := h
    omega

set_option maxRecDepth 100000 in
set_option maxHeartbeats 1000000 in
theorem emp34 {w : World} : Calls Try.prog 34 #[] w fun r w' => r = .returned stopV ∧ Chg0 w w' := by
  go_enter Try.func34, Try.ntmps34
  go_wp2
  have hz := heap_alloc_new w (Obj.cells #[Value.string { data := #[] }, Value.int IntKind.u64 0, Value.slice none 0 0, Value.bool false] 92)
  refine bodyPost_ret (v := stopV) (by
    have r1 := cell_blk hz 0
    have r2 := cell_blk hz 1
    have r3 := cell_blk hz 2
    have r4 := cell_blk hz 3
    simp [results, Try.results34, go_sem, r1, r2, r3, r4, stopV]) rfl ?_
  exact ⟨rfl, (Chg.refl _ w).alloc _⟩

set_option maxRecDepth 100000 in
set_option maxHeartbeats 4000000 in
theorem asc_nil {l : Nat} {w : World} {t c : Nat} {len : Int} (hb : w.heap[t]? = some (.cells #[.int .i64 32, .int .i64 len, .pointer none, ptr c] 87 (0, 0))) :
    Calls Try.prog 27 #[ptr t, .agg #[.string ⟨#[]⟩, .int .u64 0, .slice none 0 0], .func (.yield l) #[] #[]] w fun r w' => r = .returned (.tuple #[]) ∧ Chg0 w w' := by
  obtain ⟨W, hW, hbox, hchg⟩ : ∃ W, W = w.alloc (Obj.cells #[Value.string { data := #[] }, Value.int IntKind.u64 0, Value.slice none 0 0] 33) ∧ W.heap[w.heap.size]? = some (.cells #[Value.string { data := #[] }, Value.int IntKind.u64 0, Value.slice none 0 0] 33 (0, 0)) ∧ Chg0 w W :=
    ⟨_, rfl, heap_alloc_new w _, (Chg.refl _ w).alloc _⟩
  have c2 : W.cell? ⟨t, 2, none⟩ = some (.pointer none) := cell_blk (hchg.blk hb) 2
  have hW' := hW.symm
  clear hW hb
  unfold ptr
  go_enter Try.func27, Try.ntmps27
  go_wp2
  clear hW'
  refine bodyPost_ret (results_none rfl _ _ _) rfl ?_
  exact ⟨rfl, hchg⟩

set_option maxRecDepth 100000 in
set_option maxHeartbeats 4000000 in
theorem asc_root {l B N : Nat} {J Jx : List Ent → World → Prop} (RR : Rnds l B N J Jx) {w : World} {t c : Nat} {len : Int} {h : Nat} {s : Sub} {G : Nat → Nat} (R : Root w t c len h s G) (hn : s.n ≤ 63) (hA : Asc s.xs) (hAp : Apart B w (rootF t s G)) (hOk : Okay B w) (hJ : J [] w) (hN : s.xs.length ≤ N) :
    Calls Try.prog 27 #[ptr t, .agg #[.string ⟨#[]⟩, .int .u64 0, .slice none 0 0], .func (.yield l) #[] #[]] w fun r w' => r = .returned (.tuple #[]) ∧ (J s.xs w' ∨ ∃ q, q <+: s.xs ∧ Jx q w') := by
  obtain ⟨W, hW, hbox, hchg⟩ : ∃ W, W = w.alloc (Obj.cells #[Value.string { data := #[] }, Value.int IntKind.u64 0, Value.slice none 0 0] 33) ∧ W.heap[w.heap.size]? = some (.cells #[Value.string { data := #[] }, Value.int IntKind.u64 0, Value.slice none 0 0] 33 (0, 0)) ∧ Chg0 w W :=
    ⟨_, rfl, heap_alloc_new w _, (Chg.refl _ w).alloc _⟩
  have RW := R.grew hchg
  obtain ⟨f, hcow, hcG⟩ := RW.pool.cow
  obtain ⟨_, _, c2, _⟩ := RW.cells
  have b0 : W.cell? ⟨w.heap.size, 0, none⟩ = some (.string ⟨#[]⟩) := cell_blk hbox 0
  have b1 : W.cell? ⟨w.heap.size, 1, none⟩ = some (.int .u64 0) := cell_blk hbox 1
  have b2 : W.cell? ⟨w.heap.size, 2, none⟩ = some (.slice none 0 0) := cell_blk hbox 2
  have hApW := hAp.keep (Keep.chg0 hchg hOk.1)
  have hOkW := hOk.keep (Keep.chg0 hchg hOk.1)
  have hJW := RR.abide _ _ _ hJ hchg
  have hrec : ∀ w', Chg0 W w' → Calls Try.prog 32 #[ptr s.p, .int .i64 1, startV, stopV, .bool true, .bool false, .func (.yield l) #[] #[]] w' fun r w'' => IterLeft B J Jx [] s.xs w' r w'' := fun w' hc => by
    have hk := Keep.chg0 hc hOkW.1
    have hc1 := hApW c (by unfold rootF; omega)
    exact iter_all RR h w' c f s [] false ((RW.grew hc).tree) (hc.blk hcow) hc1.1 (fun e => by rw [outRow_same (hc.same B hOkW.1 rfl)] at e; exact hc1.2.1 e) ((hApW.mono (fun k hk => by unfold rootF; omega)).keep hk) (hOkW.keep hk) hA (by omega) (RR.abide _ _ _ hJW hc) (by simpa using hN)
  have Hrec := hide hrec
  have hW' := hW.symm
  clear hW hrec R RW hn hA hAp hOk hJ hN hApW hOkW hJW hcow hcG hchg
  unfold ptr
  go_enter Try.func27, Try.ntmps27
  go_wp2
  clear hW'
  generalize w.heap.size = b at *
  refine startZ (fun w' => w'.cell? ⟨t, 2, none⟩ = some (.pointer (some ⟨s.p, 0, none⟩)) ∧ w'.cell? ⟨b, 0, none⟩ = some (.string ⟨#[]⟩) ∧ w'.cell? ⟨b, 1, none⟩ = some (.int .u64 0) ∧ w'.cell? ⟨b, 2, none⟩ = some (.slice none 0 0)) 8 (by kernel_rfl) ?_ (fun hHeld => ?_)
  · exact ⟨c2, b0, b1, b2⟩
  refine takeZ (i := 0) (v := ?_) rfl rfl (by kernel_rfl) (by kernel_rfl) (by kernel_rfl) (by kernel_rfl) (fun _ _ _ h => h) (by assumption) (Or.inl ⟨by rfl, ?_⟩) ?_
  rotate_left
  · intro w hSw; (try dsimp only at hSw); go_simp <;> with_reducible rfl
  dsimp only [List.set_cons_zero, List.set_cons_succ]
  refine takeZ (i := 1) (v := ?_) rfl rfl (by kernel_rfl) (by kernel_rfl) (by kernel_rfl) (by kernel_rfl) (fun _ _ _ h => h) (by assumption) (Or.inl ⟨by rfl, ?_⟩) ?_
  rotate_left
  · intro w hSw; (try dsimp only at hSw); go_simp <;> with_reducible rfl
  dsimp only [List.set_cons_zero, List.set_cons_succ]
  refine takeZ (i := 2) (v := ?_) rfl rfl (by kernel_rfl) (by kernel_rfl) (by kernel_rfl) (by kernel_rfl) (fun _ _ _ h => h) (by assumption) (Or.inl ⟨by rfl, ?_⟩) ?_
  rotate_left
  · intro w hSw; (try dsimp only at hSw); go_simp <;> with_reducible rfl
  dsimp only [List.set_cons_zero, List.set_cons_succ]
  refine takeZ (i := 3) (v := ?_) rfl rfl (by kernel_rfl) (by kernel_rfl) (by kernel_rfl) (by kernel_rfl) (fun _ _ _ h => h) (by assumption) (Or.inl ⟨by rfl, ?_⟩) ?_
  rotate_left
  · intro w hSw; (try dsimp only at hSw); go_simp <;> with_reducible rfl
  dsimp only [List.set_cons_zero, List.set_cons_succ]
  refine takeZ (i := 4) (v := ?_) rfl rfl (by kernel_rfl) (by kernel_rfl) (by kernel_rfl) (by kernel_rfl) (fun _ _ _ h => h) (by assumption) (Or.inl ⟨by rfl, ?_⟩) ?_
  rotate_left
  · intro w hSw; (try dsimp only at hSw); go_simp <;> with_reducible rfl
  dsimp only [List.set_cons_zero, List.set_cons_succ]
  refine takeZ (i := 7) (v := ?_) rfl rfl (by kernel_rfl) (by kernel_rfl) (by kernel_rfl) (by kernel_rfl) (fun _ _ _ h => h) (by assumption) (Or.inl ⟨by rfl, ?_⟩) ?_
  rotate_left
  · intro w hSw; (try dsimp only at hSw); go_simp <;> with_reducible rfl
  dsimp only [List.set_cons_zero, List.set_cons_succ]
  refine stepZ (i := 5) (by kernel_rfl) (by decide) rfl (fun K hK => ?_)
  go_simp
  go_at_call 33
  refine (opt33 (w := W.drew)).mono ?_
  rintro _ w2 ⟨rfl, hc2⟩
  unfold startV
  clear hHeld
  refine hK.out _ _ ?_ (fun hHeld => ?_)
  · exact ⟨Chg0.cell hc2 c2, Chg0.cell hc2 b0, Chg0.cell hc2 b1, Chg0.cell hc2 b2⟩
  clear hK K
  try simp only [Act.put, List.setIfInBounds_toArray, List.set_cons_zero, List.set_cons_succ]
  refine stepZ (i := 6) (by kernel_rfl) (by decide) rfl (fun K hK => ?_)
  go_simp
  go_at_call 34
  refine (emp34 (w := w2)).mono ?_
  rintro _ w3 ⟨rfl, hc3⟩
  unfold stopV
  clear hHeld
  refine hK.out _ _ ?_ (fun hHeld => ?_)
  · exact ⟨Chg0.cell hc3 (Chg0.cell hc2 c2), Chg0.cell hc3 (Chg0.cell hc2 b0), Chg0.cell hc3 (Chg0.cell hc2 b1), Chg0.cell hc3 (Chg0.cell hc2 b2)⟩
  clear hK K
  try simp only [Act.put, List.setIfInBounds_toArray, List.set_cons_zero, List.set_cons_succ]
  refine callZ (by kernel_rfl) (by kernel_rfl) rfl (fun K hK => ?_)
  go_simp
  have HIH := Hrec.out w3 ((((Chg.refl (fun _ => 0) W).drew).trans hc2).trans hc3)
  unfold ptr startV stopV IterLeft at HIH
  go_at_call 32
  refine HIH.mono ?_
  clear HIH
  rintro e w5 (⟨h5, rfl, hJ5, hk5⟩ | ⟨h5, q, rfl, hq5, hJx5⟩)
  · refine hK.out _ _ ?_
    clear hK K
    try simp only [Act.put, List.setIfInBounds_toArray, List.set_cons_zero, List.set_cons_succ]
    refine wpAny_done (by kernel_rfl) ?_ _
    go_wp2
    go_end0
    exact ⟨rfl, Or.inl (by simpa using hJ5)⟩
  · refine hK.out _ _ ?_
    clear hK K
    try simp only [Act.put, List.setIfInBounds_toArray, List.set_cons_zero, List.set_cons_succ]
    refine wpAny_done (by kernel_rfl) ?_ _
    go_wp2
    go_end0
    exact ⟨rfl, Or.inr ⟨q, hq5, by simpa using hJx5⟩⟩

end Go.Proofs.Qxb6603483a
