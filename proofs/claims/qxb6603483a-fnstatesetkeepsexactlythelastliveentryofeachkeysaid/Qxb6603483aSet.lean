/-
  Delete and ReplaceOrInsert on a tree whatever it holds; the key map's set.
-/
import Derived.Test.Qxb6603483aDel
import Derived.Test.Qxb6603483aRepl0
namespace Go.Proofs.Qxb6603483a
open Go.RowKit
set_option linter.unusedSimpArgs false
attribute [local go_sem ↓] Go.wp_at_zero Go.wp_at_succ

set_option maxRecDepth 100000 in
set_option maxHeartbeats 1000000 in
theorem del_nil {w : World} {t c : Nat} {len : Int} {e : Ent} (hb : w.heap[t]? = some (.cells #[.int .i64 32, .int .i64 len, .pointer none, ptr c] 87 (0, 0))) :
    Calls Try.prog 37 #[.pointer (some ⟨t, 0, none⟩), e.v, .int .i64 0] w fun r w' => r = .returned (.tuple #[ent0.v, .bool false]) ∧ Chg0 w w' := by
  obtain ⟨W, hW, ⟨hbox, hzero⟩, hchg⟩ : ∃ W, W = (w.alloc (Obj.cells #[Value.string e.key, Value.int IntKind.u64 e.ver, Value.slice e.va e.vn e.vc] 33)).alloc (Obj.cells #[Value.string { data := #[] }, Value.int IntKind.u64 0, Value.slice none 0 0] 33) ∧
      (W.heap[w.heap.size]? = some (.cells #[Value.string e.key, Value.int IntKind.u64 e.ver, Value.slice e.va e.vn e.vc] 33 (0, 0)) ∧
      W.heap[w.heap.size + 1]? = some (.cells #[Value.string { data := #[] }, Value.int IntKind.u64 0, Value.slice none 0 0] 33 (0, 0))) ∧ Chg0 w W :=
    ⟨_, rfl, two_boxes w _ _ _ _, ((Chg.refl _ w).alloc _).alloc _⟩
  have hbW := hchg.blk hb
  have c2 : W.cell? ⟨t, 2, none⟩ = some (.pointer none) := cell_blk hbW 2
  have hW' := hW.symm
  clear hW hb
  obtain ⟨z0, z1, z2⟩ := box_cells hzero
  unfold Ent.v
  go_enter Try.func37, Try.ntmps37
  go_wp2
  clear hW'
  refine bodyPost_ret (v := .tuple #[ent0.v, .bool false]) (by simp [results, Try.results37, go_sem, z0, z1, z2, Ent.v, ent0]) rfl ?_
  exact ⟨rfl, hchg⟩

set_option maxRecDepth 100000 in
set_option maxHeartbeats 1000000 in
theorem del_none {w : World} {t c : Nat} {len : Int} {s : Sub} {h : Nat} {G : Nat → Nat} {e : Ent} (R : Root w t c len h s G) (hn : s.n = 0) :
    Calls Try.prog 37 #[.pointer (some ⟨t, 0, none⟩), e.v, .int .i64 0] w fun r w' => r = .returned (.tuple #[ent0.v, .bool false]) ∧ Chg0 w w' := by
  obtain ⟨W, hW, ⟨hbox, hzero⟩, hchg⟩ : ∃ W, W = (w.alloc (Obj.cells #[Value.string e.key, Value.int IntKind.u64 e.ver, Value.slice e.va e.vn e.vc] 33)).alloc (Obj.cells #[Value.string { data := #[] }, Value.int IntKind.u64 0, Value.slice none 0 0] 33) ∧
      (W.heap[w.heap.size]? = some (.cells #[Value.string e.key, Value.int IntKind.u64 e.ver, Value.slice e.va e.vn e.vc] 33 (0, 0)) ∧
      W.heap[w.heap.size + 1]? = some (.cells #[Value.string { data := #[] }, Value.int IntKind.u64 0, Value.slice none 0 0] 33 (0, 0))) ∧ Chg0 w W :=
    ⟨_, rfl, two_boxes w _ _ _ _, ((Chg.refl _ w).alloc _).alloc _⟩
  have RW := R.grew hchg
  obtain ⟨_, _, c2, _⟩ := RW.cells
  obtain ⟨siv, scv, sits, scps, hNt, hsn, _, _, _⟩ := RW.tree.node
  obtain ⟨sa, scap, hsiv⟩ := hNt.iform
  have sc0 : W.cell? ⟨s.p, 0, none⟩ = some (.slice sa 0 scap) := by rw [cell_blk hNt.blk 0, hsiv, ← hsn, hn]; rfl
  clear hNt hsn hsiv hn
  have hW' := hW.symm
  clear hW R RW
  obtain ⟨z0, z1, z2⟩ := box_cells hzero
  unfold Ent.v
  go_enter Try.func37, Try.ntmps37
  go_wp2
  clear hW'
  refine bodyPost_ret (v := .tuple #[ent0.v, .bool false]) (by simp [results, Try.results37, go_sem, z0, z1, z2, Ent.v, ent0]) rfl ?_
  exact ⟨rfl, hchg⟩

theorem Bt.lt {w : World} {t : Nat} {X : List Ent} {F : Nat → Nat} (B : Bt w t X F) : ∀ k, 1 ≤ F k → k < w.heap.size := fun k hk => by
  rcases B.2 with ⟨c, len, G, _, hb, hP, hF, _⟩ | ⟨c, len, h, s, G, R, _, _, _, hF⟩
  · rw [hF] at hk
    by_cases h1 : 1 ≤ one t k
    · rw [one_pos h1]; exact (Array.getElem?_eq_some_iff.1 hb).1
    · exact hP.lt (by omega)
  · rw [hF] at hk; exact R.lt hk
theorem Bt.uniq {w : World} {t : Nat} {X : List Ent} {F : Nat → Nat} (B : Bt w t X F) : ∀ k, F k ≤ 1 := fun k => by
  rcases B.2 with ⟨c, len, G, _, hb, hP, hF, hu⟩ | ⟨c, len, h, s, G, R, _, _, _, hF⟩
  · rw [hF]; exact hu k
  · rw [hF]; exact R.uniq k
theorem Bt.same {w w' : World} {t : Nat} {X : List Ent} {F : Nat → Nat} (B : Bt w t X F) (hs : ∀ k, 1 ≤ F k → w'.heap[k]? = w.heap[k]?) : Bt w' t X F := by
  rcases B with ⟨hA, ⟨c, len, G, hX, hb, hP, hF, hu⟩ | ⟨c, len, h, s, G, R, h1, h2, h3, hF⟩⟩
  · exact ⟨hA, Or.inl ⟨c, len, G, hX, (hs t (by rw [hF, one_self]; omega)).trans hb, hP.same (fun k hk => hs k (by rw [hF]; omega)), hF, hu⟩⟩
  · exact ⟨hA, Or.inr ⟨c, len, h, s, G, ⟨(hs t (by rw [hF]; unfold rootF; rw [one_self]; omega)).trans R.blk, R.tree.same (fun k hk => hs k (by rw [hF]; unfold rootF; omega)), R.pool.same (fun k hk => hs k (by rw [hF]; unfold rootF; omega)), R.uniq⟩, h1, h2, h3, hF⟩⟩
theorem Bt.grew {w w' : World} {t : Nat} {X : List Ent} {F : Nat → Nat} (B : Bt w t X F) (hc : Chg0 w w') : Bt w' t X F := B.same (fun k hk => hc.same k (B.lt k hk) rfl)
theorem Bt.stp {w : World} {t : Nat} {X : List Ent} {F : Nat → Nat} (B : Bt w t X F) : Stp F w w F := Stp.refl B.uniq B.lt

theorem del_any {w : World} {t : Nat} {X : List Ent} {F : Nat → Nat} {e : Ent} (B : Bt w t X F) :
    Calls Try.prog 37 #[.pointer (some ⟨t, 0, none⟩), e.v, .int .i64 0] w fun r w' => ∃ (old : Ent) (b : Bool) (F' : Nat → Nat), r = .returned (.tuple #[old.v, .bool b]) ∧ Bt w' t (del e.key X) F' ∧ Stp F w w' F' := by
  have hB := B
  rcases B with ⟨hA, ⟨c, len, G, hX, hb, hP, hF, hu⟩ | ⟨c, len, h, s, G, R, h1, h2, h3, hF⟩⟩
  · subst hX
    refine (del_nil hb).mono ?_
    rintro r w' ⟨rfl, hc⟩
    exact ⟨ent0, false, F, rfl, hB.grew hc, hB.stp.post hc⟩
  · have hFe : F = rootF t s G := funext hF
    by_cases hn : s.n = 0
    · have h0 : h = 0 := by omega
      subst h0
      have hx : X = [] := by
        obtain ⟨_, _, _, hl, _⟩ := R.tree
        rw [← h3]
        exact List.eq_nil_of_length_eq_zero (by omega)
      subst hx
      refine (del_none R hn).mono ?_
      rintro r w' ⟨rfl, hc⟩
      exact ⟨ent0, false, F, rfl, hB.grew hc, hB.stp.post hc⟩
    · rw [hFe, ← h3]
      exact del_root R h1 h2 (by omega) (by rw [h3]; exact hA)

theorem repl_any {w : World} {t : Nat} {X : List Ent} {F : Nat → Nat} {e : Ent} (B : Bt w t X F) :
    Calls Try.prog 31 #[.pointer (some ⟨t, 0, none⟩), e.v] w fun r w' => ∃ (old : Ent) (b : Bool) (F' : Nat → Nat), r = .returned (.tuple #[old.v, .bool b]) ∧ Bt w' t (ins e X) F' ∧ Stp F w w' F' := by
  rcases B with ⟨hA, ⟨c, len, G, hX, hb, hP, hF, hu⟩ | ⟨c, len, h, s, G, R, h1, h2, h3, hF⟩⟩
  · subst hX
    have hFe : F = fun k => one t k + G k := funext hF
    rw [hFe]
    refine (repl_nil hb hP hu).mono ?_
    rintro r w' ⟨F', rfl, hB, hS⟩
    exact ⟨ent0, false, F', rfl, hB, hS⟩
  · have hFe : F = rootF t s G := funext hF
    rw [hFe, ← h3]
    exact repl_root R h1 h2 (by rw [h3]; exact hA)

set_option maxRecDepth 100000 in
set_option maxHeartbeats 1000000 in
theorem delete30 {w : World} {t : Nat} {X : List Ent} {F : Nat → Nat} {e : Ent} (B : Bt w t X F) :
    Calls Try.prog 30 #[.pointer (some ⟨t, 0, none⟩), e.v] w fun r w' => ∃ (old : Ent) (b : Bool) (F' : Nat → Nat), r = .returned (.tuple #[old.v, .bool b]) ∧ Bt w' t (del e.key X) F' ∧ Stp F w w' F' := by
  obtain ⟨W, hW, ⟨hbox, hzero⟩, hchg⟩ : ∃ W, W = (w.alloc (Obj.cells #[Value.string e.key, Value.int IntKind.u64 e.ver, Value.slice e.va e.vn e.vc] 33)).alloc (Obj.cells #[Value.string { data := #[] }, Value.int IntKind.u64 0, Value.slice none 0 0] 33) ∧
      (W.heap[w.heap.size]? = some (.cells #[Value.string e.key, Value.int IntKind.u64 e.ver, Value.slice e.va e.vn e.vc] 33 (0, 0)) ∧
      W.heap[w.heap.size + 1]? = some (.cells #[Value.string { data := #[] }, Value.int IntKind.u64 0, Value.slice none 0 0] 33 (0, 0))) ∧ Chg0 w W :=
    ⟨_, rfl, two_boxes w _ _ _ _, ((Chg.refl _ w).alloc _).alloc _⟩
  have BW := B.grew hchg
  have HB : Hid (∀ j, F (w.heap.size + j) = 0) := fun j => by
    have : ¬ 1 ≤ F (w.heap.size + j) := fun h => by have := B.lt _ h; omega
    omega
  have hW' := hW.symm
  clear hW B
  obtain ⟨b0, b1, b2⟩ := box_cells hbox
  have HC := del_any (e := e) BW
  have Hchg := hide hchg
  unfold Ent.v at HC ⊢
  clear hchg
  go_enter Try.func30, Try.ntmps30
  go_wp2_with (fail)
  clear hW'
  generalize hbb : w.heap.size = b at *
  have Hb := hide hbb
  clear hbb
  refine HC.mono ?_
  clear HC
  rintro _ w1 ⟨old, ob, F', rfl, B1, hS1⟩
  have hz1 := hS1.blk hzero (HB.out 1)
  have hzz := hS1.zero hzero (HB.out 1)
  obtain ⟨z0, z1, z2⟩ := box_cells hz1
  have y0 := frozen_blk hz1 0
  have y1 := frozen_blk hz1 1
  have y2 := frozen_blk hz1 2
  clear b0 b1 b2
  go_wp2
  have r0 := boxPut_at old hz1
  refine bodyPost_ret (v := .tuple #[old.v, .bool ob]) (by
    have r1 := cell_blk r0 0
    have r2 := cell_blk r0 1
    have r3 := cell_blk r0 2
    unfold Qxb6603483a.boxPut at r1 r2 r3
    simp [results, Try.results30, go_sem, r1, r2, r3, Ent.v, ptr]) rfl ?_
  exact ⟨old, ob, F', rfl, B1.same (fun k hk => boxPut_other old (fun e => by subst e; omega)), (hS1.pre Hchg.out).boxPut (b := b + 1) (by rw [Hb.out]; omega) old⟩

/-- What set makes of what is held. -/
def put (e : Ent) (X : List Ent) : List Ent := if e.ver = 0 then del e.key X else ins e X

set_option maxRecDepth 100000 in
set_option maxHeartbeats 1000000 in
theorem set24_zero {w : World} {t : Nat} {X : List Ent} {F : Nat → Nat} {key : ByteArray} {va : Option Addr} {vn vc : Nat} (B : Bt w t X F) :
    Calls Try.prog 24 #[.agg #[.pointer (some ⟨t, 0, none⟩)], .agg #[.string key, .int .u64 0, .slice va vn vc]] w fun r w' => r = .returned (.tuple #[]) ∧ ∃ F', Bt w' t (del key X) F' ∧ Stp F w w' F' := by
  obtain ⟨W, hW, ⟨hk, hbox⟩, hchg⟩ : ∃ W, W = (w.alloc (Obj.cells #[Value.pointer (some ⟨t, 0, none⟩)] 48)).alloc (Obj.cells #[Value.string key, Value.int IntKind.u64 0, Value.slice va vn vc] 33) ∧
      (W.heap[w.heap.size]? = some (.cells #[Value.pointer (some ⟨t, 0, none⟩)] 48 (0, 0)) ∧
      W.heap[w.heap.size + 1]? = some (.cells #[Value.string key, Value.int IntKind.u64 0, Value.slice va vn vc] 33 (0, 0))) ∧ Chg0 w W :=
    ⟨_, rfl, two_boxes w _ _ _ _, ((Chg.refl _ w).alloc _).alloc _⟩
  have BW := B.grew hchg
  have hW' := hW.symm
  clear hW B
  have b0 : W.cell? ⟨w.heap.size + 1, 0, none⟩ = some (.string key) := cell_blk hbox 0
  have b1 : W.cell? ⟨w.heap.size + 1, 1, none⟩ = some (.int .u64 0) := cell_blk hbox 1
  have b2 : W.cell? ⟨w.heap.size + 1, 2, none⟩ = some (.slice va vn vc) := cell_blk hbox 2
  have k0 : W.cell? ⟨w.heap.size, 0, none⟩ = some (.pointer (some ⟨t, 0, none⟩)) := cell_blk hk 0
  have HC := delete30 (e := ⟨key, 0, va, vn, vc⟩) BW
  have Hchg := hide hchg
  unfold Ent.v at HC
  clear hchg
  go_enter Try.func24, Try.ntmps24
  go_wp2_with (fail)
  clear hW'
  refine HC.mono ?_
  rintro _ w1 ⟨old, ob, F', rfl, B1, hS1⟩
  go_wp2
  go_end0
  exact ⟨rfl, F', B1, hS1.pre Hchg.out⟩

set_option maxRecDepth 100000 in
set_option maxHeartbeats 1000000 in
theorem set24_live {w : World} {t : Nat} {X : List Ent} {F : Nat → Nat} {e : Ent} (B : Bt w t X F) (hv : (e.ver == 0) = false) :
    Calls Try.prog 24 #[.agg #[.pointer (some ⟨t, 0, none⟩)], .agg #[.string e.key, .int .u64 e.ver, .slice e.va e.vn e.vc]] w fun r w' => r = .returned (.tuple #[]) ∧ ∃ F', Bt w' t (ins e X) F' ∧ Stp F w w' F' := by
  obtain ⟨W, hW, ⟨hk, hbox⟩, hchg⟩ : ∃ W, W = (w.alloc (Obj.cells #[Value.pointer (some ⟨t, 0, none⟩)] 48)).alloc (Obj.cells #[Value.string e.key, Value.int IntKind.u64 e.ver, Value.slice e.va e.vn e.vc] 33) ∧
      (W.heap[w.heap.size]? = some (.cells #[Value.pointer (some ⟨t, 0, none⟩)] 48 (0, 0)) ∧
      W.heap[w.heap.size + 1]? = some (.cells #[Value.string e.key, Value.int IntKind.u64 e.ver, Value.slice e.va e.vn e.vc] 33 (0, 0))) ∧ Chg0 w W :=
    ⟨_, rfl, two_boxes w _ _ _ _, ((Chg.refl _ w).alloc _).alloc _⟩
  have BW := B.grew hchg
  have hW' := hW.symm
  clear hW B
  have b0 : W.cell? ⟨w.heap.size + 1, 0, none⟩ = some (.string e.key) := cell_blk hbox 0
  have b1 : W.cell? ⟨w.heap.size + 1, 1, none⟩ = some (.int .u64 e.ver) := cell_blk hbox 1
  have b2 : W.cell? ⟨w.heap.size + 1, 2, none⟩ = some (.slice e.va e.vn e.vc) := cell_blk hbox 2
  have k0 : W.cell? ⟨w.heap.size, 0, none⟩ = some (.pointer (some ⟨t, 0, none⟩)) := cell_blk hk 0
  have HC := repl_any (e := e) BW
  have Hchg := hide hchg
  unfold Ent.v at HC
  clear hchg
  go_enter Try.func24, Try.ntmps24
  go_wp2_with (fail)
  clear hW'
  refine HC.mono ?_
  rintro _ w1 ⟨old, ob, F', rfl, B1, hS1⟩
  go_wp2
  go_end0
  exact ⟨rfl, F', B1, hS1.pre Hchg.out⟩

theorem set24 {w : World} {t : Nat} {X : List Ent} {F : Nat → Nat} {e : Ent} (B : Bt w t X F) :
    Calls Try.prog 24 #[.agg #[.pointer (some ⟨t, 0, none⟩)], e.v] w fun r w' => r = .returned (.tuple #[]) ∧ ∃ F', Bt w' t (put e X) F' ∧ Stp F w w' F' := by
  by_cases hv : e.ver = 0
  · obtain ⟨key, ver, va, vn, vc⟩ := e
    have hv : ver = 0 := hv
    subst hv
    exact set24_zero B
  · unfold put
    rw [if_neg hv]
    exact set24_live B (by simpa using hv)

end Go.Proofs.Qxb6603483a
