/-
  modelSet: the model's row, kept in order.
-/
import Derived.Test.Qxb6603483aSet
import Derived.Deep.CutBlock
namespace Go.Proofs.Qxb6603483a
open Go.RowKit
set_option linter.unusedSimpArgs false
attribute [local go_sem ↓] Go.wp_at_zero Go.wp_at_succ

/-- The slice value v holds the steps es. -/
def RowS (w : World) (v : Value) (es : List Ent) : Prop := w.ownsRow 0 31 3 v es.length (cellsOf es)

theorem RowS.form {w : World} {v : Value} {es : List Ent} (h : RowS w v es) : (v = .slice none 0 0 ∧ es = []) ∨ ∃ g cap, v = .slice (some ⟨g, 0, none⟩) es.length cap := by
  rcases h.2 with ⟨hv, h0⟩ | ⟨g, cap, cur, hv, _⟩
  · exact Or.inl ⟨hv, List.eq_nil_of_length_eq_zero h0⟩
  · exact Or.inr ⟨g, cap, hv⟩
theorem RowS.same {w w' : World} {v : Value} {es : List Ent} (h : RowS w v es) (hs : ∀ k, 1 ≤ ob v k → w'.heap[k]? = w.heap[k]?) : RowS w' v es := ownsRow_same h (fun g hg => hs g (by rw [ob_of hg]; exact Nat.le_refl _))
theorem RowS.lt {w : World} {v : Value} {es : List Ent} (h : RowS w v es) {k : Nat} (hk : 1 ≤ ob v k) : k < w.heap.size := ownsRow_lt h (ob_pos hk)
theorem RowS.grew {w w' : World} {v : Value} {es : List Ent} (h : RowS w v es) (hc : Chg0 w w') : RowS w' v es := h.same (fun k hk => hc.same k (h.lt hk) rfl)
theorem RowS.open' {w : World} {n cap g : Nat} {es : List Ent} (h : RowS w (.slice (some ⟨g, 0, none⟩) n cap) es) :
    ∃ sp, w.heap[g]? = some (.cells (cellsOf es ++ sp).toArray 31 (0, 0)) ∧ (cellsOf es ++ sp).length = cap * 3 ∧ n = es.length ∧ n ≤ cap ∧ cap ≤ maxLen := by
  have hn : n = es.length := by
    rcases h.2 with ⟨hv, _⟩ | ⟨g', cap', cur, hv, _⟩
    · cases hv
    · injection hv
  subst hn
  obtain ⟨sp, h1, h2, _, h4, h5⟩ := ownsRow_open h
  exact ⟨sp, h1, h2, rfl, h4, h5⟩
theorem RowS.shut {w : World} {n cap g : Nat} {es : List Ent} {sp : List Value} (hh : w.heap[g]? = some (.cells (cellsOf es ++ sp).toArray 31 (0, 0))) (hl : (cellsOf es ++ sp).length = cap * 3) (hn : n = es.length) (hc : n ≤ cap) (hm : cap ≤ maxLen) :
    RowS w (.slice (some ⟨g, 0, none⟩) n cap) es := by
  subst hn
  exact ownsRow_shut hh hl (cellsOf_length es) hc hm
theorem entS_at {w : World} {g : Nat} {A : List Ent} {sp : List Value} (hh : w.heap[g]? = some (.cells (cellsOf A ++ sp).toArray 31 (0, 0))) {i : Nat} {e : Ent} (hi : A[i]? = some e) :
    w.cell? ⟨g, i * 3, none⟩ = some (.string e.key) ∧ w.cell? ⟨g, i * 3 + 1, none⟩ = some (.int .u64 e.ver) ∧ w.cell? ⟨g, i * 3 + 2, none⟩ = some (.slice e.va e.vn e.vc) := by
  obtain ⟨h1, h2, h3⟩ := cellsOf_get hi
  have aux : ∀ j v, (cellsOf A)[j]? = some v → w.cell? ⟨g, j, none⟩ = some v := fun j v hv => by
    rw [cell_blk hh, List.getElem?_toArray, List.getElem?_append_left (List.getElem?_eq_some_iff.1 hv).1]
    exact hv
  exact ⟨aux _ _ h1, aux _ _ h2, aux _ _ h3⟩

/-- One element stored. -/
theorem storeS {W : World} {g n cap : Nat} {es : List Ent} (h : RowS W (.slice (some ⟨g, 0, none⟩) n cap) es) (i : Nat) (hi : i < es.length) (e : Ent) :
    RowS (((W.setCell ⟨g, i * 3, none⟩ (.string e.key)).setCell ⟨g, i * 3 + 1, none⟩ (.int .u64 e.ver)).setCell ⟨g, i * 3 + 2, none⟩ (.slice e.va e.vn e.vc)) (.slice (some ⟨g, 0, none⟩) n cap) (es.set i e) ∧
      Stp (one g) W (((W.setCell ⟨g, i * 3, none⟩ (.string e.key)).setCell ⟨g, i * 3 + 1, none⟩ (.int .u64 e.ver)).setCell ⟨g, i * 3 + 2, none⟩ (.slice e.va e.vn e.vc)) (one g) := by
  obtain ⟨sp, hrow, hlen, hnl, hcap, hmax⟩ := h.open'
  have hc : Chg (one g) W (((W.setCell ⟨g, i * 3, none⟩ (.string e.key)).setCell ⟨g, i * 3 + 1, none⟩ (.int .u64 e.ver)).setCell ⟨g, i * 3 + 2, none⟩ (.slice e.va e.vn e.vc)) :=
    (((Chg.refl (one g) W).setCell (p := ⟨g, i * 3, none⟩) (fun _ => by show 1 ≤ one g g; rw [one_self]; exact Nat.le_refl _) _).setCell (p := ⟨g, i * 3 + 1, none⟩) (fun _ => by show 1 ≤ one g g; rw [one_self]; exact Nat.le_refl _) _).setCell (p := ⟨g, i * 3 + 2, none⟩) (fun _ => by show 1 ≤ one g g; rw [one_self]; exact Nat.le_refl _) _
  have hl := cellsOf_length es
  have hset : (((W.setCell ⟨g, i * 3, none⟩ (.string e.key)).setCell ⟨g, i * 3 + 1, none⟩ (.int .u64 e.ver)).setCell ⟨g, i * 3 + 2, none⟩ (.slice e.va e.vn e.vc)).heap[g]? = some (.cells (cellsOf (es.set i e) ++ sp).toArray 31 (0, 0)) := by
    rw [heap_setCell_blk (heap_setCell_blk (heap_setCell_blk hrow _ _) _ _) _ _]
    simp only [List.setIfInBounds_toArray]
    rw [List.set_append_left _ _ (by omega), List.set_append_left _ _ (by rw [List.length_set]; omega), List.set_append_left _ _ (by rw [List.length_set, List.length_set]; omega), cellsOf_set es i e hi]
  refine ⟨RowS.shut hset (by rw [List.length_append, cellsOf_length] at hlen ⊢; rw [List.length_set]; exact hlen) (by rw [List.length_set]; exact hnl) hcap hmax, hc, fun _ _ => Nat.le_refl _, fun k => one_le _ _, fun k hk => ?_⟩
  rw [one_pos hk]
  exact (Array.getElem?_eq_some_iff.1 hset).1

theorem split_get {X : List Ent} {j : Nat} {x : Ent} (h : X[j]? = some x) : X = X.take j ++ x :: X.drop (j + 1) := by
  rw [← (List.getElem?_eq_some_iff.1 h).2]; simp

theorem miss_tail {X : List Ent} {j : Nat} {k : ByteArray} (hA : Asc X) (h : ∀ x, X[j]? = some x → klt x.key k = false ∧ ¬ x.key = k) : ∀ y ∈ X.drop j, klt k y.key = true := fun y hy => by
  cases hx : X[j]? with
  | none =>
    rw [List.drop_eq_nil_of_le (by rw [List.getElem?_eq_none_iff] at hx; exact hx)] at hy
    cases hy
  | some x =>
    obtain ⟨h1, h2⟩ := h x hx
    have hxk : klt k x.key = true := by
      cases h3 : klt k x.key with
      | true => rfl
      | false => exact absurd (klt_total h1 h3) h2
    have hl := (List.getElem?_eq_some_iff.1 hx)
    have e : X.drop j = x :: X.drop (j + 1) := by rw [List.drop_eq_getElem_cons hl.1, hl.2]
    have hs : Asc (X.drop j) := hA.sub (List.drop_sublist _ _)
    rw [e] at hy hs
    rcases List.mem_cons.1 hy with rfl | hy
    · exact hxk
    · exact tail_gt hs (Or.inl hxk) y hy

/-- The row while the tail is shifted left: up to k it is done. -/
def shiftL (X : List Ent) (j k : Nat) : List Ent := (X.eraseIdx j).take k ++ X.drop k
theorem shiftL_start {X : List Ent} {j : Nat} (hj : j < X.length) : shiftL X j j = X := by
  unfold shiftL
  rw [List.eraseIdx_eq_take_drop_succ, List.take_append_of_le_length (by simp; omega), List.take_take, Nat.min_self]
  simp
theorem shiftL_len {X : List Ent} {j k : Nat} (hj : j < X.length) (hk : k < X.length) : (shiftL X j k).length = X.length := by
  unfold shiftL
  rw [List.length_append, List.length_take, List.length_eraseIdx_of_lt hj, List.length_drop]
  omega
theorem shiftL_get {X : List Ent} {j k : Nat} {y : Ent} (hj : j < X.length) (_hjk : j ≤ k) (hy : X[k + 1]? = some y) : (shiftL X j k)[k + 1]? = some y := by
  have hl := (List.getElem?_eq_some_iff.1 hy).1
  have h1 : ((X.eraseIdx j).take k).length = k := by rw [List.length_take, List.length_eraseIdx_of_lt hj]; omega
  unfold shiftL
  rw [List.getElem?_append_right (by omega), h1, List.getElem?_drop, show k + (k + 1 - k) = k + 1 by omega]
  exact hy
theorem shiftL_set {X : List Ent} {j k : Nat} {y : Ent} (hj : j < X.length) (hjk : j ≤ k) (hy : X[k + 1]? = some y) : (shiftL X j k).set k y = shiftL X j (k + 1) := by
  have hl := (List.getElem?_eq_some_iff.1 hy).1
  have h1 : ((X.eraseIdx j).take k).length = k := by rw [List.length_take, List.length_eraseIdx_of_lt hj]; omega
  have h2 : (X.eraseIdx j)[k]? = some y := by rw [List.getElem?_eraseIdx_of_ge hjk]; exact hy
  unfold shiftL
  rw [List.take_add_one, h2, List.set_append_right _ _ (by omega), h1, Nat.sub_self]
  have h3 : X.drop k = X[k] :: X.drop (k + 1) := List.drop_eq_getElem_cons (by omega)
  rw [h3]
  simp only [List.set_cons_zero, Option.toList_some, List.append_assoc, List.cons_append, List.nil_append]
theorem shiftL_end {X : List Ent} {j k : Nat} (hj : j < X.length) (hk : X.length = k + 1) : (shiftL X j k).take k = X.eraseIdx j := by
  have h1 : (X.eraseIdx j).length = k := by rw [List.length_eraseIdx_of_lt hj]; omega
  unfold shiftL
  rw [List.take_append_of_le_length (by rw [List.length_take]; omega), List.take_take, Nat.min_self, List.take_of_length_le (by omega)]

theorem shiftR_set {X : List Ent} {k : Nat} {gb y : Ent} (hy : X[k]? = some y) : (X.take (k + 1) ++ gb :: X.drop (k + 1)).set (k + 1) y = X.take k ++ y :: X.drop k := by
  have hl := (List.getElem?_eq_some_iff.1 hy)
  have h1 : X.drop k = y :: X.drop (k + 1) := by rw [List.drop_eq_getElem_cons hl.1, hl.2]
  have hk := hl.1
  have h2 : (X.take (k + 1)).length = k + 1 := by rw [List.length_take]; omega
  rw [List.set_append_right _ _ (by omega), h2, Nat.sub_self, List.set_cons_zero, h1, List.take_add_one, hy]
  simp
theorem heap_lt' {W : World} {k : Nat} {o : Obj} (h : W.heap[k]? = some o) : k < W.heap.size := (Array.getElem?_eq_some_iff.1 h).1
/-- An element appended: the row, what turned, what did not. -/
theorem appS {W w4 : World} {ia : Option Addr} {n ic g2 cap2 : Nat} {X : List Ent} {Z : Obj} (hgrow : (W.alloc Z).grownBy w4 (Value.slice ia n ic).ownBlock) (hat : (Value.slice ia n ic).ownBlock = some g2 ∨ g2 = W.heap.size + 1)
    (hown : w4.ownsRow 0 31 3 (.slice (some ⟨g2, 0, none⟩) (n + 1) cap2) (n + 1) (cellsOf X ++ [.string ⟨#[]⟩, .int .u64 0, .slice none 0 0])) (hn : n = X.length) (hlt : g2 < w4.heap.size) :
    RowS w4 (.slice (some ⟨g2, 0, none⟩) (n + 1) cap2) (X ++ [ent0]) ∧ Stp (ob (.slice ia n ic)) W w4 (ob (.slice (some ⟨g2, 0, none⟩) (n + 1) cap2)) ∧ (∀ {b : Nat} {o : Obj}, W.heap[b]? = some o → some b ≠ (Value.slice ia n ic).ownBlock → w4.heap[b]? = some o) := by
  have hc : Chg (ob (.slice ia n ic)) W w4 := ((Chg.refl _ W).alloc Z).grown hgrow (fun k hk _ => by rw [ob_of hk]; exact Nat.le_refl _)
  refine ⟨?_, ⟨hc, fun k hk => ?_, ob_le _, fun k hk => ?_⟩, fun {b o} hb hne => ?_⟩
  · unfold RowS
    have e1 : (X ++ [ent0]).length = n + 1 := by simp [hn]
    have e2 : cellsOf (X ++ [ent0]) = cellsOf X ++ [.string ⟨#[]⟩, .int .u64 0, .slice none 0 0] := by rw [cellsOf_append]; rfl
    rw [e1, e2]
    exact hown
  · rw [ob_slice]
    rcases hat with h | h
    · by_cases e : k = g2
      · subst e; rw [ob_of h, one_self]; exact Nat.le_refl _
      · rw [one_other e]; exact Nat.zero_le _
    · rw [one_other (by omega)]; exact Nat.zero_le _
  · rw [ob_slice] at hk
    rw [one_pos hk]; exact hlt
  · have hl := heap_lt' hb
    exact (hgrow.block b (by simp; omega) hne).trans ((Below.heap_alloc _ _ _ hl).trans hb)

theorem RowS.head {w : World} {n cap g m : Nat} {es : List Ent} (h : RowS w (.slice (some ⟨g, 0, none⟩) n cap) es) (hm : m ≤ es.length) : RowS w (.slice (some ⟨g, 0, none⟩) m cap) (es.take m) := by
  obtain ⟨sp, hrow, hlen, hnl, hcap, hmax⟩ := h.open'
  have e : cellsOf es ++ sp = cellsOf (es.take m) ++ (cellsOf (es.drop m) ++ sp) := by rw [← List.append_assoc, ← cellsOf_append, List.take_append_drop]
  rw [e] at hrow hlen
  exact RowS.shut hrow hlen (by rw [List.length_take]; omega) (by omega) hmax

theorem info31 : (Try.prog.info? 31).map (fun i => (i.zero, i.size, i.bytes)) = some (some (.agg #[.string ⟨#[]⟩, .int .u64 0, .slice none 0 0]), 3, 48) := by kernel_rfl

set_option maxRecDepth 100000 in
set_option maxHeartbeats 4000000 in
theorem model10 {w : World} {mv : Value} {X : List Ent} {s : Ent} (h : RowS w mv X) (hA : Asc X) (hn : X.length ≤ 10000) :
    Calls Try.prog 10 #[mv, s.v] w fun r w' => ∃ mv', r = .returned mv' ∧ RowS w' mv' (put s X) ∧ Stp (ob mv) w w' (ob mv') := by
  obtain ⟨n, hnl⟩ : ∃ n, n = X.length := ⟨_, rfl⟩
  obtain ⟨ia, ic, hmv⟩ : ∃ a cap, mv = .slice a n cap := by
    rcases h.form with ⟨h1, h2⟩ | ⟨g, cap, h1⟩
    · exact ⟨none, 0, by rw [h1, hnl, h2]; rfl⟩
    · exact ⟨_, cap, by rw [h1, hnl]⟩
  subst hmv
  obtain ⟨W, hW, hbox, hchg⟩ : ∃ W, W = w.alloc (Obj.cells #[Value.string s.key, Value.int IntKind.u64 s.ver, Value.slice s.va s.vn s.vc] 31) ∧
      W.heap[w.heap.size]? = some (.cells #[Value.string s.key, Value.int IntKind.u64 s.ver, Value.slice s.va s.vn s.vc] 31 (0, 0)) ∧ Chg0 w W :=
    ⟨_, rfl, heap_alloc_new w _, (Chg.refl _ w).alloc _⟩
  have hRW := h.grew hchg
  have hW' := hW.symm
  have HX := hide (And.intro hA (And.intro hn (And.intro hnl h)))
  have Hchg := hide hchg
  clear hW hA hn h hchg
  have hn1 : n ≤ 10000 := by have := HX.out; omega
  clear hnl
  unfold Ent.v
  go_enter Try.func10, Try.ntmps10
  go_upto_block 0 with (fail)
  clear hW'
  generalize hbb : w.heap.size = b at *
  have Hb := hide hbb
  clear hbb
  obtain ⟨i0, hi0, hz0, hz1, hz2⟩ := info_parts info31
  go_cut [5] (fun s5 wd => ∃ j : Nat, s5 = .int .i64 j ∧ j ≤ n ∧ Chg0 W wd ∧ Hid ((∀ a ∈ X.take j, klt a.key s.key = true) ∧ ∀ x, X[j]? = some x → klt x.key s.key = false))
  case first =>
    go_wp2
    go_loopg [5] n (fun kx s5 wr => ∃ j : Nat, s5 = .int .i64 j ∧ j ≤ n ∧ n - j ≤ kx ∧ Chg0 W wr ∧ Hid (∀ a ∈ X.take j, klt a.key s.key = true))
    case atStart => exact ⟨0, rfl, Nat.zero_le _, by omega, Chg.refl _ _, (fun a ha => by simp at ha : ∀ a ∈ X.take 0, klt a.key s.key = true)⟩
    case round =>
      obtain ⟨j, rfl, hjn, hkx, hcr, HA⟩ := hrel
      have hbr := hcr.blk hbox
      have b0 : wr.cell? ⟨b, 0, none⟩ = some (.string s.key) := cell_blk hbr 0
      have b1 : wr.cell? ⟨b, 1, none⟩ = some (.int .u64 s.ver) := cell_blk hbr 1
      have b2 : wr.cell? ⟨b, 2, none⟩ = some (.slice s.va s.vn s.vc) := cell_blk hbr 2
      have hRr := hRW.grew hcr
      by_cases hlt : j < n
      · have hlt' : (j : Int) < (n : Int) := by omega
        obtain ⟨x, hx⟩ : ∃ x, X[j]? = some x := ⟨X[j]'(by have := HX.out.2.2.1; omega), by simp⟩
        obtain ⟨g, hg⟩ : ∃ g, ia = some ⟨g, 0, none⟩ := by
          rcases hRr.form with ⟨h1, h2⟩ | ⟨g, cap, h1⟩
          · rw [h2] at hx; simp at hx
          · injection h1 with h1; exact ⟨g, h1⟩
        subst hg
        have hix : ∀ w', (Instr.indexAt 22 (.slice (some ⟨g, 0, none⟩) n ic) (.int .i64 (j : Int))).run Try.prog w' = .ok (.pointer (some ⟨g, j * 3, none⟩)) w' :=
          fun w' => run_ix (P := Try.prog) 22 3 g n ic j (j : Int) rfl hlt Try.underlying22 (fun _ => by kernel_rfl) w'
        obtain ⟨sp, hrow, hq1, hq2, hq3, hq4⟩ := hRr.open'
        clear hq1 hq2 hq3 hq4
        obtain ⟨e0, e1, e2⟩ := entS_at hrow hx
        have Hx := hide hx
        clear hx hrow
        cases hk : klt x.key s.key with
        | true =>
          have hk2 : Op.bytesLess x.key.toList s.key.toList = true := hk
          have Hk := hide hk
          clear hk
          go_wp2
          go_region_held3 (fun w' => w'.cell? ⟨b, 0, none⟩ = some (.string s.key) ∧ w'.cell? ⟨g, j * 3, none⟩ = some (.string x.key)) (exact ⟨b0, e0⟩) (fail)
          go_wp2
          go_roundg (n - (j + 1))
          case measure => omega
          case rel =>
            refine ⟨j + 1, rfl, by omega, Nat.le_refl _, hcr.drew, (fun a ha => ?_ : ∀ a ∈ X.take (j + 1), klt a.key s.key = true)⟩
            rw [List.take_add_one, Hx.out] at ha
            rcases List.mem_append.1 ha with ha | ha
            · exact HA.out a ha
            · have e : a = x := by simpa using ha
              rw [e]; exact Hk.out
        | false =>
          have hk2 : Op.bytesLess x.key.toList s.key.toList = false := hk
          have Hk := hide hk
          clear hk
          go_wp2
          go_region_held3 (fun w' => w'.cell? ⟨b, 0, none⟩ = some (.string s.key) ∧ w'.cell? ⟨g, j * 3, none⟩ = some (.string x.key)) (exact ⟨b0, e0⟩) (fail)
          go_wp2
          go_meet
          case rel => exact ⟨j, rfl, hjn, hcr.drew, HA.out, fun y hy => by rw [Hx.out] at hy; cases hy; exact Hk.out⟩
      · have hlt' : ¬ (j : Int) < (n : Int) := by omega
        go_wp2
        go_quiet (fail)
        go_wp2
        go_meet
        case rel => exact ⟨j, rfl, hjn, ⟨hcr.os, hcr.tape, hcr.output, hcr.size, hcr.same⟩, HA.out, fun y hy => by have h1 := (List.getElem?_eq_some_iff.1 hy).1; have h2 := HX.out.2.2.1; omega⟩
  case rest =>
    obtain ⟨j, rfl, hjn, hcr, HA⟩ := hcut
    have hbr := hcr.blk hbox
    have b0 : wc.cell? ⟨b, 0, none⟩ = some (.string s.key) := cell_blk hbr 0
    have b1 : wc.cell? ⟨b, 1, none⟩ = some (.int .u64 s.ver) := cell_blk hbr 1
    have b2 : wc.cell? ⟨b, 2, none⟩ = some (.slice s.va s.vn s.vc) := cell_blk hbr 2
    have hRr := hRW.grew hcr
    by_cases hit : ∃ x, X[j]? = some x ∧ x.key = s.key
    · obtain ⟨x, hx, hkey⟩ := hit
      have hlt : j < n := by have h1 := (List.getElem?_eq_some_iff.1 hx).1; have h2 := HX.out.2.2.1; omega
      have hlt' : (j : Int) < (n : Int) := by omega
      obtain ⟨g, hg⟩ : ∃ g, ia = some ⟨g, 0, none⟩ := by
        rcases hRr.form with ⟨h1, h2⟩ | ⟨g, cap, h1⟩
        · rw [h2] at hx; simp at hx
        · injection h1 with h1; exact ⟨g, h1⟩
      subst hg
      have hix : ∀ (i : Nat), i < n → ∀ w', (Instr.indexAt 22 (.slice (some ⟨g, 0, none⟩) n ic) (.int .i64 (i : Int))).run Try.prog w' = .ok (.pointer (some ⟨g, i * 3, none⟩)) w' :=
        fun i hi w' => run_ix (P := Try.prog) 22 3 g n ic i (i : Int) rfl hi Try.underlying22 (fun _ => by kernel_rfl) w'
      have hixj := hix j hlt
      obtain ⟨sp, hrow, hq1, hq2, hq3, hq4⟩ := hRr.open'
      clear hq1 hq2 hq4
      have Hcap := hide hq3
      clear hq3
      obtain ⟨e0, e1, e2⟩ := entS_at hrow hx
      have heq : (x.key.toList == s.key.toList) = true := by rw [hkey]; simp
      have Hx := hide (And.intro hx hkey)
      have Hix := hide hix
      clear hx hrow hkey hix
      go_wp2
      go_region_held3 (fun w' => w'.cell? ⟨b, 0, none⟩ = some (.string s.key) ∧ w'.cell? ⟨g, j * 3, none⟩ = some (.string x.key)) (exact ⟨b0, e0⟩) (fail)
      obtain ⟨w2, hw2, hc2⟩ : ∃ w2, wc.drew = w2 ∧ Chg0 wc w2 := ⟨_, rfl, ⟨rfl, rfl, rfl, Nat.le_refl _, fun _ _ _ => rfl⟩⟩
      rw [hw2]
      clear hw2 e0 e1 e2
      have b1 := Chg0.cell hc2 b1
      have b0 := Chg0.cell hc2 b0
      have b2 := Chg0.cell hc2 b2
      have hR2 := hRr.grew hc2
      have hcw : Chg0 w w2 := (Hchg.out.trans hcr).trans hc2
      have hlx : j < X.length := by have := HX.out.2.2.1; omega
      have hAsc : Hid (Asc (X.take j ++ x :: X.drop (j + 1))) := by show Asc _; rw [← split_get Hx.out.1]; exact HX.out.1
      have hB : Hid (∀ y ∈ X.drop (j + 1), klt s.key y.key = true) := tail_gt (List.pairwise_append.1 hAsc.out).2.1 (Or.inr Hx.out.2)
      have Hlx := hide hlx
      clear hlx
      by_cases hv : s.ver = 0
      · -- taken out
        have Hv := hide hv
        go_wp2
        go_loopg [6] n (fun kx s6 wr => ∃ k : Nat, s6 = .int .i64 k ∧ j ≤ k ∧ k < n ∧ n - k ≤ kx ∧ RowS wr (.slice (some ⟨g, 0, none⟩) n ic) (shiftL X j k) ∧ Stp (one g) w2 wr (one g))
        case atStart => exact ⟨j, rfl, Nat.le_refl _, hlt, by omega, by rw [shiftL_start Hlx.out]; exact hR2, Stp.refl (one_le g) (fun k hk => hR2.lt (by rw [ob_slice]; exact hk))⟩
        case round =>
          obtain ⟨k, rfl, hjk, hkn, hkx, hRk, hSk⟩ := hrel
          have hk1 : (k : Int) ≤ 10000 := by omega
          have hk0 : (0 : Int) ≤ (k : Int) := Int.natCast_nonneg _
          have hixk := Hix.out k hkn
          by_cases hlk : k + 1 < n
          · have hlk' : (k : Int) + 1 < (n : Int) := by omega
            have hixk1 := Hix.out (k + 1) hlk
            rw [show ((k + 1 : Nat) : Int) = (k : Int) + 1 from rfl] at hixk1
            obtain ⟨y, hy⟩ : ∃ y, X[k + 1]? = some y := ⟨X[k + 1]'(by have := HX.out.2.2.1; omega), by simp⟩
            have hyk := shiftL_get Hlx.out hjk hy
            obtain ⟨sp3, hrow3, hq1, hq2, hq3, hq4⟩ := hRk.open'
            obtain ⟨z, hz⟩ : ∃ z, (shiftL X j k)[k]? = some z := ⟨(shiftL X j k)[k]'(by omega), by simp⟩
            clear hq1 hq2 hq3 hq4
            obtain ⟨f0, f1, f2⟩ := entS_at hrow3 hyk
            obtain ⟨p0, p1, p2⟩ := entS_at hrow3 hz
            have q0 := frozen_blk hrow3 (k * 3)
            have q1 := frozen_blk hrow3 (k * 3 + 1)
            have q2 := frozen_blk hrow3 (k * 3 + 2)
            have Hy := hide (And.intro hy (And.intro hyk hz))
            clear hy hyk hz hrow3
            go_wp2
            go_roundg (n - (k + 1))
            case measure => omega
            case rel =>
              obtain ⟨r1, r2⟩ := storeS hRk k (List.getElem?_eq_some_iff.1 Hy.out.2.2).1 y
              rw [shiftL_set Hlx.out hjk Hy.out.1] at r1
              exact ⟨k + 1, rfl, by omega, hlk, Nat.le_refl _, r1, hSk.trans r2⟩
          · have hlk' : ¬ (k : Int) + 1 < (n : Int) := by omega
            have e : k + 1 = n := by omega
            have hwn : IntKind.i64.wrap ((n : Int) - 1) = (k : Int) := by rw [IntKind.wrap_i64]; omega
            have hhd : ∀ w', (Instr.sliceAt 22 (.slice (some ⟨g, 0, none⟩) n ic) none (some (.int .i64 (k : Int))) none).run Try.prog w' = .ok (.slice (some ⟨g, 0, none⟩) k ic) w' :=
              fun w' => run_head 22 3 g n ic k (k : Int) rfl (by have := Hcap.out; omega) Try.underlying22 (fun _ => by kernel_rfl) w'
            have He := hide e
            clear e hlk
            go_wp2
            go_ret
            refine ⟨_, rfl, ?_, ?_⟩
            · have e2 : put s X = (shiftL X j k).take k := by
                unfold put
                have h2 : X.length = k + 1 := by have := He.out; have := HX.out.2.2.1; omega
                rw [if_pos Hv.out, shiftL_end Hlx.out h2]
                conv => lhs; rw [split_get Hx.out.1]
                rw [del_over s.key x Hx.out.2 _ _ HA.out.1 hB.out]
                rw [List.eraseIdx_eq_take_drop_succ]
              rw [e2]
              exact hRk.head (by have h1 := He.out; have h2 := HX.out.2.2.1; have h3 := shiftL_len Hlx.out (k := k) (by omega); omega)
            · exact (hSk.pre hcw).congr (fun k => (ob_slice _ _ _ _).symm) (fun k => (ob_slice _ _ _ _).symm)
      · -- stored over
        have hv' : (s.ver == 0) = false := by simpa using hv
        have Hv := hide hv
        obtain ⟨sp2, hrow2, hq1, hq2, hq3, hq4⟩ := hR2.open'
        clear hq1 hq2 hq3 hq4
        obtain ⟨f0, f1, f2⟩ := entS_at hrow2 Hx.out.1
        have q0 := frozen_blk hrow2 (j * 3)
        have q1 := frozen_blk hrow2 (j * 3 + 1)
        have q2 := frozen_blk hrow2 (j * 3 + 2)
        clear hrow2
        go_wp2
        go_ret
        obtain ⟨r1, r2⟩ := storeS hR2 j Hlx.out s
        refine ⟨_, rfl, ?_, ?_⟩
        · have e : put s X = X.set j s := by
            unfold put
            rw [if_neg Hv.out, split_get Hx.out.1, ins_over s x Hx.out.2 _ _ HA.out.1 hB.out, List.set_append_right _ _ (by simp; omega)]
            simp [Nat.min_eq_left (Nat.le_of_lt Hlx.out)]
          rw [e]
          exact r1
        · exact (r2.pre hcw).congr (fun k => (ob_slice _ _ _ _).symm) (fun k => (ob_slice _ _ _ _).symm)
    · -- no such key
      have hT : Hid (∀ y ∈ X.drop j, klt s.key y.key = true) := miss_tail HX.out.1 (fun x hx => ⟨HA.out.2 x hx, fun e => hit ⟨x, hx, e⟩⟩)
      go_upto_region 4 with (fail)
      go_cut [37] (fun s37 wd => s37 = .bool false ∧ Chg0 wc wd)
      case first =>
        by_cases hlt : j < n
        · have hlt' : (j : Int) < (n : Int) := by omega
          obtain ⟨x, hx⟩ : ∃ x, X[j]? = some x := ⟨X[j]'(by have := HX.out.2.2.1; omega), by simp⟩
          obtain ⟨g, hg⟩ : ∃ g, ia = some ⟨g, 0, none⟩ := by
            rcases hRr.form with ⟨h1, h2⟩ | ⟨g, cap, h1⟩
            · rw [h2] at hx; simp at hx
            · injection h1 with h1; exact ⟨g, h1⟩
          subst hg
          have hix : ∀ w', (Instr.indexAt 22 (.slice (some ⟨g, 0, none⟩) n ic) (.int .i64 (j : Int))).run Try.prog w' = .ok (.pointer (some ⟨g, j * 3, none⟩)) w' :=
            fun w' => run_ix (P := Try.prog) 22 3 g n ic j (j : Int) rfl hlt Try.underlying22 (fun _ => by kernel_rfl) w'
          obtain ⟨sp, hrow, hq1, hq2, hq3, hq4⟩ := hRr.open'
          clear hq1 hq2 hq3 hq4
          obtain ⟨e0, e1, e2⟩ := entS_at hrow hx
          have hne : ¬ x.key = s.key := fun e => hit ⟨x, hx, e⟩
          have heq : (x.key.toList == s.key.toList) = false := by
            cases h : (x.key.toList == s.key.toList) with
            | false => rfl
            | true =>
              have h1 := eq_of_beq h
              rw [ByteArray.toList_eq, ByteArray.toList_eq] at h1
              exact absurd (ByteArray.ext (Array.ext' h1)) hne
          clear hx hrow hne hit
          go_region_held3 (fun w' => w'.cell? ⟨b, 0, none⟩ = some (.string s.key) ∧ w'.cell? ⟨g, j * 3, none⟩ = some (.string x.key)) (exact ⟨b0, e0⟩) (fail)
          go_wp2
          go_meet
          case rel => exact ⟨rfl, ⟨rfl, rfl, rfl, Nat.le_refl _, fun _ _ _ => rfl⟩⟩
        · have hlt' : ¬ (j : Int) < (n : Int) := by omega
          clear hit
          go_quiet (fail)
          go_wp2
          go_meet
          case rel => exact ⟨rfl, ⟨rfl, rfl, rfl, Nat.le_refl _, fun _ _ _ => rfl⟩⟩
      case rest =>
        obtain ⟨rfl, hc2⟩ := hcut
        have b1 := Chg0.cell hc2 b1
        have b0 := Chg0.cell hc2 b0
        have b2 := Chg0.cell hc2 b2
        have hR2 := hRr.grew hc2
        have hcw : Chg0 w wc := (Hchg.out.trans hcr).trans hc2
        by_cases hv : s.ver = 0
        · have Hv := hide hv
          go_wp2
          go_ret
          refine ⟨_, rfl, ?_, (Stp.refl (ob_le _) (fun k hk => hR2.lt hk)).pre hcw⟩
          have e : put s X = X := by
            unfold put
            rw [if_pos Hv.out]
            have := del_out s.key (X.take j) (X.drop j) HA.out.1 hT.out
            rw [List.take_append_drop] at this
            exact this
          rw [e]
          exact hR2
        · have hv' : (s.ver == 0) = false := by simpa using hv
          have Hv := hide hv
          have hR2o : wc.ownsRow 0 31 3 (.slice ia n ic) n (cellsOf X) := by have := hR2; unfold RowS at this; rw [← HX.out.2.2.1] at this; exact this
          have hbw : wc.heap[b]? = _ := hc2.blk hbr
          have hbn : some b ≠ (Value.slice ia n ic).ownBlock := fun e => by have := HX.out.2.2.2.lt (k := b) (by rw [ob_of e.symm]; omega); have := Hb.out; omega
          obtain ⟨w3, hw3⟩ : ∃ w3, w3 = wc := ⟨_, rfl⟩
          go_wp2_with (at_builtin; refine wpList_append_lies _ rfl _ _ 22 rfl 0 31 i0 _ 3 48 Try.underlying22 hi0 hz0 hz1 hz2 rfl (by omega) (.slice ia n ic) n (cellsOf X) rfl (hR2o.alloc _) ⟨wc.heap.size, 0, none⟩ 1 1 [.string ⟨#[]⟩, .int .u64 0, .slice none 0 0] rfl rfl (World.news_of_block (cs := #[.string ⟨#[]⟩, .int .u64 0, .slice none 0 0]) (t := 31) (fr := (0, 0)) (heap_alloc_new wc _)) (by simp [Value.oneCell']) (by omega) (by unfold maxLen; omega) (by omega) (Nat.zero_le _) (wc.heap.size + 1) (by simp) ?_; intro g2 cap2 w4 hown hgrow hat hlt4)
          obtain ⟨hR4, hS4, hbk⟩ := appS hgrow hat hown HX.out.2.2.1 hlt4
          have hb4 := hbk hbw hbn
          have hbg : one g2 b = 0 := by
            refine one_other (fun e => ?_)
            rcases hat with h1 | h1
            · exact hbn (by rw [h1, e])
            · have h2 := heap_lt' hbw
              omega
          clear hw3 hR2o
          go_loopg [7] n (fun kx s7 wr => ∃ (k : Nat) (gb : Ent), s7 = .int .i64 k ∧ j ≤ k ∧ k ≤ n ∧ k - j ≤ kx ∧ RowS wr (.slice (some ⟨g2, 0, none⟩) (n + 1) cap2) (X.take k ++ gb :: X.drop k) ∧ Stp (one g2) w4 wr (one g2))
          case atStart =>
            refine ⟨n, ent0, rfl, hjn, Nat.le_refl _, by omega, ?_, Stp.refl (one_le g2) (fun k hk => by rw [one_pos hk]; exact hlt4)⟩
            have e1 : X.take n = X := List.take_of_length_le (by have := HX.out.2.2.1; omega)
            have e2 : X.drop n = [] := List.drop_eq_nil_of_le (by have := HX.out.2.2.1; omega)
            rw [e1, e2]
            exact hR4
          case round =>
            obtain ⟨k, gb, rfl, hjk, hkn, hkx, hRk, hSk⟩ := hrel
            have hbk := hSk.blk hb4 hbg
            have c0 : wr.cell? ⟨b, 0, none⟩ = some (.string s.key) := cell_blk hbk 0
            have c1 : wr.cell? ⟨b, 1, none⟩ = some (.int .u64 s.ver) := cell_blk hbk 1
            have c2 : wr.cell? ⟨b, 2, none⟩ = some (.slice s.va s.vn s.vc) := cell_blk hbk 2
            have hix : ∀ (i : Nat), i < n + 1 → ∀ w', (Instr.indexAt 22 (.slice (some ⟨g2, 0, none⟩) (n + 1) cap2) (.int .i64 (i : Int))).run Try.prog w' = .ok (.pointer (some ⟨g2, i * 3, none⟩)) w' :=
              fun i hi w' => run_ix (P := Try.prog) 22 3 g2 (n + 1) cap2 i (i : Int) rfl hi Try.underlying22 (fun _ => by kernel_rfl) w'
            have hixk := hix k (by omega)
            obtain ⟨sp3, hrow3, hq1, hq2, hq3, hq4⟩ := hRk.open'
            clear hq1 hq2 hq3 hq4
            have hkl : k ≤ X.length := by have := HX.out.2.2.1; omega
            have hz : (X.take k ++ gb :: X.drop k)[k]? = some gb := by rw [List.getElem?_append_right (by simp; omega)]; simp [Nat.min_eq_left hkl]
            obtain ⟨p0, p1, p2⟩ := entS_at hrow3 hz
            have q0 := frozen_blk hrow3 (k * 3)
            have q1 := frozen_blk hrow3 (k * 3 + 1)
            have q2 := frozen_blk hrow3 (k * 3 + 2)
            have Hz := hide hz
            have Hkl := hide hkl
            clear hz hkl
            by_cases hlk : j < k
            · have hlk' : (j : Int) < (k : Int) := by omega
              obtain ⟨k', hk'⟩ : ∃ k', k = k' + 1 := ⟨k - 1, by omega⟩
              subst hk'
              have hixk1 := hix k' (by omega)
              obtain ⟨y, hy⟩ : ∃ y, X[k']? = some y := ⟨X[k']'(by have := Hkl.out; omega), by simp⟩
              have hyk : (X.take (k' + 1) ++ gb :: X.drop (k' + 1))[k']? = some y := by rw [List.getElem?_append_left (by simp; have := Hkl.out; omega), List.getElem?_take_of_lt (by omega)]; exact hy
              obtain ⟨f0, f1, f2⟩ := entS_at hrow3 hyk
              have hw1 : IntKind.i64.wrap (k' : Int) = (k' : Int) := by rw [IntKind.wrap_i64]; omega
              have Hy := hide hy
              clear hy hyk hrow3 hix
              rw [show ((k' + 1 : Nat) : Int) = (k' : Int) + 1 from rfl] at *
              go_wp2
              go_roundg (k' - j)
              case measure => omega
              case rel =>
                obtain ⟨r1, r2⟩ := storeS hRk (k' + 1) (List.getElem?_eq_some_iff.1 Hz.out).1 y
                refine ⟨k', y, rfl, by omega, by omega, Nat.le_refl _, ?_, hSk.trans r2⟩
                rw [← shiftR_set Hy.out]
                exact r1
            · have hlk' : ¬ (j : Int) < (k : Int) := by omega
              have e : k = j := by omega
              subst e
              clear hrow3 hix hlk
              go_wp2
              go_ret
              obtain ⟨r1, r2⟩ := storeS hRk k (List.getElem?_eq_some_iff.1 Hz.out).1 s
              refine ⟨_, rfl, ?_, ?_⟩
              · have e : put s X = (X.take k ++ gb :: X.drop k).set k s := by
                  unfold put
                  rw [if_neg Hv.out]
                  have h1 := ins_at s (X.take k) (X.drop k) HA.out.1 hT.out
                  rw [List.take_append_drop] at h1
                  rw [h1, List.set_append_right _ _ (by simp; omega)]
                  simp [Nat.min_eq_left Hkl.out]
                rw [e]
                exact r1
              · exact (hS4.pre hcw).trans ((hSk.trans r2).congr (fun k => (ob_slice _ _ _ _).symm) (fun k => (ob_slice _ _ _ _).symm))

end Go.Proofs.Qxb6603483a
