/-
  What a statement makes of a node: append, a new slice value, a row written in place.
-/
import Derived.Test.Qxb6603483aRow
namespace Go.Proofs.Qxb6603483a
open Go.RowKit
set_option linter.unusedSimpArgs false

theorem info33 : (Try.prog.info? 33).map (fun i => (i.zero, i.size, i.bytes)) = some (some (.agg #[.string ⟨#[]⟩, .int .u64 0, .slice none 0 0]), 3, 48) := by kernel_rfl
theorem size33 : (Try.prog.info? 33).map (·.size) = some 3 := by kernel_rfl

theorem Stp.pre {A B : Nat → Nat} {w W w' : World} (h : Stp A W w' B) (hc : Chg (fun _ => 0) w W) : Stp A w w' B :=
  ⟨(hc.mono (fun _ _ _ => rfl)).trans h.chg, fun k hk => h.le k (Nat.lt_of_lt_of_le hk hc.size), h.uniq, h.lt⟩

theorem kept3 {w : World} {p g a b c j : Nat} {x y z : Value} (h : p ≠ g) : (((w.setCell ⟨g, a, none⟩ x).setCell ⟨g, b, none⟩ y).setCell ⟨g, c, none⟩ z).drew.cell? ⟨p, j, none⟩ = w.cell? ⟨p, j, none⟩ :=
  World.cell?_of_block (((Below.heap_setCell _ _ _ _ h).trans (Below.heap_setCell _ _ _ _ h)).trans (Below.heap_setCell _ _ _ _ h))

/-- Two boxes laid. -/
theorem two_boxes (w : World) (a b : Array Value) (ta tb : TypeId) : ((w.alloc (.cells a ta)).alloc (.cells b tb)).heap[w.heap.size]? = some (.cells a ta (0, 0)) ∧ ((w.alloc (.cells a ta)).alloc (.cells b tb)).heap[w.heap.size + 1]? = some (.cells b tb (0, 0)) := by
  refine ⟨by rw [Below.heap_alloc _ _ _ (by simp)]; exact (MapKept.heap_alloc w _).1, ?_⟩
  have := (MapKept.heap_alloc (w.alloc (.cells a ta)) (.cells b tb)).1
  simpa using this

theorem Chg.node {w w' : World} {p : Nat} {iv cv cp : Value} {its : List Ent} {cps : List Value} (h : NodeAt w p iv cv cp its cps) {A : Nat → Nat} (hc : Chg A w w') (h0 : ∀ k, 1 ≤ nodeF p iv cv k → A k = 0) : NodeAt w' p iv cv cp its cps :=
  h.same (fun k hk => hc.same k (h.lt hk) (h0 k hk))

theorem NodeAt.ne_i {w : World} {p : Nat} {iv cv cp : Value} {its : List Ent} {cps : List Value} (h : NodeAt w p iv cv cp its cps) : some p ≠ iv.ownBlock := fun e => by
  have := h.uniq p
  rw [one_self, ob_of e.symm] at this
  omega
theorem NodeAt.ne_c {w : World} {p : Nat} {iv cv cp : Value} {its : List Ent} {cps : List Value} (h : NodeAt w p iv cv cp its cps) : some p ≠ cv.ownBlock := fun e => by
  have := h.uniq p
  rw [one_self, ob_of e.symm] at this
  omega
theorem NodeAt.pl {w : World} {p : Nat} {iv cv cp : Value} {its : List Ent} {cps : List Value} (h : NodeAt w p iv cv cp its cps) : p < w.heap.size := (Array.getElem?_eq_some_iff.1 h.blk).1

/-- A block that is neither the row grown nor new is as it was. -/
theorem grown_blk {W X w1 : World} {row : Option Nat} {p : Nat} {o : Obj} (hX : Chg (fun _ => 0) W X) (hg : X.grownBy w1 row) (hp : W.heap[p]? = some o) (hne : some p ≠ row) : w1.heap[p]? = some o := by
  have hlt := (Array.getElem?_eq_some_iff.1 hp).1
  exact ((hg.block p (Nat.lt_of_lt_of_le hlt hX.size) hne).trans (hX.same p hlt rfl)).trans hp

/-- Behind an append onto the items, stored back. -/
theorem app3 {W X w1 : World} {p g N cap : Nat} {iv cv cp : Value} {its news : List Ent} {cps : List Value} (hN : NodeAt W p iv cv cp its cps) (hX : Chg (fun _ => 0) W X)
    (hown : w1.ownsRow 0 33 3 (.slice (some ⟨g, 0, none⟩) N cap) N (cellsOf its ++ cellsOf news)) (hl : N = its.length + news.length) (hg : X.grownBy w1 iv.ownBlock) (hat : iv.ownBlock = some g ∨ W.heap.size ≤ g) :
    NodeAt (w1.setCell ⟨p, 0, none⟩ (.slice (some ⟨g, 0, none⟩) N cap)) p (.slice (some ⟨g, 0, none⟩) N cap) cv cp (its ++ news) cps ∧
      Stp (nodeF p iv cv) W (w1.setCell ⟨p, 0, none⟩ (.slice (some ⟨g, 0, none⟩) N cap)) (nodeF p (.slice (some ⟨g, 0, none⟩) N cap) cv) := by
  have hpl := hN.pl
  have hu := hN.uniq
  have hgp : g ≠ p := by
    rcases hat with h | h
    · intro e; subst e; exact hN.ne_i h.symm
    · omega
  have hgc : ob cv g = 0 := by
    rcases hat with h | h
    · have := hu g; rw [ob_of h] at this; omega
    · have := ob_le cv g
      by_cases hc : 1 ≤ ob cv g
      · have := hN.rc.lt hc; omega
      · omega
  have hb1 := grown_blk hX hg hN.blk hN.ne_i
  have hcv : ∀ k, 1 ≤ ob cv k → (w1.setCell ⟨p, 0, none⟩ (.slice (some ⟨g, 0, none⟩) N cap)).heap[k]? = W.heap[k]? := fun k hk => by
    have hkl := hN.rc.lt hk
    have hne : k ≠ p := fun e => by subst e; have := hu k; rw [one_self] at this; omega
    rw [Below.heap_setCell _ _ _ _ hne]
    exact (hg.block k (Nat.lt_of_lt_of_le hkl hX.size) (fun e => by have := hu k; rw [ob_of e.symm] at this; omega)).trans (hX.same k hkl rfl)
  have hrow : Row3 (w1.setCell ⟨p, 0, none⟩ (.slice (some ⟨g, 0, none⟩) N cap)) (.slice (some ⟨g, 0, none⟩) N cap) (its ++ news) := by
    unfold Row3
    rw [List.length_append, ← hl, cellsOf_append]
    exact ownsRow_same hown (fun k hk => by
      have e : g = k := by simpa [Value.ownBlock] using hk
      subst e
      exact Below.heap_setCell _ _ _ _ hgp)
  have hnode : NodeAt (w1.setCell ⟨p, 0, none⟩ (.slice (some ⟨g, 0, none⟩) N cap)) p (.slice (some ⟨g, 0, none⟩) N cap) cv cp (its ++ news) cps := by
    refine ⟨?_, hrow, hN.rc.same hcv, fun k => ?_⟩
    · rw [heap_setCell_blk hb1]; rfl
    · rw [ob_slice]
      have h1 := hu k
      by_cases hk : k = g
      · subst hk; rw [one_self, one_other hgp, hgc]; omega
      · rw [one_other hk]; omega
  refine ⟨hnode, ⟨?_, fun k hk => ?_, hnode.fit, fun k hk => hnode.lt hk⟩⟩
  · have c1 : Chg (nodeF p iv cv) W X := hX.mono (fun _ _ _ => rfl)
    have c2 := c1.grown hg (fun k hk _ => by unfold nodeF; rw [ob_of hk]; omega)
    exact c2.setCell (p := ⟨p, 0, none⟩) (fun _ => by show 1 ≤ nodeF p iv cv p; unfold nodeF; rw [one_self]; omega) _
  · unfold nodeF
    rw [ob_slice]
    by_cases hkg : k = g
    · subst hkg
      rcases hat with h | h
      · rw [one_self, ob_of h]; omega
      · omega
    · rw [one_other hkg]; omega

/-- Behind an append onto the children, stored back. -/
theorem app1 {W X w1 : World} {p g N cap : Nat} {iv cv cp : Value} {its : List Ent} {cps news : List Value} (hN : NodeAt W p iv cv cp its cps) (hX : Chg (fun _ => 0) W X)
    (hown : w1.ownsRow 0 84 1 (.slice (some ⟨g, 0, none⟩) N cap) N (cps ++ news)) (hl : N = cps.length + news.length) (hg : X.grownBy w1 cv.ownBlock) (hat : cv.ownBlock = some g ∨ W.heap.size ≤ g) :
    NodeAt (w1.setCell ⟨p, 1, none⟩ (.slice (some ⟨g, 0, none⟩) N cap)) p iv (.slice (some ⟨g, 0, none⟩) N cap) cp its (cps ++ news) ∧
      Stp (nodeF p iv cv) W (w1.setCell ⟨p, 1, none⟩ (.slice (some ⟨g, 0, none⟩) N cap)) (nodeF p iv (.slice (some ⟨g, 0, none⟩) N cap)) := by
  have hpl := hN.pl
  have hu := hN.uniq
  have hgp : g ≠ p := by
    rcases hat with h | h
    · intro e; subst e; exact hN.ne_c h.symm
    · omega
  have hgc : ob iv g = 0 := by
    rcases hat with h | h
    · have := hu g; rw [ob_of h] at this; omega
    · by_cases hc : 1 ≤ ob iv g
      · have := hN.ri.lt hc; omega
      · omega
  have hb1 := grown_blk hX hg hN.blk hN.ne_c
  have hcv : ∀ k, 1 ≤ ob iv k → (w1.setCell ⟨p, 1, none⟩ (.slice (some ⟨g, 0, none⟩) N cap)).heap[k]? = W.heap[k]? := fun k hk => by
    have hkl := hN.ri.lt hk
    have hne : k ≠ p := fun e => by subst e; have := hu k; rw [one_self] at this; omega
    rw [Below.heap_setCell _ _ _ _ hne]
    exact (hg.block k (Nat.lt_of_lt_of_le hkl hX.size) (fun e => by have := hu k; rw [ob_of e.symm] at this; omega)).trans (hX.same k hkl rfl)
  have hrow : Row1 (w1.setCell ⟨p, 1, none⟩ (.slice (some ⟨g, 0, none⟩) N cap)) (.slice (some ⟨g, 0, none⟩) N cap) (cps ++ news) := by
    unfold Row1
    rw [List.length_append, ← hl]
    exact ownsRow_same hown (fun k hk => by
      have e : g = k := by simpa [Value.ownBlock] using hk
      subst e
      exact Below.heap_setCell _ _ _ _ hgp)
  have hnode : NodeAt (w1.setCell ⟨p, 1, none⟩ (.slice (some ⟨g, 0, none⟩) N cap)) p iv (.slice (some ⟨g, 0, none⟩) N cap) cp its (cps ++ news) := by
    refine ⟨?_, hN.ri.same hcv, hrow, fun k => ?_⟩
    · rw [heap_setCell_blk hb1]; rfl
    · rw [ob_slice]
      have h1 := hu k
      by_cases hk : k = g
      · subst hk; rw [one_self, one_other hgp, hgc]; omega
      · rw [one_other hk]; omega
  refine ⟨hnode, ⟨?_, fun k hk => ?_, hnode.fit, fun k hk => hnode.lt hk⟩⟩
  · have c1 : Chg (nodeF p iv cv) W X := hX.mono (fun _ _ _ => rfl)
    have c2 := c1.grown hg (fun k hk _ => by unfold nodeF; rw [ob_of hk]; omega)
    exact c2.setCell (p := ⟨p, 1, none⟩) (fun _ => by show 1 ≤ nodeF p iv cv p; unfold nodeF; rw [one_self]; omega) _
  · unfold nodeF
    rw [ob_slice]
    by_cases hkg : k = g
    · subst hkg
      rcases hat with h | h
      · rw [one_self, ob_of h]; omega
      · omega
    · rw [one_other hkg]; omega

/-- The items' row turned in place (only block g of the node has turned). -/
theorem row3_turned {W w1 : World} {p g n cap : Nat} {cv cp : Value} {its its' : List Ent} {cps : List Value} (hN : NodeAt W p (.slice (some ⟨g, 0, none⟩) n cap) cv cp its cps)
    (hc : Chg (one g) W w1) (hr : Row3 w1 (.slice (some ⟨g, 0, none⟩) n cap) its') :
    NodeAt w1 p (.slice (some ⟨g, 0, none⟩) n cap) cv cp its' cps ∧ Stp (nodeF p (.slice (some ⟨g, 0, none⟩) n cap) cv) W w1 (nodeF p (.slice (some ⟨g, 0, none⟩) n cap) cv) := by
  have hu := hN.uniq
  have hgp : p ≠ g := fun e => by have := hu p; rw [one_self, ob_slice, e, one_self] at this; omega
  have hnode : NodeAt w1 p (.slice (some ⟨g, 0, none⟩) n cap) cv cp its' cps :=
    ⟨(hc.same p hN.pl (one_other hgp)).trans hN.blk, hr, hN.rc.same (fun k hk => hc.same k (hN.rc.lt hk) (one_other (fun e => by have := hu k; rw [ob_slice, e, one_self] at this; rw [e] at hk; omega))), hu⟩
  refine ⟨hnode, ⟨hc.mono (fun k _ h0 => ?_), fun _ _ => Nat.le_refl _, hnode.fit, fun k hk => hnode.lt hk⟩⟩
  unfold nodeF at h0
  rw [ob_slice] at h0
  omega

/-- The children's row turned in place. -/
theorem row1_turned {W w1 : World} {p g n cap : Nat} {iv cp : Value} {its : List Ent} {cps cps' : List Value} (hN : NodeAt W p iv (.slice (some ⟨g, 0, none⟩) n cap) cp its cps)
    (hc : Chg (one g) W w1) (hr : Row1 w1 (.slice (some ⟨g, 0, none⟩) n cap) cps') :
    NodeAt w1 p iv (.slice (some ⟨g, 0, none⟩) n cap) cp its cps' ∧ Stp (nodeF p iv (.slice (some ⟨g, 0, none⟩) n cap)) W w1 (nodeF p iv (.slice (some ⟨g, 0, none⟩) n cap)) := by
  have hu := hN.uniq
  have hgp : p ≠ g := fun e => by have := hu p; rw [one_self, ob_slice, e, one_self] at this; omega
  have hnode : NodeAt w1 p iv (.slice (some ⟨g, 0, none⟩) n cap) cp its cps' :=
    ⟨(hc.same p hN.pl (one_other hgp)).trans hN.blk, hN.ri.same (fun k hk => hc.same k (hN.ri.lt hk) (one_other (fun e => by have := hu k; rw [ob_slice, e, one_self] at this; rw [e] at hk; omega))), hr, hu⟩
  refine ⟨hnode, ⟨hc.mono (fun k _ h0 => ?_), fun _ _ => Nat.le_refl _, hnode.fit, fun k hk => hnode.lt hk⟩⟩
  unfold nodeF at h0
  rw [ob_slice] at h0
  omega

/-- The items' slice cut at its end. -/
theorem head3 {W : World} {p g n cap m : Nat} {cv cp : Value} {its : List Ent} {cps : List Value} (hN : NodeAt W p (.slice (some ⟨g, 0, none⟩) n cap) cv cp its cps) (hm : m ≤ its.length) :
    NodeAt (W.setCell ⟨p, 0, none⟩ (.slice (some ⟨g, 0, none⟩) m cap)) p (.slice (some ⟨g, 0, none⟩) m cap) cv cp (its.take m) cps ∧
      Stp (nodeF p (.slice (some ⟨g, 0, none⟩) n cap) cv) W (W.setCell ⟨p, 0, none⟩ (.slice (some ⟨g, 0, none⟩) m cap)) (nodeF p (.slice (some ⟨g, 0, none⟩) m cap) cv) := by
  have hu := hN.uniq
  have hgp : g ≠ p := fun e => by have := hu p; rw [one_self, ob_slice, e, one_self] at this; omega
  obtain ⟨sp, hrow, hlen, hnl, hcap, hmax⟩ := hN.ri.open'
  have hsame : ∀ k, k ≠ p → (W.setCell ⟨p, 0, none⟩ (.slice (some ⟨g, 0, none⟩) m cap)).heap[k]? = W.heap[k]? := fun k hk => Below.heap_setCell _ _ _ _ hk
  have hnode : NodeAt (W.setCell ⟨p, 0, none⟩ (.slice (some ⟨g, 0, none⟩) m cap)) p (.slice (some ⟨g, 0, none⟩) m cap) cv cp (its.take m) cps := by
    refine ⟨by rw [heap_setCell_blk hN.blk]; rfl, ?_, hN.rc.same (fun k hk => hsame k (fun e => by subst e; have := hu k; rw [one_self] at this; omega)), fun k => by have := hu k; rw [ob_slice] at this ⊢; exact this⟩
    have e1 : cellsOf its ++ sp = cellsOf (its.take m) ++ (cellsOf (its.drop m) ++ sp) := by
      rw [← List.append_assoc, ← cellsOf_append, List.take_append_drop]
    refine Row3.shut (sp := cellsOf (its.drop m) ++ sp) ?_ (by rw [← e1]; exact hlen) (by rw [List.length_take]; omega) (by omega) hmax
    rw [hsame g hgp, ← e1]
    exact hrow
  refine ⟨hnode, ⟨(Chg.refl _ W).setCell (p := ⟨p, 0, none⟩) (fun _ => by show 1 ≤ nodeF p _ cv p; unfold nodeF; rw [one_self]; omega) _, fun k _ => ?_, hnode.fit, fun k hk => hnode.lt hk⟩⟩
  unfold nodeF
  rw [ob_slice, ob_slice]
  exact Nat.le_refl _

theorem head1 {W : World} {p g n cap m : Nat} {iv cp : Value} {its : List Ent} {cps : List Value} (hN : NodeAt W p iv (.slice (some ⟨g, 0, none⟩) n cap) cp its cps) (hm : m ≤ cps.length) :
    NodeAt (W.setCell ⟨p, 1, none⟩ (.slice (some ⟨g, 0, none⟩) m cap)) p iv (.slice (some ⟨g, 0, none⟩) m cap) cp its (cps.take m) ∧
      Stp (nodeF p iv (.slice (some ⟨g, 0, none⟩) n cap)) W (W.setCell ⟨p, 1, none⟩ (.slice (some ⟨g, 0, none⟩) m cap)) (nodeF p iv (.slice (some ⟨g, 0, none⟩) m cap)) := by
  have hu := hN.uniq
  have hgp : g ≠ p := fun e => by have := hu p; rw [one_self, ob_slice, e, one_self] at this; omega
  obtain ⟨sp, hrow, hlen, hnl, hcap, hmax⟩ := hN.rc.open'
  have hsame : ∀ k, k ≠ p → (W.setCell ⟨p, 1, none⟩ (.slice (some ⟨g, 0, none⟩) m cap)).heap[k]? = W.heap[k]? := fun k hk => Below.heap_setCell _ _ _ _ hk
  have hnode : NodeAt (W.setCell ⟨p, 1, none⟩ (.slice (some ⟨g, 0, none⟩) m cap)) p iv (.slice (some ⟨g, 0, none⟩) m cap) cp its (cps.take m) := by
    refine ⟨by rw [heap_setCell_blk hN.blk]; rfl, hN.ri.same (fun k hk => hsame k (fun e => by subst e; have := hu k; rw [one_self] at this; omega)), ?_, fun k => by have := hu k; rw [ob_slice] at this ⊢; exact this⟩
    have e1 : cps ++ sp = cps.take m ++ (cps.drop m ++ sp) := by
      rw [← List.append_assoc, List.take_append_drop]
    refine Row1.shut (sp := cps.drop m ++ sp) ?_ (by rw [← e1]; exact hlen) (by rw [List.length_take]; omega) (by omega) hmax
    rw [hsame g hgp, ← e1]
    exact hrow
  refine ⟨hnode, ⟨(Chg.refl _ W).setCell (p := ⟨p, 1, none⟩) (fun _ => by show 1 ≤ nodeF p iv _ p; unfold nodeF; rw [one_self]; omega) _, fun k _ => ?_, hnode.fit, fun k hk => hnode.lt hk⟩⟩
  unfold nodeF
  rw [ob_slice, ob_slice]
  exact Nat.le_refl _

/-- An entry stored into the items. -/
theorem store3 {W : World} {p g n cap : Nat} {cv cp : Value} {its : List Ent} {cps : List Value} (hN : NodeAt W p (.slice (some ⟨g, 0, none⟩) n cap) cv cp its cps) (i : Nat) (hi : i < its.length) (e : Ent) :
    NodeAt (((W.setCell ⟨g, i * 3, none⟩ (.string e.key)).setCell ⟨g, i * 3 + 1, none⟩ (.int .u64 e.ver)).setCell ⟨g, i * 3 + 2, none⟩ (.slice e.va e.vn e.vc)) p (.slice (some ⟨g, 0, none⟩) n cap) cv cp (its.set i e) cps ∧
      Stp (nodeF p (.slice (some ⟨g, 0, none⟩) n cap) cv) W (((W.setCell ⟨g, i * 3, none⟩ (.string e.key)).setCell ⟨g, i * 3 + 1, none⟩ (.int .u64 e.ver)).setCell ⟨g, i * 3 + 2, none⟩ (.slice e.va e.vn e.vc)) (nodeF p (.slice (some ⟨g, 0, none⟩) n cap) cv) ∧
      Chg (one g) W (((W.setCell ⟨g, i * 3, none⟩ (.string e.key)).setCell ⟨g, i * 3 + 1, none⟩ (.int .u64 e.ver)).setCell ⟨g, i * 3 + 2, none⟩ (.slice e.va e.vn e.vc)) := by
  obtain ⟨sp, hrow, hlen, hnl, hcap, hmax⟩ := hN.ri.open'
  have hc : Chg (one g) W (((W.setCell ⟨g, i * 3, none⟩ (.string e.key)).setCell ⟨g, i * 3 + 1, none⟩ (.int .u64 e.ver)).setCell ⟨g, i * 3 + 2, none⟩ (.slice e.va e.vn e.vc)) :=
    (((Chg.refl (one g) W).setCell (p := ⟨g, i * 3, none⟩) (fun _ => by show 1 ≤ one g g; rw [one_self]; exact Nat.le_refl _) _).setCell (p := ⟨g, i * 3 + 1, none⟩) (fun _ => by show 1 ≤ one g g; rw [one_self]; exact Nat.le_refl _) _).setCell (p := ⟨g, i * 3 + 2, none⟩) (fun _ => by show 1 ≤ one g g; rw [one_self]; exact Nat.le_refl _) _
  obtain ⟨r1, r2⟩ := row3_turned hN hc (Row3.shut (set3 hrow i hi e) (by rw [List.length_append, cellsOf_length] at hlen ⊢; rw [List.length_set]; exact hlen) (by rw [List.length_set]; exact hnl) hcap hmax)
  exact ⟨r1, r2, hc⟩

/-- A pointer stored into the children. -/
theorem store1 {W : World} {p g n cap : Nat} {iv cp : Value} {its : List Ent} {cps : List Value} (hN : NodeAt W p iv (.slice (some ⟨g, 0, none⟩) n cap) cp its cps) (i : Nat) (hi : i < cps.length) (q : Value) :
    NodeAt (W.setCell ⟨g, i, none⟩ q) p iv (.slice (some ⟨g, 0, none⟩) n cap) cp its (cps.set i q) ∧
      Stp (nodeF p iv (.slice (some ⟨g, 0, none⟩) n cap)) W (W.setCell ⟨g, i, none⟩ q) (nodeF p iv (.slice (some ⟨g, 0, none⟩) n cap)) ∧ Chg (one g) W (W.setCell ⟨g, i, none⟩ q) := by
  obtain ⟨sp, hrow, hlen, hnl, hcap, hmax⟩ := hN.rc.open'
  have hc : Chg (one g) W (W.setCell ⟨g, i, none⟩ q) := (Chg.refl (one g) W).setCell (p := ⟨g, i, none⟩) (fun _ => by show 1 ≤ one g g; rw [one_self]; exact Nat.le_refl _) _
  obtain ⟨r1, r2⟩ := row1_turned hN hc (Row1.shut (set1 hrow i hi q) (by rw [List.length_append, List.length_set]; simpa using hlen) (by rw [List.length_set]; exact hnl) hcap hmax)
  exact ⟨r1, r2, hc⟩

theorem NodeAt.setCell {w : World} {p : Nat} {iv cv cp : Value} {its : List Ent} {cps : List Value} (h : NodeAt w p iv cv cp its cps) {a : Addr} (h0 : nodeF p iv cv a.block = 0) (u : Value) : NodeAt (w.setCell a u) p iv cv cp its cps :=
  h.same (fun k hk => Below.heap_setCell _ _ _ _ (fun e => by subst e; omega))
theorem Stp.setFresh {A B : Nat → Nat} {w w' : World} (h : Stp A w w' B) {a : Addr} (hf : w.heap.size ≤ a.block) (u : Value) : Stp A w (w'.setCell a u) B :=
  ⟨h.chg.setCell (fun hl => by omega) u, h.le, h.uniq, fun k hk => by have := h.lt k hk; simpa [World.setCell] using this⟩

theorem ownsRow_spare {w : World} {t : TypeId} {size n cap g j : Nat} {xs : List Value} (h : w.ownsRow 0 t size (.slice (some ⟨g, 0, none⟩) n cap) n xs) (hj : n * size ≤ j) (u : Value) : (w.setCell ⟨g, j, none⟩ u).ownsRow 0 t size (.slice (some ⟨g, 0, none⟩) n cap) n xs := by
  obtain ⟨sp, hh, hl, hx, hn, hc⟩ := ownsRow_open h
  have h2 := heap_setCell_blk hh j u
  simp only [List.setIfInBounds_toArray] at h2
  rw [List.set_append_right _ _ (by omega)] at h2
  exact ownsRow_shut h2 (by rw [List.length_append, List.length_set, ← List.length_append]; exact hl) hx hn hc

/-- A store into the items' spare. -/
theorem spare3 {W : World} {p g cap j : Nat} {cv cp : Value} {its : List Ent} {cps : List Value} (hN : NodeAt W p (.slice (some ⟨g, 0, none⟩) its.length cap) cv cp its cps) (hj : its.length * 3 ≤ j) (u : Value) :
    NodeAt (W.setCell ⟨g, j, none⟩ u) p (.slice (some ⟨g, 0, none⟩) its.length cap) cv cp its cps ∧ Stp (nodeF p (.slice (some ⟨g, 0, none⟩) its.length cap) cv) W (W.setCell ⟨g, j, none⟩ u) (nodeF p (.slice (some ⟨g, 0, none⟩) its.length cap) cv) ∧ Chg (one g) W (W.setCell ⟨g, j, none⟩ u) := by
  have hc : Chg (one g) W (W.setCell ⟨g, j, none⟩ u) := (Chg.refl (one g) W).setCell (p := ⟨g, j, none⟩) (fun _ => by show 1 ≤ one g g; rw [one_self]; exact Nat.le_refl _) _
  obtain ⟨r1, r2⟩ := row3_turned hN hc (ownsRow_spare hN.ri hj u)
  exact ⟨r1, r2, hc⟩
/-- A store into the children's spare. -/
theorem spare1 {W : World} {p g cap j : Nat} {iv cp : Value} {its : List Ent} {cps : List Value} (hN : NodeAt W p iv (.slice (some ⟨g, 0, none⟩) cps.length cap) cp its cps) (hj : cps.length ≤ j) (u : Value) :
    NodeAt (W.setCell ⟨g, j, none⟩ u) p iv (.slice (some ⟨g, 0, none⟩) cps.length cap) cp its cps ∧ Stp (nodeF p iv (.slice (some ⟨g, 0, none⟩) cps.length cap)) W (W.setCell ⟨g, j, none⟩ u) (nodeF p iv (.slice (some ⟨g, 0, none⟩) cps.length cap)) ∧ Chg (one g) W (W.setCell ⟨g, j, none⟩ u) := by
  have hc : Chg (one g) W (W.setCell ⟨g, j, none⟩ u) := (Chg.refl (one g) W).setCell (p := ⟨g, j, none⟩) (fun _ => by show 1 ≤ one g g; rw [one_self]; exact Nat.le_refl _) _
  obtain ⟨r1, r2⟩ := row1_turned hN hc (ownsRow_spare hN.rc (by omega) u)
  exact ⟨r1, r2, hc⟩

/-- Behind draws a node is a node. -/
theorem NodeAt.drew {w : World} {p : Nat} {iv cv cp : Value} {its : List Ent} {cps : List Value} (h : NodeAt w p iv cv cp its cps) : NodeAt w.drew p iv cv cp its cps := ⟨h.blk, h.ri, h.rc, h.uniq⟩
theorem Stp.drew {A B : Nat → Nat} {w w' : World} (h : Stp A w w' B) : Stp A w w'.drew B := ⟨h.chg.drew, h.le, h.uniq, h.lt⟩

end Go.Proofs.Qxb6603483a
