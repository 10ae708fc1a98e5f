/-
  remove in a leaf.
-/
import Derived.Test.Qxb6603483aRemBig
import Derived.Test.Qxb6603483aRem3
import Derived.Test.Qxb6603483aPop3
namespace Go.Proofs.Qxb6603483a
open Go.RowKit
set_option linter.unusedSimpArgs false
attribute [local go_sem ↓] Go.wp_at_zero Go.wp_at_succ

set_option maxRecDepth 100000 in
set_option maxHeartbeats 1000000 in
theorem rem_leaf_max {w : World} {p : Nat} {iv cv cp : Value} {its : List Ent} {x e : Ent} (hN : NodeAt w p iv cv cp (its ++ [x]) []) (hn : its.length ≤ 1000) :
    Calls Try.prog 44 #[.pointer (some ⟨p, 0, none⟩), e.v, .int .i64 31, .int .i64 2] w fun r w' => r = .returned (.tuple #[x.v, .bool true]) ∧ ∃ iv', NodeAt w' p iv' cv cp its [] ∧ Stp (nodeF p iv cv) w w' (nodeF p iv' cv) := by
  obtain ⟨ca, cc, hcv⟩ : ∃ a cc, cv = .slice a 0 cc := hN.cform
  subst hcv
  obtain ⟨W, hW, ⟨hbox, hzero⟩, hchg⟩ : ∃ W, W = (w.alloc (Obj.cells #[Value.string e.key, Value.int IntKind.u64 e.ver, Value.slice e.va e.vn e.vc] 33)).alloc (Obj.cells #[Value.string { data := #[] }, Value.int IntKind.u64 0, Value.slice none 0 0] 33) ∧
      (W.heap[w.heap.size]? = some (.cells #[Value.string e.key, Value.int IntKind.u64 e.ver, Value.slice e.va e.vn e.vc] 33 (0, 0)) ∧
      W.heap[w.heap.size + 1]? = some (.cells #[Value.string { data := #[] }, Value.int IntKind.u64 0, Value.slice none 0 0] 33 (0, 0))) ∧ Chg0 w W :=
    ⟨_, rfl, two_boxes w _ _ _ _, ((Chg.refl _ w).alloc _).alloc _⟩
  have hNW := hchg.node hN (fun _ _ => rfl)
  have HB0 : Hid (∀ j, nodeF p iv (.slice ca 0 cc) (w.heap.size + j) = 0) := fun j => by
    have h1 : ¬ 1 ≤ nodeF p iv (.slice ca 0 cc) (w.heap.size + j) := fun h => by have := hN.lt h; omega
    show nodeF p iv (.slice ca 0 cc) (w.heap.size + j) = 0
    omega
  have hchgW := hide hchg
  have c1 : W.cell? ⟨p, 1, none⟩ = some (.slice ca 0 cc) := cell_blk hNW.blk 1
  have Hn := hide hn
  have hW' := hW.symm
  clear hW hN hn hchg
  unfold Ent.v
  go_enter Try.func44, Try.ntmps44
  go_wp2_with (fail)
  clear hW'
  generalize hbb : w.heap.size = b at *
  have Hb := hide hbb
  clear hbb
  refine (pop3 hNW (by have := Hn.out; omega)).mono ?_
  rintro _ w6 ⟨rfl, iv6, hN6, hT⟩
  unfold Ent.v
  have hz6 := hT.blk hzero (HB0.out 1)
  have hz := hT.zero hzero (HB0.out 1)
  clear c1
  obtain ⟨z0, z1, z2⟩ := box_cells hz6
  have y0 := frozen_blk hz6 0
  have y1 := frozen_blk hz6 1
  have y2 := frozen_blk hz6 2
  go_wp2
  have r0 := boxPut_at x hz6
  refine bodyPost_ret (v := .tuple #[x.v, .bool true]) (by
    have r1 := cell_blk r0 0
    have r2 := cell_blk r0 1
    have r3 := cell_blk r0 2
    unfold boxPut at r1 r2 r3
    simp [results, Try.results44, go_sem, r1, r2, r3, Ent.v, ptr]) rfl ?_
  exact ⟨rfl, iv6, hN6.boxPut (b := b + 1) hz x, (hT.pre hchgW.out).boxPut (b := b + 1) (by rw [Hb.out]; omega) x⟩

set_option maxRecDepth 100000 in
set_option maxHeartbeats 1000000 in
theorem rem_leaf_hit {w : World} {p c f k : Nat} {iv cv : Value} {its : List Ent} {x e : Ent} (hN : NodeAt w p iv cv (ptr c) its []) (hcow : w.heap[c]? = some (.cells #[ptr f, lessV] 115 (0, 0)))
    (hs : Asc its) (hn : its.length ≤ 1000) (hk : HitAt its e k) (hx : its[k]? = some x) :
    Calls Try.prog 44 #[.pointer (some ⟨p, 0, none⟩), e.v, .int .i64 31, .int .i64 0] w fun r w' => r = .returned (.tuple #[x.v, .bool true]) ∧ ∃ iv', NodeAt w' p iv' cv (ptr c) (its.eraseIdx k) [] ∧ Stp (nodeF p iv cv) w w' (nodeF p iv' cv) := by
  obtain ⟨ca, cc, hcv⟩ : ∃ a cc, cv = .slice a 0 cc := hN.cform
  subst hcv
  obtain ⟨W, hW, ⟨hbox, hzero⟩, hchg⟩ : ∃ W, W = (w.alloc (Obj.cells #[Value.string e.key, Value.int IntKind.u64 e.ver, Value.slice e.va e.vn e.vc] 33)).alloc (Obj.cells #[Value.string { data := #[] }, Value.int IntKind.u64 0, Value.slice none 0 0] 33) ∧
      (W.heap[w.heap.size]? = some (.cells #[Value.string e.key, Value.int IntKind.u64 e.ver, Value.slice e.va e.vn e.vc] 33 (0, 0)) ∧
      W.heap[w.heap.size + 1]? = some (.cells #[Value.string { data := #[] }, Value.int IntKind.u64 0, Value.slice none 0 0] 33 (0, 0))) ∧ Chg0 w W :=
    ⟨_, rfl, two_boxes w _ _ _ _, ((Chg.refl _ w).alloc _).alloc _⟩
  have hNW := hchg.node hN (fun _ _ => rfl)
  have HB0 : Hid (∀ j, nodeF p iv (.slice ca 0 cc) (w.heap.size + j) = 0) := fun j => by
    have h1 : ¬ 1 ≤ nodeF p iv (.slice ca 0 cc) (w.heap.size + j) := fun h => by have := hN.lt h; omega
    show nodeF p iv (.slice ca 0 cc) (w.heap.size + j) = 0
    omega
  have hchgW := hide hchg
  have hcowW := hchg.blk hcow
  have c0 : W.cell? ⟨p, 0, none⟩ = some iv := cell_blk hNW.blk 0
  have c2 : W.cell? ⟨p, 2, none⟩ = some (.pointer (some ⟨c, 0, none⟩)) := cell_blk hNW.blk 2
  have l1 : W.cell? ⟨c, 1, none⟩ = some (.func (.func 29) #[] #[]) := cell_blk hcowW 1
  obtain ⟨b0, b1, b2⟩ := box_cells hbox
  have Hn := hide hn
  have Hs := hide hs
  have Hk := hide hk
  have Hx := hide hx
  clear hN hn hchg hs hk hx hcow hcowW
  unfold Ent.v
  go_enter Try.func44, Try.ntmps44
  go_wp2
  rw [← hW]
  clear hW
  generalize hbb : w.heap.size = b at *
  have Hb := hide hbb
  clear hbb
  go_region_held3 (fun w' => w'.cell? ⟨p, 0, none⟩ = some iv ∧ w'.cell? ⟨p, 2, none⟩ = some (.pointer (some ⟨c, 0, none⟩)) ∧ w'.cell? ⟨c, 1, none⟩ = some (.func (.func 29) #[] #[]) ∧ w'.cell? ⟨b, 0, none⟩ = some (.string e.key) ∧ w'.cell? ⟨b, 1, none⟩ = some (.int .u64 e.ver) ∧ w'.cell? ⟨b, 2, none⟩ = some (.slice e.va e.vn e.vc))
    (first | exact ⟨c0, c2, l1, b0, b1, b2⟩ | exact ⟨Chg0.cell hc c0, Chg0.cell hc c2, Chg0.cell hc l1, Chg0.cell hc b0, Chg0.cell hc b1, Chg0.cell hc b2⟩)
    ((go_at_call 43; refine (find_hit hNW.drew.ri Hs.out (by have := Hn.out; omega) e Hk.out).mono ?_; rintro _ w1 ⟨rfl, hc⟩))
  have hc' : Chg0 W w1 := ((Chg.refl (fun _ => 0) W).drew).trans hc
  have hN1 := hc'.node hNW (fun _ _ => rfl)
  have hzero1 := hc'.blk hzero
  have hch1 := hide (hchgW.out.trans hc')
  clear hc hc' c0 c2 l1 b0 b1 b2 hNW hzero hbox hchgW
  have c1 : w1.cell? ⟨p, 1, none⟩ = some (.slice ca 0 cc) := cell_blk hN1.blk 1
  go_wp2_with (fail)
  refine (removeAt3 hN1 k x Hx.out (by have := Hn.out; omega)).mono ?_
  rintro _ w6 ⟨rfl, iv6, hN6, hT⟩
  unfold Ent.v
  have hz6 := hT.blk hzero1 (HB0.out 1)
  have hz := hT.zero hzero1 (HB0.out 1)
  clear c1
  obtain ⟨z0, z1, z2⟩ := box_cells hz6
  have y0 := frozen_blk hz6 0
  have y1 := frozen_blk hz6 1
  have y2 := frozen_blk hz6 2
  go_wp2
  have r0 := boxPut_at x hz6
  refine bodyPost_ret (v := .tuple #[x.v, .bool true]) (by
    have r1 := cell_blk r0 0
    have r2 := cell_blk r0 1
    have r3 := cell_blk r0 2
    unfold boxPut at r1 r2 r3
    simp [results, Try.results44, go_sem, r1, r2, r3, Ent.v, ptr]) rfl ?_
  exact ⟨rfl, iv6, hN6.boxPut (b := b + 1) hz x, (hT.pre hch1.out).boxPut (b := b + 1) (by rw [Hb.out]; omega) x⟩

set_option maxRecDepth 100000 in
set_option maxHeartbeats 1000000 in
theorem rem_leaf_miss {w : World} {p c f k : Nat} {iv cv : Value} {its : List Ent} {e : Ent} (hN : NodeAt w p iv cv (ptr c) its []) (hcow : w.heap[c]? = some (.cells #[ptr f, lessV] 115 (0, 0)))
    (hs : Asc its) (hn : its.length ≤ 1000) (hk : MissAt its e k) :
    Calls Try.prog 44 #[.pointer (some ⟨p, 0, none⟩), e.v, .int .i64 31, .int .i64 0] w fun r w' => r = .returned (.tuple #[ent0.v, .bool false]) ∧ Chg0 w w' := by
  obtain ⟨ca, cc, hcv⟩ : ∃ a cc, cv = .slice a 0 cc := hN.cform
  subst hcv
  obtain ⟨W, hW, ⟨hbox, hzero⟩, hchg⟩ : ∃ W, W = (w.alloc (Obj.cells #[Value.string e.key, Value.int IntKind.u64 e.ver, Value.slice e.va e.vn e.vc] 33)).alloc (Obj.cells #[Value.string { data := #[] }, Value.int IntKind.u64 0, Value.slice none 0 0] 33) ∧
      (W.heap[w.heap.size]? = some (.cells #[Value.string e.key, Value.int IntKind.u64 e.ver, Value.slice e.va e.vn e.vc] 33 (0, 0)) ∧
      W.heap[w.heap.size + 1]? = some (.cells #[Value.string { data := #[] }, Value.int IntKind.u64 0, Value.slice none 0 0] 33 (0, 0))) ∧ Chg0 w W :=
    ⟨_, rfl, two_boxes w _ _ _ _, ((Chg.refl _ w).alloc _).alloc _⟩
  have hNW := hchg.node hN (fun _ _ => rfl)
  have HB0 : Hid (∀ j, nodeF p iv (.slice ca 0 cc) (w.heap.size + j) = 0) := fun j => by
    have h1 : ¬ 1 ≤ nodeF p iv (.slice ca 0 cc) (w.heap.size + j) := fun h => by have := hN.lt h; omega
    show nodeF p iv (.slice ca 0 cc) (w.heap.size + j) = 0
    omega
  have hchgW := hide hchg
  have hcowW := hchg.blk hcow
  have c0 : W.cell? ⟨p, 0, none⟩ = some iv := cell_blk hNW.blk 0
  have c2 : W.cell? ⟨p, 2, none⟩ = some (.pointer (some ⟨c, 0, none⟩)) := cell_blk hNW.blk 2
  have l1 : W.cell? ⟨c, 1, none⟩ = some (.func (.func 29) #[] #[]) := cell_blk hcowW 1
  obtain ⟨b0, b1, b2⟩ := box_cells hbox
  have Hn := hide hn
  have Hs := hide hs
  have Hk := hide hk
  clear hN hn hchg hs hk hcow hcowW HB0
  unfold Ent.v
  go_enter Try.func44, Try.ntmps44
  go_wp2
  rw [← hW]
  clear hW
  generalize w.heap.size = b at *
  go_region_held3 (fun w' => w'.cell? ⟨p, 0, none⟩ = some iv ∧ w'.cell? ⟨p, 2, none⟩ = some (.pointer (some ⟨c, 0, none⟩)) ∧ w'.cell? ⟨c, 1, none⟩ = some (.func (.func 29) #[] #[]) ∧ w'.cell? ⟨b, 0, none⟩ = some (.string e.key) ∧ w'.cell? ⟨b, 1, none⟩ = some (.int .u64 e.ver) ∧ w'.cell? ⟨b, 2, none⟩ = some (.slice e.va e.vn e.vc))
    (first | exact ⟨c0, c2, l1, b0, b1, b2⟩ | exact ⟨Chg0.cell hc c0, Chg0.cell hc c2, Chg0.cell hc l1, Chg0.cell hc b0, Chg0.cell hc b1, Chg0.cell hc b2⟩)
    ((go_at_call 43; refine (find_miss hNW.drew.ri Hs.out (by have := Hn.out; omega) e Hk.out).mono ?_; rintro _ w1 ⟨rfl, hc⟩))
  have hc' : Chg0 W w1 := ((Chg.refl (fun _ => 0) W).drew).trans hc
  have hN1 := hc'.node hNW (fun _ _ => rfl)
  obtain ⟨z0, z1, z2⟩ := box_cells (hc'.blk hzero)
  have hch1 := hide (hchgW.out.trans hc')
  clear hc hc' c0 c2 l1 b0 b1 b2 hNW hzero hbox hchgW
  have c1 : w1.cell? ⟨p, 1, none⟩ = some (.slice ca 0 cc) := cell_blk hN1.blk 1
  go_wp2
  refine bodyPost_ret (v := .tuple #[ent0.v, .bool false]) (by simp [results, Try.results44, go_sem, z0, z1, z2, Ent.v, ent0]) rfl ?_
  exact ⟨rfl, hch1.out⟩

end Go.Proofs.Qxb6603483a
