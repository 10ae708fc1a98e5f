/-
  insert into a leaf.
-/
import Derived.Test.Qxb6603483aFindAt
import Derived.Test.Qxb6603483aSplitT
namespace Go.Proofs.Qxb6603483a
open Go.RowKit
set_option linter.unusedSimpArgs false
attribute [local go_sem ↓] Go.wp_at_zero Go.wp_at_succ

set_option maxRecDepth 100000 in
set_option maxHeartbeats 1000000 in
theorem insert_leaf {w : World} {p c f k : Nat} {iv cv : Value} {its : List Ent} {e : Ent} (hN : NodeAt w p iv cv (ptr c) its []) (hcow : w.heap[c]? = some (.cells #[ptr f, lessV] 115 (0, 0))) (hc0 : nodeF p iv cv c = 0)
    (hs : Asc its) (hn : its.length ≤ 1000) (hk : MissAt its e k) :
    Calls Try.prog 42 #[.pointer (some ⟨p, 0, none⟩), e.v, .int .i64 63] w fun r w' => r = .returned (.tuple #[ent0.v, .bool false]) ∧ ∃ iv', NodeAt w' p iv' cv (ptr c) (its.take k ++ e :: its.drop k) [] ∧ Stp (nodeF p iv cv) w w' (nodeF p iv' cv) := by
  have hkl : k ≤ its.length := by obtain ⟨A, B, rfl, _, _, rfl⟩ := hk; simp
  obtain ⟨ca, cc, hcv⟩ : ∃ a cc, cv = .slice a 0 cc := hN.cform
  subst hcv
  obtain ⟨W, hW, ⟨hbox, hzero⟩, hchg⟩ : ∃ W, W = (w.alloc (Obj.cells #[Value.string e.key, Value.int IntKind.u64 e.ver, Value.slice e.va e.vn e.vc] 33)).alloc (Obj.cells #[Value.string { data := #[] }, Value.int IntKind.u64 0, Value.slice none 0 0] 33) ∧
      (W.heap[w.heap.size]? = some (.cells #[Value.string e.key, Value.int IntKind.u64 e.ver, Value.slice e.va e.vn e.vc] 33 (0, 0)) ∧
      W.heap[w.heap.size + 1]? = some (.cells #[Value.string { data := #[] }, Value.int IntKind.u64 0, Value.slice none 0 0] 33 (0, 0))) ∧ Chg0 w W :=
    ⟨_, rfl, two_boxes w _ _ _ _, ((Chg.refl _ w).alloc _).alloc _⟩
  have hNW := hchg.node hN (fun _ _ => rfl)
  have hcowW := hchg.blk hcow
  have c0 : W.cell? ⟨p, 0, none⟩ = some iv := cell_blk hNW.blk 0
  have c2 : W.cell? ⟨p, 2, none⟩ = some (.pointer (some ⟨c, 0, none⟩)) := cell_blk hNW.blk 2
  have l1 : W.cell? ⟨c, 1, none⟩ = some lessV := cell_blk hcowW 1
  have b0 : W.cell? ⟨w.heap.size, 0, none⟩ = some (.string e.key) := cell_blk hbox 0
  have b1 : W.cell? ⟨w.heap.size, 1, none⟩ = some (.int .u64 e.ver) := cell_blk hbox 1
  have b2 : W.cell? ⟨w.heap.size, 2, none⟩ = some (.slice e.va e.vn e.vc) := cell_blk hbox 2
  have hB : ∀ j, nodeF p iv (.slice ca 0 cc) (w.heap.size + j) = 0 := fun j => by
    have h1 : ¬ 1 ≤ nodeF p iv (.slice ca 0 cc) (w.heap.size + j) := fun h => by have := hN.lt h; omega
    omega
  have Hs := hide hs
  have Hn := hide hn
  have Hk := hide hk
  have Hkl := hide hkl
  have HB := hide hB
  have Hbl : Hid (w.heap.size + 2 ≤ W.heap.size) := by
    show _ ≤ _
    have := (Array.getElem?_eq_some_iff.1 hzero).1
    omega
  have hWb : Hid (W = _) := hide hW
  have hchgW := hide hchg
  clear hs hn hk hkl hB hN hcow hchg
  unfold Ent.v
  unfold lessV at l1
  go_enter Try.func42, Try.ntmps42
  go_wp2
  rw [← hW]
  clear hW
  generalize hb : w.heap.size = b at *
  have Hb := hide hb
  clear hb
  go_region_held3 (fun w' => w'.cell? ⟨p, 0, none⟩ = some iv ∧ w'.cell? ⟨p, 2, none⟩ = some (.pointer (some ⟨c, 0, none⟩)) ∧ w'.cell? ⟨c, 1, none⟩ = some (.func (.func 29) #[] #[]) ∧ w'.cell? ⟨b, 0, none⟩ = some (.string e.key) ∧ w'.cell? ⟨b, 1, none⟩ = some (.int .u64 e.ver) ∧ w'.cell? ⟨b, 2, none⟩ = some (.slice e.va e.vn e.vc))
    (first | exact ⟨c0, c2, l1, b0, b1, b2⟩ | exact ⟨Chg0.cell hc c0, Chg0.cell hc c2, Chg0.cell hc l1, Chg0.cell hc b0, Chg0.cell hc b1, Chg0.cell hc b2⟩)
    ((go_at_call 43; refine (find_miss hNW.drew.ri Hs.out (by have := Hn.out; omega) e Hk.out).mono ?_; rintro _ w1 ⟨rfl, hc⟩))
  have hc' : Chg0 W w1 := ((Chg.refl (fun _ => 0) W).drew).trans hc
  have hN1 := hc'.node hNW (fun _ _ => rfl)
  have hbox1 := hc'.blk hbox
  have hzero1 := hc'.blk hzero
  have Hch1 := hide (hchgW.out.trans hc')
  clear hc hc' hNW hbox hzero c0 c2 l1 b0 b1 b2 hWb hcowW
  have c1 : w1.cell? ⟨p, 1, none⟩ = some (.slice ca 0 cc) := cell_blk hN1.blk 1
  go_wp2
  go_region_held3 (fun w' => w'.cell? ⟨b, 0, none⟩ = some (.string e.key) ∧ w'.cell? ⟨b, 1, none⟩ = some (.int .u64 e.ver) ∧ w'.cell? ⟨b, 2, none⟩ = some (.slice e.va e.vn e.vc))
    (first | exact box_cells hbox1 | exact box_cells (hS4.blk hbox1 (HB.out 0)))
    ((go_at_call 50; refine (insertAt3 hN1.drew k Hkl.out (by have := Hn.out; omega) e).mono ?_; rintro _ w4 ⟨rfl, iv4, hN4, hS4⟩))
  have hS4' := hS4.predrew
  have hz4 := hS4'.blk hzero1 (HB.out 1)
  have z0 : w4.cell? ⟨b + 1, 0, none⟩ = some (.string ⟨#[]⟩) := cell_blk hz4 0
  have z1 : w4.cell? ⟨b + 1, 1, none⟩ = some (.int .u64 0) := cell_blk hz4 1
  have z2 : w4.cell? ⟨b + 1, 2, none⟩ = some (.slice none 0 0) := cell_blk hz4 2
  go_wp2
  refine bodyPost_ret (v := .tuple #[ent0.v, .bool false]) (by simp [results, Try.results42, go_sem, z0, z1, z2, Ent.v, ent0]) rfl ?_
  exact ⟨rfl, iv4, hN4, hS4'.pre Hch1.out⟩

end Go.Proofs.Qxb6603483a
