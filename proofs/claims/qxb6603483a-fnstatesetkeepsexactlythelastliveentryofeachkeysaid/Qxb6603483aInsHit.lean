/-
  insert where the key is there.
-/
import Derived.Test.Qxb6603483aFindAt
import Derived.Test.Qxb6603483aSplitT
namespace Go.Proofs.Qxb6603483a
open Go.RowKit
set_option linter.unusedSimpArgs false
attribute [local go_sem ↓] Go.wp_at_zero Go.wp_at_succ

set_option maxRecDepth 100000 in
set_option maxHeartbeats 1000000 in
theorem insert_hit {w : World} {p c f k : Nat} {iv cv : Value} {its : List Ent} {cps : List Value} {e : Ent} (hN : NodeAt w p iv cv (ptr c) its cps) (hcow : w.heap[c]? = some (.cells #[ptr f, lessV] 115 (0, 0))) (hc0 : nodeF p iv cv c = 0)
    (hs : Asc its) (hn : its.length ≤ 1000) (hk : HitAt its e k) :
    Calls Try.prog 42 #[.pointer (some ⟨p, 0, none⟩), e.v, .int .i64 63] w fun r w' => ∃ old : Ent, r = .returned (.tuple #[old.v, .bool true]) ∧ NodeAt w' p iv cv (ptr c) (its.set k e) cps ∧ Stp (nodeF p iv cv) w w' (nodeF p iv cv) := by
  have hkl : k < its.length := by obtain ⟨A, x, B, rfl, _, rfl⟩ := hk; simp
  obtain ⟨n, hnl⟩ : ∃ n, n = its.length := ⟨_, rfl⟩
  obtain ⟨g, cap, hiv⟩ : ∃ g cap, iv = .slice (some ⟨g, 0, none⟩) n cap := by
    rcases hN.ri.form with ⟨_, h1⟩ | ⟨g, cap, h1⟩
    · rw [h1] at hkl; simp at hkl
    · exact ⟨g, cap, by rw [h1, hnl]⟩
  subst hiv
  have hpg : p ≠ g := fun e => by have := hN.uniq p; rw [one_self, ob_slice, e, one_self] at this; omega
  have hix : ∀ w', (Instr.indexAt 102 (.slice (some ⟨g, 0, none⟩) n cap) (.int .i64 (k : Int))).run Try.prog w' = .ok (.pointer (some ⟨g, k * 3, none⟩)) w' :=
    fun w' => run_ix (P := Try.prog) 102 3 g n cap k (k : Int) rfl (by omega) Try.underlying102 (fun _ => by kernel_rfl) w'
  have hgl : g < w.heap.size := hN.ri.lt (by rw [ob_slice, one_self]; omega)
  obtain ⟨W, hW, ⟨hbox, hzero⟩, hchg⟩ : ∃ W, W = (w.alloc (Obj.cells #[Value.string e.key, Value.int IntKind.u64 e.ver, Value.slice e.va e.vn e.vc] 33)).alloc (Obj.cells #[Value.string { data := #[] }, Value.int IntKind.u64 0, Value.slice none 0 0] 33) ∧
      (W.heap[w.heap.size]? = some (.cells #[Value.string e.key, Value.int IntKind.u64 e.ver, Value.slice e.va e.vn e.vc] 33 (0, 0)) ∧
      W.heap[w.heap.size + 1]? = some (.cells #[Value.string { data := #[] }, Value.int IntKind.u64 0, Value.slice none 0 0] 33 (0, 0))) ∧ Chg0 w W :=
    ⟨_, rfl, two_boxes w _ _ _ _, ((Chg.refl _ w).alloc _).alloc _⟩
  have hNW := hchg.node hN (fun _ _ => rfl)
  have hcowW := hchg.blk hcow
  have c0 : W.cell? ⟨p, 0, none⟩ = some (.slice (some ⟨g, 0, none⟩) n cap) := cell_blk hNW.blk 0
  have c2 : W.cell? ⟨p, 2, none⟩ = some (.pointer (some ⟨c, 0, none⟩)) := cell_blk hNW.blk 2
  have l1 : W.cell? ⟨c, 1, none⟩ = some lessV := cell_blk hcowW 1
  have b0 : W.cell? ⟨w.heap.size, 0, none⟩ = some (.string e.key) := cell_blk hbox 0
  have b1 : W.cell? ⟨w.heap.size, 1, none⟩ = some (.int .u64 e.ver) := cell_blk hbox 1
  have b2 : W.cell? ⟨w.heap.size, 2, none⟩ = some (.slice e.va e.vn e.vc) := cell_blk hbox 2
  have hBp : ∀ j, w.heap.size + j ≠ p := fun j => by have := hN.pl; omega
  have hBg : ∀ j, w.heap.size + j ≠ g := fun j => by omega
  have hB : ∀ j, nodeF p (.slice (some ⟨g, 0, none⟩) n cap) cv (w.heap.size + j) = 0 := fun j => by
    have h1 : ¬ 1 ≤ nodeF p (.slice (some ⟨g, 0, none⟩) n cap) cv (w.heap.size + j) := fun h => by have := hN.lt h; omega
    omega
  have Hs := hide hs
  have Hn := hide hn
  have Hk := hide hk
  have Hkl := hide hkl
  have Hnl := hide hnl
  have HB := hide hB
  have hg0 := hBg 0
  have hg1 := hBg 1
  rw [Nat.add_zero] at hg0
  have Hbl : Hid (w.heap.size + 2 ≤ W.heap.size) := by
    show _ ≤ _
    have := (Array.getElem?_eq_some_iff.1 hzero).1
    omega
  have hWb : Hid (W = _) := hide hW
  have hchgW := hide hchg
  clear hs hn hk hkl hnl hB hN hcow hgl hBp hBg hchg
  unfold Ent.v
  unfold lessV at l1
  go_enter Try.func42, Try.ntmps42
  go_wp2
  rw [← hW]
  clear hW
  generalize hb : w.heap.size = b at *
  have Hb := hide hb
  clear hb
  go_region_held3 (fun w' => w'.cell? ⟨p, 0, none⟩ = some (.slice (some ⟨g, 0, none⟩) n cap) ∧ w'.cell? ⟨p, 2, none⟩ = some (.pointer (some ⟨c, 0, none⟩)) ∧ w'.cell? ⟨c, 1, none⟩ = some (.func (.func 29) #[] #[]) ∧ w'.cell? ⟨b, 0, none⟩ = some (.string e.key) ∧ w'.cell? ⟨b, 1, none⟩ = some (.int .u64 e.ver) ∧ w'.cell? ⟨b, 2, none⟩ = some (.slice e.va e.vn e.vc))
    (first | exact ⟨c0, c2, l1, b0, b1, b2⟩ | exact ⟨Chg0.cell hc c0, Chg0.cell hc c2, Chg0.cell hc l1, Chg0.cell hc b0, Chg0.cell hc b1, Chg0.cell hc b2⟩)
    ((go_at_call 43; refine (find_hit hNW.drew.ri Hs.out (by have := Hn.out; omega) e Hk.out).mono ?_; rintro _ w1 ⟨rfl, hc⟩))
  have hc' : Chg0 W w1 := ((Chg.refl (fun _ => 0) W).drew).trans hc
  have hN1 := hc'.node hNW (fun _ _ => rfl)
  have hbox1 := hc'.blk hbox
  have hzero1 := hc'.blk hzero
  have Hch1 := hide (hchgW.out.trans hc')
  clear hc hc' hNW hbox hzero c0 c2 l1 b0 b1 b2 hWb hcowW
  obtain ⟨sp, hrow⟩ := hN1.ri.blkOf
  have hx : its[k]? = some its[k] := List.getElem?_eq_getElem Hkl.out
  obtain ⟨t0, t1, t2⟩ := ent_at hrow hx
  generalize its[k] = x at hx t0 t1 t2
  have Hx := hide hx
  clear hx
  have c0 : w1.cell? ⟨p, 0, none⟩ = some (.slice (some ⟨g, 0, none⟩) n cap) := cell_blk hN1.blk 0
  go_wp2
  obtain ⟨w2, hw2, hbx, hch2⟩ : ∃ w2, w2 = w1.alloc (Obj.cells #[Value.string x.key, Value.int IntKind.u64 x.ver, Value.slice x.va x.vn x.vc] 33) ∧
      w2.heap[w1.heap.size]? = some (.cells #[Value.string x.key, Value.int IntKind.u64 x.ver, Value.slice x.va x.vn x.vc] 33 (0, 0)) ∧ Chg0 w1 w2 := ⟨_, rfl, (MapKept.heap_alloc w1 _).1, (Chg.refl _ w1).alloc _⟩
  rw [← hw2]
  have hN2 := hch2.node hN1 (fun _ _ => rfl)
  have hbox2 := hch2.blk hbox1
  have hzero2 := hch2.blk hzero1
  have hgd : w1.heap.size ≠ g := by have := hN1.ri.lt (k := g) (by rw [ob_slice, one_self]; omega); omega
  have Hch2 := hide (Hch1.out.trans hch2)
  have hzd : w1.heap.size ≠ b + 1 := by have := (Array.getElem?_eq_some_iff.1 hzero1).1; omega
  clear hw2 hN1 hbox1 hzero1 t0 t1 t2 hrow c0 Hch1 hch2
  generalize w1.heap.size = d at *
  obtain ⟨sp, hrow⟩ := hN2.ri.blkOf
  obtain ⟨t0, t1, t2⟩ := ent_at hrow Hx.out
  have g0 := frozen_blk hrow (k * 3)
  have g1 := frozen_blk hrow (k * 3 + 1)
  have g2 := frozen_blk hrow (k * 3 + 2)
  have c0 : w2.cell? ⟨p, 0, none⟩ = some (.slice (some ⟨g, 0, none⟩) n cap) := cell_blk hN2.blk 0
  have b0 : w2.cell? ⟨b, 0, none⟩ = some (.string e.key) := cell_blk hbox2 0
  have b1 : w2.cell? ⟨b, 1, none⟩ = some (.int .u64 e.ver) := cell_blk hbox2 1
  have b2 : w2.cell? ⟨b, 2, none⟩ = some (.slice e.va e.vn e.vc) := cell_blk hbox2 2
  clear hrow
  go_region_held3 (fun w' => w'.cell? ⟨p, 0, none⟩ = some (.slice (some ⟨g, 0, none⟩) n cap) ∧ w'.cell? ⟨b, 0, none⟩ = some (.string e.key) ∧ w'.cell? ⟨b, 1, none⟩ = some (.int .u64 e.ver) ∧ w'.cell? ⟨b, 2, none⟩ = some (.slice e.va e.vn e.vc))
    (first | exact ⟨c0, b0, b1, b2⟩ | exact ⟨(kept3 hpg).trans c0, (kept3 hg0).trans b0, (kept3 hg0).trans b1, (kept3 hg0).trans b2⟩) (fail)
  obtain ⟨r1, r2, r3⟩ := store3 hN2 k Hkl.out e
  obtain ⟨w3, hw3, hN3, hS3, hbx3, hz3⟩ : ∃ w3, w3 = (((w2.setCell ⟨g, k * 3, none⟩ (.string e.key)).setCell ⟨g, k * 3 + 1, none⟩ (.int .u64 e.ver)).setCell ⟨g, k * 3 + 2, none⟩ (.slice e.va e.vn e.vc)).drew ∧ NodeAt w3 p (.slice (some ⟨g, 0, none⟩) n cap) cv (ptr c) (its.set k e) cps ∧
      Stp (nodeF p (.slice (some ⟨g, 0, none⟩) n cap) cv) w2 w3 (nodeF p (.slice (some ⟨g, 0, none⟩) n cap) cv) ∧ w3.heap[d]? = some (.cells #[Value.string x.key, Value.int IntKind.u64 x.ver, Value.slice x.va x.vn x.vc] 33 (0, 0)) ∧
      w3.heap[b + 1]? = some (.cells #[Value.string { data := #[] }, Value.int IntKind.u64 0, Value.slice none 0 0] 33 (0, 0)) :=
    ⟨_, rfl, r1.drew, r2.drew, (r3.same d (Array.getElem?_eq_some_iff.1 hbx).1 (one_other hgd)).trans hbx, (r3.same (b + 1) (Array.getElem?_eq_some_iff.1 hzero2).1 (one_other hg1)).trans hzero2⟩
  rw [← hw3]
  clear hw3 r1 r2 r3 c0 b0 b1 b2 t0 t1 t2 g0 g1 g2 hN2 hbox2 hbx hzero2
  have d0 : w3.cell? ⟨d, 0, none⟩ = some (.string x.key) := cell_blk hbx3 0
  have d1 : w3.cell? ⟨d, 1, none⟩ = some (.int .u64 x.ver) := cell_blk hbx3 1
  have d2 : w3.cell? ⟨d, 2, none⟩ = some (.slice x.va x.vn x.vc) := cell_blk hbx3 2
  have z0 : w3.cell? ⟨b + 1, 0, none⟩ = some (.string ⟨#[]⟩) := cell_blk hz3 0
  have z1 : w3.cell? ⟨b + 1, 1, none⟩ = some (.int .u64 0) := cell_blk hz3 1
  have z2 : w3.cell? ⟨b + 1, 2, none⟩ = some (.slice none 0 0) := cell_blk hz3 2
  have y0 : w3.frozen? ⟨b + 1, 0, none⟩ = false := frozen_blk hz3 0
  have y1 : w3.frozen? ⟨b + 1, 1, none⟩ = false := frozen_blk hz3 1
  have y2 : w3.frozen? ⟨b + 1, 2, none⟩ = false := frozen_blk hz3 2
  go_wp2
  have r0 := boxPut_at x hz3
  refine bodyPost_ret (v := .tuple #[x.v, .bool true]) (by
    have r1 := cell_blk r0 0
    have r2 := cell_blk r0 1
    have r3 := cell_blk r0 2
    unfold boxPut at r1 r2 r3
    simp [results, Try.results42, go_sem, r1, r2, r3, Ent.v, ptr]) rfl ?_
  exact ⟨x, rfl, hN3.boxPut (b := b + 1) (HB.out 1) x, (hS3.pre Hch2.out).boxPut (b := b + 1) (by rw [Hb.out]; omega) x⟩

end Go.Proofs.Qxb6603483a
