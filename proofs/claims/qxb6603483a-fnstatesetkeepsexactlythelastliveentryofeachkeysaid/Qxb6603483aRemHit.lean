/-
  remove by key in an inner node whose child can spare an item: the key in the node itself.
-/
import Derived.Test.Qxb6603483aRemBig
namespace Go.Proofs.Qxb6603483a
open Go.RowKit
set_option linter.unusedSimpArgs false
attribute [local go_sem ↓] Go.wp_at_zero Go.wp_at_succ

set_option maxRecDepth 100000 in
set_option maxHeartbeats 4000000 in
theorem rem_hit_big {h : Nat} (IH : RemM h) {w : World} {c p : Nat} {iv cv : Value} {A B : List Ent} {x : Ent} {S : List Sub} {t : Sub} {T : List Sub} {G : Nat → Nat} {e : Ent} (M : Mid w c h p iv cv A (x :: B) S t T G) (ht : 32 ≤ t.n) (hn : (A ++ x :: B).length ≤ 1000)
    (hs : Asc (weave (A ++ x :: B) (S ++ t :: T))) (hA : x.key = e.key) :
    Calls Try.prog 44 #[.pointer (some ⟨p, 0, none⟩), e.v, .int .i64 31, .int .i64 0] w fun r w' => RemLeft w w' c (h + 1) p (A ++ x :: B).length (A ++ x :: B).length (midF p iv cv S t T G) (fun xs _ => xs = del e.key (weave (A ++ x :: B) (S ++ t :: T))) r := by
  have hk : HitAt (A ++ x :: B) e S.length := ⟨A, x, B, rfl, hA, M.sl⟩
  have hsi : Asc (A ++ x :: B) := hs.sub (sub_weave _ _)
  have hB : True := trivial
  obtain ⟨n, hnl⟩ : ∃ n, n = (A ++ x :: B).length := ⟨_, rfl⟩
  obtain ⟨g, cap, hiv⟩ : ∃ g cap, iv = .slice (some ⟨g, 0, none⟩) n cap := by
    rcases M.node.ri.form with ⟨_, h1⟩ | ⟨g, cap, h1⟩
    · simp at h1
    · exact ⟨g, cap, by rw [h1, hnl]⟩
  subst hiv
  have hpg : p ≠ g := fun e => by have := M.node.uniq p; rw [one_self, ob_slice, e, one_self] at this; omega
  have hSn : S.length < n := by rw [hnl, M.sl]; simp
  have hiy : Hid (∀ w', (Instr.indexAt 102 (.slice (some ⟨g, 0, none⟩) n cap) (.int .i64 (S.length : Int))).run Try.prog w' = .ok (.pointer (some ⟨g, S.length * 3, none⟩)) w') :=
    fun w' => run_ix (P := Try.prog) 102 3 g n cap S.length (S.length : Int) rfl hSn Try.underlying102 (fun _ => by kernel_rfl) w'
  have Hnl := hide hnl
  clear hnl hSn
  obtain ⟨k, hkS⟩ : ∃ k, k = S.length := ⟨_, rfl⟩
  rw [← hkS] at hk
  obtain ⟨m, hml⟩ : ∃ m, m = (kids (S ++ t :: T)).length := ⟨_, rfl⟩
  have hkl := kids_length (S ++ t :: T)
  have hsl := M.sl
  have htl := M.tl
  obtain ⟨gc, cc, hcv⟩ : ∃ gc cc, cv = .slice (some ⟨gc, 0, none⟩) m cc := by
    rcases M.node.rc.form with ⟨_, h1⟩ | ⟨gc, cc, h1⟩
    · rw [h1] at hkl; simp at hkl
    · exact ⟨gc, cc, by rw [h1, hml]⟩
  subst hcv
  have hmk : k < m := by rw [hml, hkl, hkS]; simp
  have hm1 : (m : Int) ≠ 0 := by omega
  have hm2 : ((m : Int) == 0) = false := by simpa using hm1
  have hk1 : (k : Int) ≤ 1000 := by rw [hkS, hsl]; simp at hn; omega
  have hix : ∀ w', (Instr.indexAt 104 (.slice (some ⟨gc, 0, none⟩) m cc) (.int .i64 (k : Int))).run Try.prog w' = .ok (.pointer (some ⟨gc, k, none⟩)) w' :=
    fun w' => by have := run_ix (P := Try.prog) 104 1 gc m cc k (k : Int) rfl (by omega) Try.underlying104 (fun _ => by kernel_rfl) w'; rw [Nat.mul_one] at this; exact this
  obtain ⟨f, hcow, _⟩ := M.pool.cow
  obtain ⟨W, hW, ⟨hbox, hzero⟩, hchg⟩ : ∃ W, W = (w.alloc (Obj.cells #[Value.string e.key, Value.int IntKind.u64 e.ver, Value.slice e.va e.vn e.vc] 33)).alloc (Obj.cells #[Value.string { data := #[] }, Value.int IntKind.u64 0, Value.slice none 0 0] 33) ∧
      (W.heap[w.heap.size]? = some (.cells #[Value.string e.key, Value.int IntKind.u64 e.ver, Value.slice e.va e.vn e.vc] 33 (0, 0)) ∧
      W.heap[w.heap.size + 1]? = some (.cells #[Value.string { data := #[] }, Value.int IntKind.u64 0, Value.slice none 0 0] 33 (0, 0))) ∧ Chg0 w W :=
    ⟨_, rfl, two_boxes w _ _ _ _, ((Chg.refl _ w).alloc _).alloc _⟩
  have MW := M.grew hchg
  have HB0 : Hid (∀ j, midF p (.slice (some ⟨g, 0, none⟩) n cap) (.slice (some ⟨gc, 0, none⟩) m cc) S t T G (w.heap.size + j) = 0) := fun j => M.zero (by omega)
  have hkat := kids_at S t T
  rw [← hkS] at hkat
  have hcowW := hchg.blk hcow
  have c0 : W.cell? ⟨p, 0, none⟩ = some (.slice (some ⟨g, 0, none⟩) n cap) := cell_blk MW.node.blk 0
  have c2 : W.cell? ⟨p, 2, none⟩ = some (.pointer (some ⟨c, 0, none⟩)) := cell_blk MW.node.blk 2
  have l1 : W.cell? ⟨c, 1, none⟩ = some (.func (.func 29) #[] #[]) := cell_blk hcowW 1
  obtain ⟨b0, b1, b2⟩ := box_cells hbox
  have ht' : ¬ (t.n : Int) ≤ 31 := by omega
  have Hkat := hide hkat
  have HkS := hide hkS
  have Hsl := hide hsl
  have Ht := hide ht
  have HIH := hide IH
  have hchgW := hide hchg
  have Hs := hide hs
  have Hsi := hide hsi
  have Hn := hide hn
  have Hk := hide hk
  have HA := hide hA
  have HB := hide hB
  clear hkat hkS hsl ht IH hchg M hml hkl hmk hn hs hsi hk hA hB htl hcow hcowW
  unfold Ent.v
  go_enter Try.func44, Try.ntmps44
  go_wp2
  rw [← hW]
  clear hW
  generalize hbb : w.heap.size = b at *
  have Hb := hide hbb
  clear hbb
  go_region_held3 (fun w' => w'.cell? ⟨p, 0, none⟩ = some (.slice (some ⟨g, 0, none⟩) n cap) ∧ w'.cell? ⟨p, 2, none⟩ = some (.pointer (some ⟨c, 0, none⟩)) ∧ w'.cell? ⟨c, 1, none⟩ = some (.func (.func 29) #[] #[]) ∧ w'.cell? ⟨b, 0, none⟩ = some (.string e.key) ∧ w'.cell? ⟨b, 1, none⟩ = some (.int .u64 e.ver) ∧ w'.cell? ⟨b, 2, none⟩ = some (.slice e.va e.vn e.vc))
    (first | exact ⟨c0, c2, l1, b0, b1, b2⟩ | exact ⟨Chg0.cell hc c0, Chg0.cell hc c2, Chg0.cell hc l1, Chg0.cell hc b0, Chg0.cell hc b1, Chg0.cell hc b2⟩)
    ((go_at_call 43; refine (find_hit MW.node.drew.ri Hsi.out (by have := Hn.out; omega) e Hk.out).mono ?_; rintro _ w1 ⟨rfl, hc⟩))
  have hc' : Chg0 W w1 := ((Chg.refl (fun _ => 0) W).drew).trans hc
  have M1 := MW.grew hc'
  have hS1 := M1.stp.pre hc'
  clear hc hc' c0 c2 l1 b0 b1 b2 MW
  obtain ⟨spc, hrc⟩ := M1.node.rc.blkOf
  have x0 : w1.cell? ⟨gc, k, none⟩ = some (.pointer (some ⟨t.p, 0, none⟩)) := ptr_at hrc Hkat.out
  have c1 : w1.cell? ⟨p, 1, none⟩ = some (.slice (some ⟨gc, 0, none⟩) m cc) := cell_blk M1.node.blk 1
  have hkt := M1.kid t (by simp)
  obtain ⟨tiv, tcv, tits, tcps, hNt, htl, _, _, htF⟩ := hkt.1.node
  obtain ⟨ta, tc, htiv⟩ := hNt.iform
  subst htiv
  rw [← htl] at hNt
  have d0 : w1.cell? ⟨t.p, 0, none⟩ = some (.slice ta t.n tc) := cell_blk hNt.blk 0
  have d2 : w1.cell? ⟨t.p, 2, none⟩ = some (.pointer (some ⟨c, 0, none⟩)) := cell_blk hNt.blk 2
  clear hrc hNt htl
  go_wp2_with (fail)
  refine (mutableChild (q := t.p) M1.node Hkat.out d2).mono ?_
  rintro _ w5 ⟨rfl, hN5, hS5⟩
  unfold ptr
  obtain ⟨M5, hT5'⟩ := M1.own hN5 hS5 rfl rfl
  have hT5 := hS1.trans hT5'
  have hb5 := hT5.blk hbox (HB0.out 0)
  have hu5 := M5.uniq
  have hsm := sum_mid S t T
  obtain ⟨b0, b1, b2⟩ := box_cells hb5
  clear c1 x0 d0 d2 hT5' hS1 M1 hN5 hS5 hkt
  have hSk : Hid ((A ++ x :: B)[k]? = some x) := by show _ = _; rw [HkS.out, Hsl.out, List.getElem?_append_right (Nat.le_refl _)]; simp
  have hiz := hiy.out
  rw [← HkS.out] at hiz
  obtain ⟨sp5, hrow5⟩ := M5.node.ri.blkOf
  obtain ⟨x0, x1, x2⟩ := ent_at hrow5 hSk.out
  have c0 : w5.cell? ⟨p, 0, none⟩ = some (.slice (some ⟨g, 0, none⟩) n cap) := cell_blk M5.node.blk 0
  clear hrow5 hiy
  go_wp2
  obtain ⟨w6, hw6, ⟨hbx, hbz⟩, hch6⟩ : ∃ w6, w6 = (w5.alloc (Obj.cells #[Value.string x.key, Value.int IntKind.u64 x.ver, Value.slice x.va x.vn x.vc] 33)).alloc (Obj.cells #[Value.string { data := #[] }, Value.int IntKind.u64 0, Value.slice none 0 0] 33) ∧
      (w6.heap[w5.heap.size]? = some (.cells #[Value.string x.key, Value.int IntKind.u64 x.ver, Value.slice x.va x.vn x.vc] 33 (0, 0)) ∧
      w6.heap[w5.heap.size + 1]? = some (.cells #[Value.string { data := #[] }, Value.int IntKind.u64 0, Value.slice none 0 0] 33 (0, 0))) ∧ Chg0 w5 w6 :=
    ⟨_, rfl, two_boxes w5 _ _ _ _, ((Chg.refl _ w5).alloc _).alloc _⟩
  rw [← hw6]
  have M6 := M5.grew hch6
  have hT6 := hT5.post hch6
  have hm0 : ∀ j, midF p (.slice (some ⟨g, 0, none⟩) n cap) (.slice (some ⟨gc, 0, none⟩) m cc) S t T G (w5.heap.size + j) = 0 := fun j => M5.zero (by omega)
  have hz6 := hch6.blk (hT5.blk hzero (HB0.out 1))
  have hzl := (Array.getElem?_eq_some_iff.1 (hT5.blk hzero (HB0.out 1))).1
  have hu6 := M6.uniq
  clear hw6 hch6 M5 hT5 hb5 b0 b1 b2 x0 x1 x2 c0 hu5
  generalize w5.heap.size = d at *
  have hmd := hm0 0
  have hmd1 := hm0 1
  unfold midF at hmd hmd1
  rw [Nat.add_zero] at hmd
  have hsd := hsm d
  have hsd1 := hsm (d + 1)
  have n0 : nodeF p (.slice (some ⟨g, 0, none⟩) n cap) (.slice (some ⟨gc, 0, none⟩) m cc) d = 0 := by omega
  have n1 : nodeF p (.slice (some ⟨g, 0, none⟩) n cap) (.slice (some ⟨gc, 0, none⟩) m cc) (d + 1) = 0 := by omega
  have f0 : t.F d + G d = 0 := by omega
  have f1 : t.F (d + 1) + G (d + 1) = 0 := by omega
  have hgd : d ≠ g := fun e => by unfold nodeF at n0; rw [ob_slice, e, one_self] at n0; omega
  have hgd1 : d + 1 ≠ g := fun e => by unfold nodeF at n1; rw [ob_slice, e, one_self] at n1; omega
  have fp : t.F p + G p = 0 := by have := hu6 p; have := hsm p; unfold nodeF at this; have h1 : 1 ≤ nodeF p (.slice (some ⟨g, 0, none⟩) n cap) (.slice (some ⟨gc, 0, none⟩) m cc) p := by { unfold nodeF; rw [one_self]; omega }; omega
  have c0 : w6.cell? ⟨p, 0, none⟩ = some (.slice (some ⟨g, 0, none⟩) n cap) := cell_blk M6.node.blk 0
  obtain ⟨z0, z1, z2⟩ := box_cells hbz
  clear hmd hmd1 hsd hsd1 hm0
  go_region_held3 (fun w' => w'.cell? ⟨p, 0, none⟩ = some (.slice (some ⟨g, 0, none⟩) n cap) ∧ w'.cell? ⟨d + 1, 0, none⟩ = some (.string ⟨#[]⟩) ∧ w'.cell? ⟨d + 1, 1, none⟩ = some (.int .u64 0) ∧ w'.cell? ⟨d + 1, 2, none⟩ = some (.slice none 0 0))
    (first | exact ⟨c0, z0, z1, z2⟩ | exact ⟨cell_blk (hS8.blk M6.node.blk fp) 0, box_cells (hS8.blk hbz f1)⟩ | exact ⟨(kept3 hpg).trans (cell_blk (hS8.blk M6.node.blk fp) 0), (kept3 hgd1).trans (cell_blk (hS8.blk hbz f1) 0), (kept3 hgd1).trans (cell_blk (hS8.blk hbz f1) 1), (kept3 hgd1).trans (cell_blk (hS8.blk hbz f1) 2)⟩)
    ((go_at_call 44; refine (HIH.out w6.drew c t G ent0 ((M6.kid t (by simp)).1.same (fun _ _ => rfl)) (M6.pool.same (fun _ _ => rfl)) (fun k => by have := hu6 k; have := hsm k; omega) (by have := Ht.out; omega) (by have := (M6.kid t (by simp)).2.2; omega)).mono ?_; rintro _ w8 ⟨mx, ob, t8, G8, rfl, hp8, H8, hn8, hn8', hx8, hP8, hS8⟩; unfold Ent.v; have hN8 := M6.node.keep hS8.predrew.chg (fun k => by have := hu6 k; have := hsm k; omega); obtain ⟨sp8, hrow8⟩ := hN8.ri.blkOf; obtain ⟨x0, x1, x2⟩ := ent_at hrow8 hSk.out; have g0 := frozen_blk hrow8 (k * 3); have g1 := frozen_blk hrow8 (k * 3 + 1); have g2 := frozen_blk hrow8 (k * 3 + 2); have Hp8 := hide hp8; have HX8 := hide hx8; clear hrow8 hp8 hx8))
  have hn63 := (M6.kid t (by simp)).2.2
  obtain ⟨M8, hT8⟩ := M6.child H8 Hp8.out ⟨by have := Ht.out; omega, by omega⟩ hP8 hS8.predrew
  obtain ⟨r1, r2, r3⟩ := store3 M8.node k (by have := (List.getElem?_eq_some_iff.1 hSk.out).1; exact this) mx
  have eset : (A ++ x :: B).set k mx = A ++ mx :: B := by rw [HkS.out, Hsl.out, List.set_append_right _ _ (Nat.le_refl _)]; simp
  rw [eset] at r1
  obtain ⟨M9, hT9⟩ := M8.own (A' := A) (B' := mx :: B) r1 r2 rfl (by simp)
  have hT := (hT6.trans hT8).trans hT9
  have hbx9 := (r3.same d (Array.getElem?_eq_some_iff.1 (hS8.predrew.blk hbx f0)).1 (one_other hgd)).trans (hS8.predrew.blk hbx f0)
  have hz9 := hT.blk hzero (HB0.out 1)
  have hz := hT.zero hzero (HB0.out 1)
  generalize ((w8.setCell ⟨g, k * 3, none⟩ (.string mx.key)).setCell ⟨g, k * 3 + 1, none⟩ (.int .u64 mx.ver)).setCell ⟨g, k * 3 + 2, none⟩ (.slice mx.va mx.vn mx.vc) = w9 at *
  clear r1 r2 r3 hT6 hT8 hT9 M8 M6 hS8 hN8 x0 x1 x2 g0 g1 g2 c0 z0 z1 z2 hbx hbz hz6 H8 hP8
  obtain ⟨d0, d1, d2⟩ := box_cells hbx9
  obtain ⟨z0, z1, z2⟩ := box_cells hz9
  have y0 := frozen_blk hz9 0
  have y1 := frozen_blk hz9 1
  have y2 := frozen_blk hz9 2
  go_wp2
  have r0 := boxPut_at x hz9
  refine bodyPost_ret (v := .tuple #[x.v, .bool true]) (by
    have r1 := cell_blk r0 0
    have r2 := cell_blk r0 1
    have r3 := cell_blk r0 2
    unfold boxPut at r1 r2 r3
    simp [results, Try.results44, go_sem, r1, r2, r3, Ent.v, ptr]) rfl ?_
  unfold midF at hz
  refine ⟨x, true, _, G8, rfl, ?_, M9.whole.boxPut (b := b + 1) ?_ x, ?_, ?_, ?_, M9.pool.boxPut (b := b + 1) (by omega) x, (hT.pre hchgW.out).boxPut (b := b + 1) (by rw [Hb.out]; omega) x⟩
  · rfl
  · show nodeF p _ _ (b + 1) + sumF (S ++ t8 :: T) (b + 1) = 0
    omega
  · show (A ++ x :: B).length ≤ (A ++ mx :: B).length
    simp
  · show (A ++ mx :: B).length ≤ (A ++ x :: B).length
    simp
  · show weave (A ++ mx :: B) (S ++ t8 :: T) = del e.key (weave (A ++ x :: B) (S ++ t :: T))
    have hs := Hs.out
    have hx8 : t.xs = t8.xs ++ [mx] := HX8.out
    rw [weave_at A S (x :: B) t T Hsl.out] at hs ⊢
    rw [weave_at A S (mx :: B) t8 T Hsl.out]
    simp only [wtail] at *
    rw [← List.append_assoc] at hs ⊢
    have h1 := List.pairwise_append.1 hs
    rw [← List.append_assoc, del_over e.key x HA.out _ _ (fun a ha => by rw [← HA.out]; exact h1.2.2 a ha x List.mem_cons_self) (fun a ha => by rw [← HA.out]; exact (List.pairwise_cons.1 h1.2.1).1 a ha), hx8]
    simp

end Go.Proofs.Qxb6603483a
