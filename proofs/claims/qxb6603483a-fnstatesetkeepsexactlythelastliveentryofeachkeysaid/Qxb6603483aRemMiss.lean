/-
  remove by key in an inner node whose child can spare an item: the key not in the node itself.
-/
import Derived.Test.Qxb6603483aRemBig
namespace Go.Proofs.Qxb6603483a
open Go.RowKit
set_option linter.unusedSimpArgs false
attribute [local go_sem ↓] Go.wp_at_zero Go.wp_at_succ

set_option maxRecDepth 100000 in
set_option maxHeartbeats 4000000 in
theorem rem_miss_big {h : Nat} (IH : RemK h) {w : World} {c p : Nat} {iv cv : Value} {A B : List Ent} {S : List Sub} {t : Sub} {T : List Sub} {G : Nat → Nat} {e : Ent} (M : Mid w c h p iv cv A B S t T G) (ht : 32 ≤ t.n) (hn : (A ++ B).length ≤ 1000)
    (hs : Asc (weave (A ++ B) (S ++ t :: T))) (hA : ∀ a ∈ A, klt a.key e.key = true) (hB : ∀ b ∈ B, klt e.key b.key = true) :
    Calls Try.prog 44 #[.pointer (some ⟨p, 0, none⟩), e.v, .int .i64 31, .int .i64 0] w fun r w' => RemLeft w w' c (h + 1) p (A ++ B).length (A ++ B).length (midF p iv cv S t T G) (fun xs _ => xs = del e.key (weave (A ++ B) (S ++ t :: T))) r := by
  have hk : MissAt (A ++ B) e S.length := ⟨A, B, rfl, hA, hB, M.sl⟩
  have hsi : Asc (A ++ B) := hs.sub (sub_weave _ _)
  obtain ⟨k, hkS⟩ : ∃ k, k = S.length := ⟨_, rfl⟩
  rw [← hkS] at hk
  obtain ⟨m, hml⟩ : ∃ m, m = (kids (S ++ t :: T)).length := ⟨_, rfl⟩
  have hkl := kids_length (S ++ t :: T)
  have hsl := M.sl
  have htl := M.tl
  obtain ⟨gc, cc, hcv⟩ : ∃ gc cc, cv = .slice (some ⟨gc, 0, none⟩) m cc := by
    rcases M.node.rc.form with ⟨_, h1⟩ | ⟨gc, cc, h1⟩
    · rw [h1] at hkl; simp at hkl
    · exact ⟨gc, cc, by rw [h1, hml]⟩
  subst hcv
  have hmk : k < m := by rw [hml, hkl, hkS]; simp
  have hm1 : (m : Int) ≠ 0 := by omega
  have hm2 : ((m : Int) == 0) = false := by simpa using hm1
  have hk1 : (k : Int) ≤ 1000 := by rw [hkS, hsl]; simp at hn; omega
  have hix : ∀ w', (Instr.indexAt 104 (.slice (some ⟨gc, 0, none⟩) m cc) (.int .i64 (k : Int))).run Try.prog w' = .ok (.pointer (some ⟨gc, k, none⟩)) w' :=
    fun w' => by have := run_ix (P := Try.prog) 104 1 gc m cc k (k : Int) rfl (by omega) Try.underlying104 (fun _ => by kernel_rfl) w'; rw [Nat.mul_one] at this; exact this
  obtain ⟨f, hcow, _⟩ := M.pool.cow
  obtain ⟨W, hW, ⟨hbox, hzero⟩, hchg⟩ : ∃ W, W = (w.alloc (Obj.cells #[Value.string e.key, Value.int IntKind.u64 e.ver, Value.slice e.va e.vn e.vc] 33)).alloc (Obj.cells #[Value.string { data := #[] }, Value.int IntKind.u64 0, Value.slice none 0 0] 33) ∧
      (W.heap[w.heap.size]? = some (.cells #[Value.string e.key, Value.int IntKind.u64 e.ver, Value.slice e.va e.vn e.vc] 33 (0, 0)) ∧
      W.heap[w.heap.size + 1]? = some (.cells #[Value.string { data := #[] }, Value.int IntKind.u64 0, Value.slice none 0 0] 33 (0, 0))) ∧ Chg0 w W :=
    ⟨_, rfl, two_boxes w _ _ _ _, ((Chg.refl _ w).alloc _).alloc _⟩
  have MW := M.grew hchg
  have HB0 : Hid (∀ j, midF p iv (.slice (some ⟨gc, 0, none⟩) m cc) S t T G (w.heap.size + j) = 0) := fun j => M.zero (by omega)
  have hkat := kids_at S t T
  rw [← hkS] at hkat
  have hcowW := hchg.blk hcow
  have c0 : W.cell? ⟨p, 0, none⟩ = some iv := cell_blk MW.node.blk 0
  have c2 : W.cell? ⟨p, 2, none⟩ = some (.pointer (some ⟨c, 0, none⟩)) := cell_blk MW.node.blk 2
  have l1 : W.cell? ⟨c, 1, none⟩ = some (.func (.func 29) #[] #[]) := cell_blk hcowW 1
  obtain ⟨b0, b1, b2⟩ := box_cells hbox
  have ht' : ¬ (t.n : Int) ≤ 31 := by omega
  have Hkat := hide hkat
  have HkS := hide hkS
  have Hsl := hide hsl
  have Ht := hide ht
  have HIH := hide IH
  have hchgW := hide hchg
  have Hs := hide hs
  have Hsi := hide hsi
  have Hn := hide hn
  have Hk := hide hk
  have HA := hide hA
  have HB := hide hB
  clear hkat hkS hsl ht IH hchg M hml hkl hmk hn hs hsi hk hA hB htl hcow hcowW
  unfold Ent.v
  go_enter Try.func44, Try.ntmps44
  go_wp2
  rw [← hW]
  clear hW
  generalize hbb : w.heap.size = b at *
  have Hb := hide hbb
  clear hbb
  go_region_held3 (fun w' => w'.cell? ⟨p, 0, none⟩ = some iv ∧ w'.cell? ⟨p, 2, none⟩ = some (.pointer (some ⟨c, 0, none⟩)) ∧ w'.cell? ⟨c, 1, none⟩ = some (.func (.func 29) #[] #[]) ∧ w'.cell? ⟨b, 0, none⟩ = some (.string e.key) ∧ w'.cell? ⟨b, 1, none⟩ = some (.int .u64 e.ver) ∧ w'.cell? ⟨b, 2, none⟩ = some (.slice e.va e.vn e.vc))
    (first | exact ⟨c0, c2, l1, b0, b1, b2⟩ | exact ⟨Chg0.cell hc c0, Chg0.cell hc c2, Chg0.cell hc l1, Chg0.cell hc b0, Chg0.cell hc b1, Chg0.cell hc b2⟩)
    ((go_at_call 43; refine (find_miss MW.node.drew.ri Hsi.out (by have := Hn.out; omega) e Hk.out).mono ?_; rintro _ w1 ⟨rfl, hc⟩))
  have hc' : Chg0 W w1 := ((Chg.refl (fun _ => 0) W).drew).trans hc
  have M1 := MW.grew hc'
  have hS1 := M1.stp.pre hc'
  clear hc hc' c0 c2 l1 b0 b1 b2 MW
  obtain ⟨spc, hrc⟩ := M1.node.rc.blkOf
  have x0 : w1.cell? ⟨gc, k, none⟩ = some (.pointer (some ⟨t.p, 0, none⟩)) := ptr_at hrc Hkat.out
  have c1 : w1.cell? ⟨p, 1, none⟩ = some (.slice (some ⟨gc, 0, none⟩) m cc) := cell_blk M1.node.blk 1
  have hkt := M1.kid t (by simp)
  obtain ⟨tiv, tcv, tits, tcps, hNt, htl, _, _, htF⟩ := hkt.1.node
  obtain ⟨ta, tc, htiv⟩ := hNt.iform
  subst htiv
  rw [← htl] at hNt
  have d0 : w1.cell? ⟨t.p, 0, none⟩ = some (.slice ta t.n tc) := cell_blk hNt.blk 0
  have d2 : w1.cell? ⟨t.p, 2, none⟩ = some (.pointer (some ⟨c, 0, none⟩)) := cell_blk hNt.blk 2
  clear hrc hNt htl
  go_wp2_with (fail)
  refine (mutableChild (q := t.p) M1.node Hkat.out d2).mono ?_
  rintro _ w5 ⟨rfl, hN5, hS5⟩
  unfold ptr
  obtain ⟨M5, hT5'⟩ := M1.own hN5 hS5 rfl rfl
  have hT5 := hS1.trans hT5'
  have hb5 := hT5.blk hbox (HB0.out 0)
  have hu5 := M5.uniq
  have hsm := sum_mid S t T
  obtain ⟨b0, b1, b2⟩ := box_cells hb5
  clear c1 x0 d0 d2 hT5' hS1 M1 hN5 hS5 hkt
  go_wp2_with (fail)
  have hxs5 : Asc t.xs := Hs.out.sub (kid_weave A S B t T Hsl.out)
  refine (HIH.out w5 c t G e (M5.kid t (by simp)).1 hxs5 M5.pool (fun k => by have := hu5 k; have := hsm k; omega) (fun _ => by have := Ht.out; omega) (by have := (M5.kid t (by simp)).2.2; omega)).mono ?_
  rintro _ w6 ⟨out, ob, t6, G6, rfl, hp6, H6, hn6, hn6', hx6, hP6, hS6⟩
  unfold Ent.v
  have hn63 := (M5.kid t (by simp)).2.2
  obtain ⟨M6, hT6⟩ := M5.child H6 hp6 ⟨by have := Ht.out; omega, by omega⟩ hP6 hS6
  have hT := hT5.trans hT6
  have hz6 := hT.blk hzero (HB0.out 1)
  have hz := hT.zero hzero (HB0.out 1)
  have HX6 : Hid (t6.xs = del e.key t.xs) := hx6
  obtain ⟨z0, z1, z2⟩ := box_cells hz6
  have y0 := frozen_blk hz6 0
  have y1 := frozen_blk hz6 1
  have y2 := frozen_blk hz6 2
  clear hx6 hp6 hT5 hT6 b0 b1 b2 hb5
  go_wp2
  have r0 := boxPut_at out hz6
  refine bodyPost_ret (v := .tuple #[out.v, .bool ob]) (by
    have r1 := cell_blk r0 0
    have r2 := cell_blk r0 1
    have r3 := cell_blk r0 2
    unfold boxPut at r1 r2 r3
    simp [results, Try.results44, go_sem, r1, r2, r3, Ent.v, ptr]) rfl ?_
  unfold midF at hz
  refine ⟨out, ob, _, G6, rfl, ?_, M6.whole.boxPut (b := b + 1) ?_ out, ?_, ?_, ?_, hP6.boxPut (b := b + 1) (by omega) out, (hT.pre hchgW.out).boxPut (b := b + 1) (by rw [Hb.out]; omega) out⟩
  · rfl
  · show nodeF p _ _ (b + 1) + sumF (S ++ t6 :: T) (b + 1) = 0
    omega
  · exact Nat.le_refl _
  · exact Nat.le_refl _
  · exact weave_del M6.sl M6.tl Hs.out HA.out HB.out HX6.out

end Go.Proofs.Qxb6603483a
