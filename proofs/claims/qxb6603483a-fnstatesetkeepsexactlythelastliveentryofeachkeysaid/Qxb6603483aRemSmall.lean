/-
  remove in an inner node whose child has none to spare: it goes on to growChildAndRemove.
-/
import Derived.Test.Qxb6603483aRemBig
namespace Go.Proofs.Qxb6603483a
open Go.RowKit
set_option linter.unusedSimpArgs false
attribute [local go_sem ↓] Go.wp_at_zero Go.wp_at_succ

set_option maxRecDepth 100000 in
set_option maxHeartbeats 4000000 in
theorem rem_small_max {h : Nat} {w : World} {c p lo hi : Nat} {P : List Ent → Ent → Prop} {iv cv : Value} {A : List Ent} {S : List Sub} {t : Sub} {G : Nat → Nat} {e : Ent} (M : Mid w c h p iv cv A [] S t [] G) (ht : t.n ≤ 31) (hn : A.length ≤ 1000)
    (HG : ∀ w', Mid w' c h p iv cv A [] S t [] G → Calls Try.prog 57 #[.pointer (some ⟨p, 0, none⟩), .int .i64 (S.length : Int), e.v, .int .i64 31, .int .i64 2] w' fun r w'' => RemLeft w' w'' c (h + 1) p lo hi (midF p iv cv S t [] G) P r) :
    Calls Try.prog 44 #[.pointer (some ⟨p, 0, none⟩), e.v, .int .i64 31, .int .i64 2] w fun r w' => RemLeft w w' c (h + 1) p lo hi (midF p iv cv S t [] G) P r := by
  obtain ⟨k, hkS⟩ : ∃ k, k = S.length := ⟨_, rfl⟩
  obtain ⟨m, hml⟩ : ∃ m, m = (kids (S ++ [t])).length := ⟨_, rfl⟩
  have hkl := kids_length (S ++ [t])
  have hsl := M.sl
  obtain ⟨gc, cc, hcv⟩ : ∃ gc cc, cv = .slice (some ⟨gc, 0, none⟩) m cc := by
    rcases M.node.rc.form with ⟨_, h1⟩ | ⟨gc, cc, h1⟩
    · rw [h1] at hkl; simp at hkl
    · exact ⟨gc, cc, by rw [h1, hml]⟩
  subst hcv
  obtain ⟨ia, icap, hiv⟩ : ∃ a cap, iv = .slice a k cap := by
    obtain ⟨a, cap, h1⟩ := M.node.iform
    exact ⟨a, cap, by rw [h1, hkS, hsl]; simp⟩
  subst hiv
  have hmk : m = k + 1 := by rw [hml, hkl, hkS]; simp
  have hm1 : (m : Int) ≠ 0 := by omega
  have hm2 : ((m : Int) == 0) = false := by simpa using hm1
  have hk1 : (k : Int) ≤ 1000 := by omega
  have hix : ∀ w', (Instr.indexAt 104 (.slice (some ⟨gc, 0, none⟩) m cc) (.int .i64 (k : Int))).run Try.prog w' = .ok (.pointer (some ⟨gc, k, none⟩)) w' :=
    fun w' => by have := run_ix (P := Try.prog) 104 1 gc m cc k (k : Int) rfl (by omega) Try.underlying104 (fun _ => by kernel_rfl) w'; rw [Nat.mul_one] at this; exact this
  obtain ⟨W, hW, ⟨hbox, hzero⟩, hchg⟩ : ∃ W, W = (w.alloc (Obj.cells #[Value.string e.key, Value.int IntKind.u64 e.ver, Value.slice e.va e.vn e.vc] 33)).alloc (Obj.cells #[Value.string { data := #[] }, Value.int IntKind.u64 0, Value.slice none 0 0] 33) ∧
      (W.heap[w.heap.size]? = some (.cells #[Value.string e.key, Value.int IntKind.u64 e.ver, Value.slice e.va e.vn e.vc] 33 (0, 0)) ∧
      W.heap[w.heap.size + 1]? = some (.cells #[Value.string { data := #[] }, Value.int IntKind.u64 0, Value.slice none 0 0] 33 (0, 0))) ∧ Chg0 w W :=
    ⟨_, rfl, two_boxes w _ _ _ _, ((Chg.refl _ w).alloc _).alloc _⟩
  have MW := M.grew hchg
  have HB0 : Hid (∀ j, midF p (.slice ia k icap) (.slice (some ⟨gc, 0, none⟩) m cc) S t [] G (w.heap.size + j) = 0) := fun j => M.zero (by omega)
  have hkat := kids_at S t []
  rw [← hkS] at hkat
  obtain ⟨spc, hrc⟩ := MW.node.rc.blkOf
  have x0 : W.cell? ⟨gc, k, none⟩ = some (.pointer (some ⟨t.p, 0, none⟩)) := ptr_at hrc hkat
  have c0 : W.cell? ⟨p, 0, none⟩ = some (.slice ia k icap) := cell_blk MW.node.blk 0
  have c1 : W.cell? ⟨p, 1, none⟩ = some (.slice (some ⟨gc, 0, none⟩) m cc) := cell_blk MW.node.blk 1
  have hkt := MW.kid t (by simp)
  obtain ⟨tiv, tcv, tits, tcps, hNt, htl, _, _, htF⟩ := hkt.1.node
  obtain ⟨ta, tc, htiv⟩ := hNt.iform
  subst htiv
  rw [← htl] at hNt
  have d0 : W.cell? ⟨t.p, 0, none⟩ = some (.slice ta t.n tc) := cell_blk hNt.blk 0
  have d2 : W.cell? ⟨t.p, 2, none⟩ = some (.pointer (some ⟨c, 0, none⟩)) := cell_blk hNt.blk 2
  have ht' : (t.n : Int) ≤ 31 := by omega
  have Hkat := hide hkat
  have HkS := hide hkS
  have Hsl := hide hsl
  have Ht := hide ht
  have HC := HG W MW
  rw [← hkS] at HC
  unfold Ent.v at HC
  have HC := hide HC
  obtain ⟨b0, b1, b2⟩ := box_cells hbox
  have hchgW := hide hchg
  have hW' := hW.symm
  clear hW hkat hkS hsl ht hchg hrc hNt htl M hml hkl hmk hn
  clear HG
  unfold Ent.v
  go_enter Try.func44, Try.ntmps44
  go_wp2_with (fail)
  clear hW'
  have HB1 : Hid (midF p (.slice ia k icap) (.slice (some ⟨gc, 0, none⟩) m cc) S t [] G (w.heap.size + 1) = 0) := HB0.out 1
  generalize hbb : w.heap.size = b at *
  have Hb := hide hbb
  clear hbb
  have hzero1 := hzero
  have hchg1 := hchgW
  have HC := HC.out
  refine HC.mono ?_
  clear HC
  rintro _ w10 ⟨out, ob, s', G', rfl, hp', H', hlo, hhi, hP', hPl', hS'⟩
  unfold Ent.v
  have hz10 := hS'.blk hzero1 HB1.out
  have Hz10 := hide (hS'.zero hzero1 HB1.out)
  have HS := hide (hS'.pre hchg1.out)
  have Hfin := hide (And.intro hp' (And.intro hlo (And.intro hhi hP')))
  obtain ⟨z0, z1, z2⟩ := box_cells hz10
  have y0 := frozen_blk hz10 0
  have y1 := frozen_blk hz10 1
  have y2 := frozen_blk hz10 2
  clear hp' hlo hhi hP' b0 b1 b2 hS' hchg1
  go_wp2
  have r0 := boxPut_at out hz10
  refine bodyPost_ret (v := .tuple #[out.v, .bool ob]) (by
    have r1 := cell_blk r0 0
    have r2 := cell_blk r0 1
    have r3 := cell_blk r0 2
    unfold boxPut at r1 r2 r3
    simp [results, Try.results44, go_sem, r1, r2, r3, Ent.v, ptr]) rfl ?_
  obtain ⟨hp', hlo, hhi, hP'⟩ := Hfin.out
  have hz11 : s'.F (b + 1) + G' (b + 1) = 0 := Hz10.out
  exact ⟨out, ob, s', G', rfl, hp', H'.boxPut (b := b + 1) (by omega) out, hlo, hhi, hP', hPl'.boxPut (b := b + 1) (by omega) out, HS.out.boxPut (b := b + 1) (by rw [Hb.out]; omega) out⟩

set_option maxRecDepth 100000 in
set_option maxHeartbeats 4000000 in
theorem rem_small_miss {h : Nat} {w : World} {c p lo hi : Nat} {P : List Ent → Ent → Prop} {iv cv : Value} {A B : List Ent} {S : List Sub} {t : Sub} {T : List Sub} {G : Nat → Nat} {e : Ent} (M : Mid w c h p iv cv A B S t T G) (ht : t.n ≤ 31) (hn : (A ++ B).length ≤ 1000) (hsi : Asc (A ++ B)) (hk : MissAt (A ++ B) e S.length)
    (HG : ∀ w', Mid w' c h p iv cv A B S t T G → Calls Try.prog 57 #[.pointer (some ⟨p, 0, none⟩), .int .i64 (S.length : Int), e.v, .int .i64 31, .int .i64 0] w' fun r w'' => RemLeft w' w'' c (h + 1) p lo hi (midF p iv cv S t T G) P r) :
    Calls Try.prog 44 #[.pointer (some ⟨p, 0, none⟩), e.v, .int .i64 31, .int .i64 0] w fun r w' => RemLeft w w' c (h + 1) p lo hi (midF p iv cv S t T G) P r := by
  obtain ⟨k, hkS⟩ : ∃ k, k = S.length := ⟨_, rfl⟩
  rw [← hkS] at hk
  obtain ⟨m, hml⟩ : ∃ m, m = (kids (S ++ t :: T)).length := ⟨_, rfl⟩
  have hkl := kids_length (S ++ t :: T)
  have hsl := M.sl
  have htl := M.tl
  obtain ⟨gc, cc, hcv⟩ : ∃ gc cc, cv = .slice (some ⟨gc, 0, none⟩) m cc := by
    rcases M.node.rc.form with ⟨_, h1⟩ | ⟨gc, cc, h1⟩
    · rw [h1] at hkl; simp at hkl
    · exact ⟨gc, cc, by rw [h1, hml]⟩
  subst hcv
  have hmk : k < m := by rw [hml, hkl, hkS]; simp
  have hm1 : (m : Int) ≠ 0 := by omega
  have hm2 : ((m : Int) == 0) = false := by simpa using hm1
  have hk1 : (k : Int) ≤ 1000 := by rw [hkS, hsl]; simp at hn; omega
  have hix : ∀ w', (Instr.indexAt 104 (.slice (some ⟨gc, 0, none⟩) m cc) (.int .i64 (k : Int))).run Try.prog w' = .ok (.pointer (some ⟨gc, k, none⟩)) w' :=
    fun w' => by have := run_ix (P := Try.prog) 104 1 gc m cc k (k : Int) rfl (by omega) Try.underlying104 (fun _ => by kernel_rfl) w'; rw [Nat.mul_one] at this; exact this
  obtain ⟨f, hcow, _⟩ := M.pool.cow
  obtain ⟨W, hW, ⟨hbox, hzero⟩, hchg⟩ : ∃ W, W = (w.alloc (Obj.cells #[Value.string e.key, Value.int IntKind.u64 e.ver, Value.slice e.va e.vn e.vc] 33)).alloc (Obj.cells #[Value.string { data := #[] }, Value.int IntKind.u64 0, Value.slice none 0 0] 33) ∧
      (W.heap[w.heap.size]? = some (.cells #[Value.string e.key, Value.int IntKind.u64 e.ver, Value.slice e.va e.vn e.vc] 33 (0, 0)) ∧
      W.heap[w.heap.size + 1]? = some (.cells #[Value.string { data := #[] }, Value.int IntKind.u64 0, Value.slice none 0 0] 33 (0, 0))) ∧ Chg0 w W :=
    ⟨_, rfl, two_boxes w _ _ _ _, ((Chg.refl _ w).alloc _).alloc _⟩
  have MW := M.grew hchg
  have HB0 : Hid (∀ j, midF p iv (.slice (some ⟨gc, 0, none⟩) m cc) S t T G (w.heap.size + j) = 0) := fun j => M.zero (by omega)
  have hkat := kids_at S t T
  rw [← hkS] at hkat
  have hcowW := hchg.blk hcow
  have c0 : W.cell? ⟨p, 0, none⟩ = some iv := cell_blk MW.node.blk 0
  have c2 : W.cell? ⟨p, 2, none⟩ = some (.pointer (some ⟨c, 0, none⟩)) := cell_blk MW.node.blk 2
  have l1 : W.cell? ⟨c, 1, none⟩ = some (.func (.func 29) #[] #[]) := cell_blk hcowW 1
  obtain ⟨b0, b1, b2⟩ := box_cells hbox
  have ht' : (t.n : Int) ≤ 31 := by omega
  have Hkat := hide hkat
  have HkS := hide hkS
  have Hsl := hide hsl
  have Ht := hide ht
  have HHG := hide HG
  have hchgW := hide hchg
  have Hsi := hide hsi
  have Hn := hide hn
  have Hk := hide hk
  clear hkat hkS hsl ht hchg M hml hkl hmk hn hsi hk htl hcow hcowW HG
  unfold Ent.v
  go_enter Try.func44, Try.ntmps44
  go_wp2
  rw [← hW]
  clear hW
  generalize hbb : w.heap.size = b at *
  have Hb := hide hbb
  clear hbb
  go_region_held3 (fun w' => w'.cell? ⟨p, 0, none⟩ = some iv ∧ w'.cell? ⟨p, 2, none⟩ = some (.pointer (some ⟨c, 0, none⟩)) ∧ w'.cell? ⟨c, 1, none⟩ = some (.func (.func 29) #[] #[]) ∧ w'.cell? ⟨b, 0, none⟩ = some (.string e.key) ∧ w'.cell? ⟨b, 1, none⟩ = some (.int .u64 e.ver) ∧ w'.cell? ⟨b, 2, none⟩ = some (.slice e.va e.vn e.vc))
    (first | exact ⟨c0, c2, l1, b0, b1, b2⟩ | exact ⟨Chg0.cell hc c0, Chg0.cell hc c2, Chg0.cell hc l1, Chg0.cell hc b0, Chg0.cell hc b1, Chg0.cell hc b2⟩)
    ((go_at_call 43; refine (find_miss MW.node.drew.ri Hsi.out (by have := Hn.out; omega) e Hk.out).mono ?_; rintro _ w1 ⟨rfl, hc⟩))
  have hb1x := hide (hc.blk (w := W.drew) hbox)
  have hz1x := hide (hc.blk (w := W.drew) hzero)
  have hc' : Chg0 W w1 := ((Chg.refl (fun _ => 0) W).drew).trans hc
  have M1 := MW.grew hc'
  have hcc := hide hc'
  have hS1 := M1.stp.pre hc'
  clear hc hc' c0 c2 l1 b0 b1 b2 MW
  obtain ⟨spc, hrc⟩ := M1.node.rc.blkOf
  have x0 : w1.cell? ⟨gc, k, none⟩ = some (.pointer (some ⟨t.p, 0, none⟩)) := ptr_at hrc Hkat.out
  have c1 : w1.cell? ⟨p, 1, none⟩ = some (.slice (some ⟨gc, 0, none⟩) m cc) := cell_blk M1.node.blk 1
  have hkt := M1.kid t (by simp)
  obtain ⟨tiv, tcv, tits, tcps, hNt, htl, _, _, htF⟩ := hkt.1.node
  obtain ⟨ta, tc, htiv⟩ := hNt.iform
  subst htiv
  rw [← htl] at hNt
  have d0 : w1.cell? ⟨t.p, 0, none⟩ = some (.slice ta t.n tc) := cell_blk hNt.blk 0
  have d2 : w1.cell? ⟨t.p, 2, none⟩ = some (.pointer (some ⟨c, 0, none⟩)) := cell_blk hNt.blk 2
  clear hrc hNt htl
  have HC := HHG.out w1 M1
  rw [← HkS.out] at HC
  have hb1 := hb1x.out
  have hzero1 := hz1x.out
  obtain ⟨b0, b1, b2⟩ := box_cells hb1
  have hchg1 : Hid (Chg0 w w1) := hchgW.out.trans hcc.out
  have HB1 : Hid (midF p iv (.slice (some ⟨gc, 0, none⟩) m cc) S t T G (b + 1) = 0) := HB0.out 1
  clear HHG hS1 hb1x hz1x
  unfold Ent.v at HC
  go_wp2_with (fail)
  refine HC.mono ?_
  clear HC
  rintro _ w10 ⟨out, ob, s', G', rfl, hp', H', hlo, hhi, hP', hPl', hS'⟩
  unfold Ent.v
  have hz10 := hS'.blk hzero1 HB1.out
  have Hz10 := hide (hS'.zero hzero1 HB1.out)
  have HS := hide (hS'.pre hchg1.out)
  have Hfin := hide (And.intro hp' (And.intro hlo (And.intro hhi hP')))
  obtain ⟨z0, z1, z2⟩ := box_cells hz10
  have y0 := frozen_blk hz10 0
  have y1 := frozen_blk hz10 1
  have y2 := frozen_blk hz10 2
  clear hp' hlo hhi hP' b0 b1 b2 hS' hchg1
  go_wp2
  have r0 := boxPut_at out hz10
  refine bodyPost_ret (v := .tuple #[out.v, .bool ob]) (by
    have r1 := cell_blk r0 0
    have r2 := cell_blk r0 1
    have r3 := cell_blk r0 2
    unfold boxPut at r1 r2 r3
    simp [results, Try.results44, go_sem, r1, r2, r3, Ent.v, ptr]) rfl ?_
  obtain ⟨hp', hlo, hhi, hP'⟩ := Hfin.out
  have hz11 : s'.F (b + 1) + G' (b + 1) = 0 := Hz10.out
  exact ⟨out, ob, s', G', rfl, hp', H'.boxPut (b := b + 1) (by omega) out, hlo, hhi, hP', hPl'.boxPut (b := b + 1) (by omega) out, HS.out.boxPut (b := b + 1) (by rw [Hb.out]; omega) out⟩

set_option maxRecDepth 100000 in
set_option maxHeartbeats 4000000 in
theorem rem_small_hit {h : Nat} {w : World} {c p lo hi : Nat} {P : List Ent → Ent → Prop} {iv cv : Value} {A B : List Ent} {S : List Sub} {t : Sub} {T : List Sub} {G : Nat → Nat} {e : Ent} (M : Mid w c h p iv cv A B S t T G) (ht : t.n ≤ 31) (hn : (A ++ B).length ≤ 1000) (hsi : Asc (A ++ B)) (hk : HitAt (A ++ B) e S.length)
    (HG : ∀ w', Mid w' c h p iv cv A B S t T G → Calls Try.prog 57 #[.pointer (some ⟨p, 0, none⟩), .int .i64 (S.length : Int), e.v, .int .i64 31, .int .i64 0] w' fun r w'' => RemLeft w' w'' c (h + 1) p lo hi (midF p iv cv S t T G) P r) :
    Calls Try.prog 44 #[.pointer (some ⟨p, 0, none⟩), e.v, .int .i64 31, .int .i64 0] w fun r w' => RemLeft w w' c (h + 1) p lo hi (midF p iv cv S t T G) P r := by
  obtain ⟨k, hkS⟩ : ∃ k, k = S.length := ⟨_, rfl⟩
  rw [← hkS] at hk
  obtain ⟨m, hml⟩ : ∃ m, m = (kids (S ++ t :: T)).length := ⟨_, rfl⟩
  have hkl := kids_length (S ++ t :: T)
  have hsl := M.sl
  have htl := M.tl
  obtain ⟨gc, cc, hcv⟩ : ∃ gc cc, cv = .slice (some ⟨gc, 0, none⟩) m cc := by
    rcases M.node.rc.form with ⟨_, h1⟩ | ⟨gc, cc, h1⟩
    · rw [h1] at hkl; simp at hkl
    · exact ⟨gc, cc, by rw [h1, hml]⟩
  subst hcv
  have hmk : k < m := by rw [hml, hkl, hkS]; simp
  have hm1 : (m : Int) ≠ 0 := by omega
  have hm2 : ((m : Int) == 0) = false := by simpa using hm1
  have hk1 : (k : Int) ≤ 1000 := by rw [hkS, hsl]; simp at hn; omega
  have hix : ∀ w', (Instr.indexAt 104 (.slice (some ⟨gc, 0, none⟩) m cc) (.int .i64 (k : Int))).run Try.prog w' = .ok (.pointer (some ⟨gc, k, none⟩)) w' :=
    fun w' => by have := run_ix (P := Try.prog) 104 1 gc m cc k (k : Int) rfl (by omega) Try.underlying104 (fun _ => by kernel_rfl) w'; rw [Nat.mul_one] at this; exact this
  obtain ⟨f, hcow, _⟩ := M.pool.cow
  obtain ⟨W, hW, ⟨hbox, hzero⟩, hchg⟩ : ∃ W, W = (w.alloc (Obj.cells #[Value.string e.key, Value.int IntKind.u64 e.ver, Value.slice e.va e.vn e.vc] 33)).alloc (Obj.cells #[Value.string { data := #[] }, Value.int IntKind.u64 0, Value.slice none 0 0] 33) ∧
      (W.heap[w.heap.size]? = some (.cells #[Value.string e.key, Value.int IntKind.u64 e.ver, Value.slice e.va e.vn e.vc] 33 (0, 0)) ∧
      W.heap[w.heap.size + 1]? = some (.cells #[Value.string { data := #[] }, Value.int IntKind.u64 0, Value.slice none 0 0] 33 (0, 0))) ∧ Chg0 w W :=
    ⟨_, rfl, two_boxes w _ _ _ _, ((Chg.refl _ w).alloc _).alloc _⟩
  have MW := M.grew hchg
  have HB0 : Hid (∀ j, midF p iv (.slice (some ⟨gc, 0, none⟩) m cc) S t T G (w.heap.size + j) = 0) := fun j => M.zero (by omega)
  have hkat := kids_at S t T
  rw [← hkS] at hkat
  have hcowW := hchg.blk hcow
  have c0 : W.cell? ⟨p, 0, none⟩ = some iv := cell_blk MW.node.blk 0
  have c2 : W.cell? ⟨p, 2, none⟩ = some (.pointer (some ⟨c, 0, none⟩)) := cell_blk MW.node.blk 2
  have l1 : W.cell? ⟨c, 1, none⟩ = some (.func (.func 29) #[] #[]) := cell_blk hcowW 1
  obtain ⟨b0, b1, b2⟩ := box_cells hbox
  have ht' : (t.n : Int) ≤ 31 := by omega
  have Hkat := hide hkat
  have HkS := hide hkS
  have Hsl := hide hsl
  have Ht := hide ht
  have HHG := hide HG
  have hchgW := hide hchg
  have Hsi := hide hsi
  have Hn := hide hn
  have Hk := hide hk
  clear hkat hkS hsl ht hchg M hml hkl hmk hn hsi hk htl hcow hcowW HG
  unfold Ent.v
  go_enter Try.func44, Try.ntmps44
  go_wp2
  rw [← hW]
  clear hW
  generalize hbb : w.heap.size = b at *
  have Hb := hide hbb
  clear hbb
  go_region_held3 (fun w' => w'.cell? ⟨p, 0, none⟩ = some iv ∧ w'.cell? ⟨p, 2, none⟩ = some (.pointer (some ⟨c, 0, none⟩)) ∧ w'.cell? ⟨c, 1, none⟩ = some (.func (.func 29) #[] #[]) ∧ w'.cell? ⟨b, 0, none⟩ = some (.string e.key) ∧ w'.cell? ⟨b, 1, none⟩ = some (.int .u64 e.ver) ∧ w'.cell? ⟨b, 2, none⟩ = some (.slice e.va e.vn e.vc))
    (first | exact ⟨c0, c2, l1, b0, b1, b2⟩ | exact ⟨Chg0.cell hc c0, Chg0.cell hc c2, Chg0.cell hc l1, Chg0.cell hc b0, Chg0.cell hc b1, Chg0.cell hc b2⟩)
    ((go_at_call 43; refine (find_hit MW.node.drew.ri Hsi.out (by have := Hn.out; omega) e Hk.out).mono ?_; rintro _ w1 ⟨rfl, hc⟩))
  have hb1x := hide (hc.blk (w := W.drew) hbox)
  have hz1x := hide (hc.blk (w := W.drew) hzero)
  have hc' : Chg0 W w1 := ((Chg.refl (fun _ => 0) W).drew).trans hc
  have M1 := MW.grew hc'
  have hcc := hide hc'
  have hS1 := M1.stp.pre hc'
  clear hc hc' c0 c2 l1 b0 b1 b2 MW
  obtain ⟨spc, hrc⟩ := M1.node.rc.blkOf
  have x0 : w1.cell? ⟨gc, k, none⟩ = some (.pointer (some ⟨t.p, 0, none⟩)) := ptr_at hrc Hkat.out
  have c1 : w1.cell? ⟨p, 1, none⟩ = some (.slice (some ⟨gc, 0, none⟩) m cc) := cell_blk M1.node.blk 1
  have hkt := M1.kid t (by simp)
  obtain ⟨tiv, tcv, tits, tcps, hNt, htl, _, _, htF⟩ := hkt.1.node
  obtain ⟨ta, tc, htiv⟩ := hNt.iform
  subst htiv
  rw [← htl] at hNt
  have d0 : w1.cell? ⟨t.p, 0, none⟩ = some (.slice ta t.n tc) := cell_blk hNt.blk 0
  have d2 : w1.cell? ⟨t.p, 2, none⟩ = some (.pointer (some ⟨c, 0, none⟩)) := cell_blk hNt.blk 2
  clear hrc hNt htl
  have HC := HHG.out w1 M1
  rw [← HkS.out] at HC
  have hb1 := hb1x.out
  have hzero1 := hz1x.out
  obtain ⟨b0, b1, b2⟩ := box_cells hb1
  have hchg1 : Hid (Chg0 w w1) := hchgW.out.trans hcc.out
  have HB1 : Hid (midF p iv (.slice (some ⟨gc, 0, none⟩) m cc) S t T G (b + 1) = 0) := HB0.out 1
  clear HHG hS1 hb1x hz1x
  unfold Ent.v at HC
  go_wp2_with (fail)
  refine HC.mono ?_
  clear HC
  rintro _ w10 ⟨out, ob, s', G', rfl, hp', H', hlo, hhi, hP', hPl', hS'⟩
  unfold Ent.v
  have hz10 := hS'.blk hzero1 HB1.out
  have Hz10 := hide (hS'.zero hzero1 HB1.out)
  have HS := hide (hS'.pre hchg1.out)
  have Hfin := hide (And.intro hp' (And.intro hlo (And.intro hhi hP')))
  obtain ⟨z0, z1, z2⟩ := box_cells hz10
  have y0 := frozen_blk hz10 0
  have y1 := frozen_blk hz10 1
  have y2 := frozen_blk hz10 2
  clear hp' hlo hhi hP' b0 b1 b2 hS' hchg1
  go_wp2
  have r0 := boxPut_at out hz10
  refine bodyPost_ret (v := .tuple #[out.v, .bool ob]) (by
    have r1 := cell_blk r0 0
    have r2 := cell_blk r0 1
    have r3 := cell_blk r0 2
    unfold boxPut at r1 r2 r3
    simp [results, Try.results44, go_sem, r1, r2, r3, Ent.v, ptr]) rfl ?_
  obtain ⟨hp', hlo, hhi, hP'⟩ := Hfin.out
  have hz11 : s'.F (b + 1) + G' (b + 1) = 0 := Hz10.out
  exact ⟨out, ob, s', G', rfl, hp', H'.boxPut (b := b + 1) (by omega) out, hlo, hhi, hP', hPl'.boxPut (b := b + 1) (by omega) out, HS.out.boxPut (b := b + 1) (by rw [Hb.out]; omega) out⟩

end Go.Proofs.Qxb6603483a
