/-
  remove in an inner node whose child can spare an item.
-/
import Derived.Test.Qxb6603483aOpen
import Derived.Test.Qxb6603483aInsIn
namespace Go.Proofs.Qxb6603483a
open Go.RowKit
set_option linter.unusedSimpArgs false
attribute [local go_sem ↓] Go.wp_at_zero Go.wp_at_succ

/-- What remove leaves. -/
def RemLeft (w w' : World) (c h : Nat) (p lo hi : Nat) (F0 : Nat → Nat) (P : List Ent → Ent → Prop) (r : Ending) : Prop :=
  ∃ (out : Ent) (b : Bool) (s' : Sub) (G' : Nat → Nat), r = .returned (.tuple #[out.v, .bool b]) ∧ s'.p = p ∧ IsT w' c h s' ∧ lo ≤ s'.n ∧ s'.n ≤ hi ∧ P s'.xs out ∧ Pool w' c G' ∧ Stp F0 w w' (fun k => s'.F k + G' k)

def RemK (h : Nat) : Prop := ∀ (w : World) (c : Nat) (s : Sub) (G : Nat → Nat) (e : Ent), IsT w c h s → Asc s.xs → Pool w c G → (∀ k, s.F k + G k ≤ 1) → (h ≠ 0 → 1 ≤ s.n) → s.n ≤ 1000 →
  Calls Try.prog 44 #[.pointer (some ⟨s.p, 0, none⟩), e.v, .int .i64 31, .int .i64 0] w fun r w' => RemLeft w w' c h s.p (s.n - 1) s.n (fun k => s.F k + G k) (fun xs _ => xs = del e.key s.xs) r
def RemM (h : Nat) : Prop := ∀ (w : World) (c : Nat) (s : Sub) (G : Nat → Nat) (e : Ent), IsT w c h s → Pool w c G → (∀ k, s.F k + G k ≤ 1) → 1 ≤ s.n → s.n ≤ 1000 →
  Calls Try.prog 44 #[.pointer (some ⟨s.p, 0, none⟩), e.v, .int .i64 31, .int .i64 2] w fun r w' => RemLeft w w' c h s.p (s.n - 1) s.n (fun k => s.F k + G k) (fun xs out => s.xs = xs ++ [out]) r

set_option maxRecDepth 100000 in
set_option maxHeartbeats 4000000 in
theorem rem_max_big {h : Nat} (IH : RemM h) {w : World} {c p : Nat} {iv cv : Value} {A : List Ent} {S : List Sub} {t : Sub} {G : Nat → Nat} {e : Ent} (M : Mid w c h p iv cv A [] S t [] G) (ht : 32 ≤ t.n) (hn : A.length ≤ 1000) :
    Calls Try.prog 44 #[.pointer (some ⟨p, 0, none⟩), e.v, .int .i64 31, .int .i64 2] w fun r w' => RemLeft w w' c (h + 1) p A.length A.length (midF p iv cv S t [] G) (fun xs out => weave (A ++ []) (S ++ [t]) = xs ++ [out]) r := by
  obtain ⟨k, hkS⟩ : ∃ k, k = S.length := ⟨_, rfl⟩
  obtain ⟨m, hml⟩ : ∃ m, m = (kids (S ++ [t])).length := ⟨_, rfl⟩
  have hkl := kids_length (S ++ [t])
  have hsl := M.sl
  obtain ⟨gc, cc, hcv⟩ : ∃ gc cc, cv = .slice (some ⟨gc, 0, none⟩) m cc := by
    rcases M.node.rc.form with ⟨_, h1⟩ | ⟨gc, cc, h1⟩
    · rw [h1] at hkl; simp at hkl
    · exact ⟨gc, cc, by rw [h1, hml]⟩
  subst hcv
  obtain ⟨ia, icap, hiv⟩ : ∃ a cap, iv = .slice a k cap := by
    obtain ⟨a, cap, h1⟩ := M.node.iform
    exact ⟨a, cap, by rw [h1, hkS, hsl]; simp⟩
  subst hiv
  have hmk : m = k + 1 := by rw [hml, hkl, hkS]; simp
  have hm1 : (m : Int) ≠ 0 := by omega
  have hm2 : ((m : Int) == 0) = false := by simpa using hm1
  have hk1 : (k : Int) ≤ 1000 := by omega
  have hix : ∀ w', (Instr.indexAt 104 (.slice (some ⟨gc, 0, none⟩) m cc) (.int .i64 (k : Int))).run Try.prog w' = .ok (.pointer (some ⟨gc, k, none⟩)) w' :=
    fun w' => by have := run_ix (P := Try.prog) 104 1 gc m cc k (k : Int) rfl (by omega) Try.underlying104 (fun _ => by kernel_rfl) w'; rw [Nat.mul_one] at this; exact this
  obtain ⟨W, hW, ⟨hbox, hzero⟩, hchg⟩ : ∃ W, W = (w.alloc (Obj.cells #[Value.string e.key, Value.int IntKind.u64 e.ver, Value.slice e.va e.vn e.vc] 33)).alloc (Obj.cells #[Value.string { data := #[] }, Value.int IntKind.u64 0, Value.slice none 0 0] 33) ∧
      (W.heap[w.heap.size]? = some (.cells #[Value.string e.key, Value.int IntKind.u64 e.ver, Value.slice e.va e.vn e.vc] 33 (0, 0)) ∧
      W.heap[w.heap.size + 1]? = some (.cells #[Value.string { data := #[] }, Value.int IntKind.u64 0, Value.slice none 0 0] 33 (0, 0))) ∧ Chg0 w W :=
    ⟨_, rfl, two_boxes w _ _ _ _, ((Chg.refl _ w).alloc _).alloc _⟩
  have MW := M.grew hchg
  have HB0 : Hid (∀ j, midF p (.slice ia k icap) (.slice (some ⟨gc, 0, none⟩) m cc) S t [] G (w.heap.size + j) = 0) := fun j => M.zero (by omega)
  have hkat := kids_at S t []
  rw [← hkS] at hkat
  obtain ⟨spc, hrc⟩ := MW.node.rc.blkOf
  have x0 : W.cell? ⟨gc, k, none⟩ = some (.pointer (some ⟨t.p, 0, none⟩)) := ptr_at hrc hkat
  have c0 : W.cell? ⟨p, 0, none⟩ = some (.slice ia k icap) := cell_blk MW.node.blk 0
  have c1 : W.cell? ⟨p, 1, none⟩ = some (.slice (some ⟨gc, 0, none⟩) m cc) := cell_blk MW.node.blk 1
  have hkt := MW.kid t (by simp)
  obtain ⟨tiv, tcv, tits, tcps, hNt, htl, _, _, htF⟩ := hkt.1.node
  obtain ⟨ta, tc, htiv⟩ := hNt.iform
  subst htiv
  rw [← htl] at hNt
  have d0 : W.cell? ⟨t.p, 0, none⟩ = some (.slice ta t.n tc) := cell_blk hNt.blk 0
  have d2 : W.cell? ⟨t.p, 2, none⟩ = some (.pointer (some ⟨c, 0, none⟩)) := cell_blk hNt.blk 2
  have ht' : ¬ (t.n : Int) ≤ 31 := by omega
  have Hkat := hide hkat
  have HkS := hide hkS
  have Hsl := hide hsl
  have Ht := hide ht
  have HIH := hide IH
  have hchgW := hide hchg
  have hW' := hW.symm
  clear hW hkat hkS hsl ht IH hchg hrc hNt htl M hml hkl hmk hn
  unfold Ent.v
  go_enter Try.func44, Try.ntmps44
  go_wp2_with (fail)
  clear hW'
  generalize hbb : w.heap.size = b at *
  have Hb := hide hbb
  clear hbb
  refine (mutableChild (q := t.p) MW.node Hkat.out d2).mono ?_
  rintro _ w5 ⟨rfl, hN5, hS5⟩
  unfold ptr
  obtain ⟨M5, hT5⟩ := MW.own hN5 hS5 rfl rfl
  have hb5 := hT5.blk hbox (HB0.out 0)
  have hu5 := M5.uniq
  have hsm := sum_mid S t []
  obtain ⟨b0, b1, b2⟩ := box_cells hb5
  clear c0 c1 x0 d0 d2
  go_wp2_with (fail)
  refine (HIH.out w5 c t G e (M5.kid t (by simp)).1 M5.pool (fun k => by have := hu5 k; have := hsm k; omega) (by have := Ht.out; omega) (by have := (M5.kid t (by simp)).2.2; omega)).mono ?_
  rintro _ w6 ⟨out, ob, t6, G6, rfl, hp6, H6, hn6, hn6', hx6, hP6, hS6⟩
  unfold Ent.v
  obtain ⟨M6, hT6⟩ := M5.child H6 hp6 ⟨by have := Ht.out; omega, by omega⟩ hP6 hS6
  have hT := hT5.trans hT6
  have hz6 := hT.blk hzero (HB0.out 1)
  have hz := hT.zero hzero (HB0.out 1)
  have HX6 : Hid (t.xs = t6.xs ++ [out]) := hx6
  have Hp6 := hide hp6
  obtain ⟨z0, z1, z2⟩ := box_cells hz6
  have y0 := frozen_blk hz6 0
  have y1 := frozen_blk hz6 1
  have y2 := frozen_blk hz6 2
  clear hx6 hp6 hT5 hT6 b0 b1 b2 hb5
  go_wp2
  have r0 := boxPut_at out hz6
  refine bodyPost_ret (v := .tuple #[out.v, .bool ob]) (by
    have r1 := cell_blk r0 0
    have r2 := cell_blk r0 1
    have r3 := cell_blk r0 2
    unfold boxPut at r1 r2 r3
    simp [results, Try.results44, go_sem, r1, r2, r3, Ent.v, ptr]) rfl ?_
  unfold midF at hz
  refine ⟨out, ob, _, G6, rfl, ?_, M6.whole.boxPut (b := b + 1) ?_ out, ?_, ?_, ?_, hP6.boxPut (b := b + 1) (by omega) out, (hT.pre hchgW.out).boxPut (b := b + 1) (by rw [Hb.out]; omega) out⟩
  · rfl
  · show nodeF p _ _ (b + 1) + sumF (S ++ [t6]) (b + 1) = 0
    omega
  · show A.length ≤ (A ++ []).length
    simp
  · show (A ++ []).length ≤ A.length
    simp
  · show weave (A ++ []) (S ++ [t]) = weave (A ++ []) (S ++ [t6]) ++ [out]
    rw [weave_at A S [] t [] Hsl.out, weave_at A S [] t6 [] Hsl.out, HX6.out]
    simp [wtail]

end Go.Proofs.Qxb6603483a
