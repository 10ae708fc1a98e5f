/-
  ReplaceOrInsert into a tree with a root.
-/
import Derived.Test.Qxb6603483aRoot
import Derived.Test.Qxb6603483aLast
namespace Go.Proofs.Qxb6603483a
open Go.RowKit
set_option linter.unusedSimpArgs false
attribute [local go_sem ↓] Go.wp_at_zero Go.wp_at_succ

/-- On the way to the root's insert. -/
def OnRoot (W wd : World) (t c : Nat) (X : List Ent) (F0 : Nat → Nat) : Prop :=
  ∃ len h s G, Root wd t c len h s G ∧ s.n ≤ 62 ∧ (h = 0 ∨ 1 ≤ s.n) ∧ s.xs = X ∧ Stp F0 W wd (rootF t s G)

theorem Root.cells {w : World} {t c : Nat} {len : Int} {h : Nat} {s : Sub} {G : Nat → Nat} (R : Root w t c len h s G) : w.cell? ⟨t, 0, none⟩ = some (.int .i64 32) ∧ w.cell? ⟨t, 1, none⟩ = some (.int .i64 len) ∧ w.cell? ⟨t, 2, none⟩ = some (.pointer (some ⟨s.p, 0, none⟩)) ∧ w.cell? ⟨t, 3, none⟩ = some (.pointer (some ⟨c, 0, none⟩)) :=
  ⟨cell_blk R.blk 0, cell_blk R.blk 1, cell_blk R.blk 2, cell_blk R.blk 3⟩

theorem Root.boxPut {w : World} {t c : Nat} {len : Int} {h : Nat} {s : Sub} {G : Nat → Nat} (R : Root w t c len h s G) {b : Nat} (h0 : rootF t s G b = 0) (e : Ent) : Root (boxPut w b e) t c len h s G := by
  unfold rootF at h0
  exact ⟨(boxPut_other e (fun e => by rw [e, one_self] at h0; omega)).trans R.blk, R.tree.boxPut (by omega) e, R.pool.boxPut (by omega) e, R.uniq⟩

/-- What the region around insert leaves. -/
def InsLeft (wc wd : World) (t c : Nat) (len : Int) (h : Nat) (s : Sub) (G : Nat → Nat) (e : Ent) (s9 s10 : Value) : Prop :=
  ∃ (q : Nat) (old : Ent) (ob : Bool) (s5 : Sub) (G5 : Nat → Nat), s9 = .pointer (some ⟨q, 0, none⟩) ∧ s10 = .bool ob ∧ wd.heap[q]? = some (.cells #[.string old.key, .int .u64 old.ver, .slice old.va old.vn old.vc] 33 (0, 0)) ∧ wc.heap.size ≤ q ∧
    Root wd t c len h s5 G5 ∧ s.n ≤ s5.n ∧ s5.n ≤ s.n + 1 ∧ s5.xs = ins e s.xs ∧ Stp (rootF t s G) wc wd (rootF t s5 G5)

theorem insLeft_last {wc w5 : World} {t c : Nat} {len : Int} {h : Nat} {s s5 : Sub} {G G5 : Nat → Nat} {e old : Ent} {ob : Bool} (R : Root wc t c len h s G) (hp : s5.p = s.p) (H : IsT w5 c h s5) (h1 : s.n ≤ s5.n) (h2 : s5.n ≤ s.n + 1) (hx : s5.xs = ins e s.xs) (hP : Pool w5 c G5) (hS : Stp (fun k => s.F k + G k) wc.drew w5 (fun k => s5.F k + G5 k)) :
    InsLeft wc (w5.alloc (Obj.cells #[Value.string old.key, Value.int IntKind.u64 old.ver, Value.slice old.va old.vn old.vc] 33)) t c len h s G e (.pointer (some ⟨w5.heap.size, 0, none⟩)) (.bool ob) := by
  obtain ⟨R5, hT5⟩ := R.step H hp hP hS.predrew
  have hc := (Chg.refl (fun _ => 0) w5).alloc (Obj.cells #[Value.string old.key, Value.int IntKind.u64 old.ver, Value.slice old.va old.vn old.vc] 33)
  exact ⟨_, old, ob, s5, G5, rfl, rfl, (MapKept.heap_alloc w5 _).1, hT5.chg.size, R5.grew hc, h1, h2, hx, hT5.post hc⟩
theorem insLeft_first {wc w5 : World} {t c : Nat} {len : Int} {h : Nat} {s s5 : Sub} {G G5 : Nat → Nat} {e old : Ent} {ob : Bool} (R : Root wc t c len h s G) (hp : s5.p = s.p) (H : IsT w5 c h s5) (h1 : s.n ≤ s5.n) (h2 : s5.n ≤ s.n + 1) (hx : s5.xs = ins e s.xs) (hP : Pool w5 c G5)
    (hS : Stp (fun k => s.F k + G k) (wc.alloc (Obj.cells #[Value.string { data := #[] }, Value.int IntKind.u64 0, Value.slice none 0 0] 33)).drew w5 (fun k => s5.F k + G5 k)) :
    InsLeft wc (Qxb6603483a.boxPut w5 wc.heap.size old) t c len h s G e (.pointer (some ⟨wc.heap.size, 0, none⟩)) (.bool ob) := by
  have hc := (Chg.refl (fun _ => 0) wc).alloc (Obj.cells #[Value.string { data := #[] }, Value.int IntKind.u64 0, Value.slice none 0 0] 33)
  obtain ⟨R5, hT5⟩ := (R.grew hc).step H hp hP hS.predrew
  have hq := (MapKept.heap_alloc wc (Obj.cells #[Value.string { data := #[] }, Value.int IntKind.u64 0, Value.slice none 0 0] 33)).1
  have h0 := R.zero (Nat.le_refl wc.heap.size)
  exact ⟨_, old, ob, s5, G5, rfl, rfl, boxPut_at old (hT5.blk hq h0), Nat.le_refl _, R5.boxPut (hT5.zero hq h0) old, h1, h2, hx, (hT5.pre hc).boxPut (Nat.le_refl _) old⟩

/-- Two halves under the tree's block, the root not yet made. -/
structure Two (w : World) (t c : Nat) (len : Int) (h : Nat) (t1 t2 : Sub) (G : Nat → Nat) : Prop where
  blk : w.heap[t]? = some (.cells #[.int .i64 32, .int .i64 len, ptr t1.p, ptr c] 87 (0, 0))
  one1 : IsT w c h t1
  one2 : IsT w c h t2
  pool : Pool w c G
  uniq : ∀ k, one t k + t1.F k + t2.F k + G k ≤ 1
def twoF (t : Nat) (t1 t2 : Sub) (G : Nat → Nat) : Nat → Nat := fun k => one t k + t1.F k + t2.F k + G k

def SplitLeft (wc wd : World) (t c : Nat) (len : Int) (h : Nat) (s : Sub) (G : Nat → Nat) (s6 s7 : Value) : Prop :=
  ∃ (d : Nat) (e1 : Ent) (t1 t2 : Sub) (G5 : Nat → Nat), s6 = .pointer (some ⟨d, 0, none⟩) ∧ s7 = .pointer (some ⟨t2.p, 0, none⟩) ∧ wd.heap[d]? = some (.cells #[.string e1.key, .int .u64 e1.ver, .slice e1.va e1.vn e1.vc] 33 (0, 0)) ∧ wc.heap.size ≤ d ∧
    Two wd t c len h t1 t2 G5 ∧ t1.n = 31 ∧ t2.n = 31 ∧ s.xs = t1.xs ++ e1 :: t2.xs ∧ twoF t t1 t2 G5 d = 0 ∧ Stp (rootF t s G) wc wd (twoF t t1 t2 G5)

theorem Root.split {w w' : World} {t c : Nat} {len : Int} {h : Nat} {s t1 t2 : Sub} {G G' : Nat → Nat} (R : Root w t c len h s G) (hp : t1.p = s.p) (H1 : IsT w' c h t1) (H2 : IsT w' c h t2) (hP : Pool w' c G') (hS : Stp (fun k => s.F k + G k) w w' (fun k => t1.F k + t2.F k + G' k)) :
    Two w' t c len h t1 t2 G' ∧ Stp (rootF t s G) w w' (twoF t t1 t2 G') := by
  have hu := R.uniq
  have htl := (Array.getElem?_eq_some_iff.1 R.blk).1
  have hT := (hS.frame (one t) (fun k => by have := hu k; omega) (fun k hk => by rw [one_pos hk]; exact htl)).congr (A' := rootF t s G) (B' := twoF t t1 t2 G') (fun k => by unfold rootF; omega) (fun k => by unfold twoF; omega)
  refine ⟨⟨?_, H1, H2, hP, hT.uniq⟩, hT⟩
  rw [hp]
  exact (hS.chg.same t htl (by have := hu t; rw [one_self] at this; show s.F t + G t = 0; omega)).trans R.blk
theorem Two.grew {w w' : World} {t c : Nat} {len : Int} {h : Nat} {t1 t2 : Sub} {G : Nat → Nat} (R : Two w t c len h t1 t2 G) (hc : Chg0 w w') : Two w' t c len h t1 t2 G :=
  ⟨hc.blk R.blk, R.one1.keep hc (fun k => by have := R.one1.uniq k; omega), R.one2.keep hc (fun k => by have := R.one2.uniq k; omega), R.pool.keep hc (fun k => by have := R.pool.uniq k; omega), R.uniq⟩
theorem Two.lt {w : World} {t c : Nat} {len : Int} {h : Nat} {t1 t2 : Sub} {G : Nat → Nat} (R : Two w t c len h t1 t2 G) {k : Nat} (hk : 1 ≤ twoF t t1 t2 G k) : k < w.heap.size := by
  unfold twoF at hk
  by_cases h1 : 1 ≤ one t k
  · rw [one_pos h1]; exact (Array.getElem?_eq_some_iff.1 R.blk).1
  by_cases h2 : 1 ≤ t1.F k
  · exact R.one1.lt h2
  by_cases h3 : 1 ≤ t2.F k
  · exact R.one2.lt h3
  exact R.pool.lt (by omega)
theorem Two.boxPut {w : World} {t c : Nat} {len : Int} {h : Nat} {t1 t2 : Sub} {G : Nat → Nat} (R : Two w t c len h t1 t2 G) {b : Nat} (h0 : twoF t t1 t2 G b = 0) (e : Ent) : Two (boxPut w b e) t c len h t1 t2 G := by
  unfold twoF at h0
  exact ⟨(boxPut_other e (fun e => by rw [e, one_self] at h0; omega)).trans R.blk, R.one1.boxPut (by omega) e, R.one2.boxPut (by omega) e, R.pool.boxPut (by omega) e, R.uniq⟩

theorem splitLeft_last {wc w5 : World} {t c : Nat} {len : Int} {h : Nat} {s t1 t2 : Sub} {G G5 : Nat → Nat} {e1 : Ent} (R : Root wc t c len h s G) (hp : t1.p = s.p) (H1 : IsT w5 c h t1) (H2 : IsT w5 c h t2) (h1 : t1.n = 31) (h2 : t2.n = 31) (hx : s.xs = t1.xs ++ e1 :: t2.xs) (hP : Pool w5 c G5) (hS : Stp (fun k => s.F k + G k) wc.drew w5 (fun k => t1.F k + t2.F k + G5 k)) :
    SplitLeft wc (w5.alloc (Obj.cells #[Value.string e1.key, Value.int IntKind.u64 e1.ver, Value.slice e1.va e1.vn e1.vc] 33)) t c len h s G (.pointer (some ⟨w5.heap.size, 0, none⟩)) (.pointer (some ⟨t2.p, 0, none⟩)) := by
  obtain ⟨R5, hT5⟩ := R.split hp H1 H2 hP hS.predrew
  have hc := (Chg.refl (fun _ => 0) w5).alloc (Obj.cells #[Value.string e1.key, Value.int IntKind.u64 e1.ver, Value.slice e1.va e1.vn e1.vc] 33)
  have h0 : twoF t t1 t2 G5 w5.heap.size = 0 := by
    have : ¬ 1 ≤ twoF t t1 t2 G5 w5.heap.size := fun h => by have := R5.lt h; omega
    omega
  exact ⟨_, e1, t1, t2, G5, rfl, rfl, (MapKept.heap_alloc w5 _).1, hT5.chg.size, R5.grew hc, h1, h2, hx, h0, hT5.post hc⟩
theorem splitLeft_first {wc w5 : World} {t c : Nat} {len : Int} {h : Nat} {s t1 t2 : Sub} {G G5 : Nat → Nat} {e1 : Ent} (R : Root wc t c len h s G) (hp : t1.p = s.p) (H1 : IsT w5 c h t1) (H2 : IsT w5 c h t2) (h1 : t1.n = 31) (h2 : t2.n = 31) (hx : s.xs = t1.xs ++ e1 :: t2.xs) (hP : Pool w5 c G5)
    (hS : Stp (fun k => s.F k + G k) (wc.alloc (Obj.cells #[Value.string { data := #[] }, Value.int IntKind.u64 0, Value.slice none 0 0] 33)).drew w5 (fun k => t1.F k + t2.F k + G5 k)) :
    SplitLeft wc (Qxb6603483a.boxPut w5 wc.heap.size e1) t c len h s G (.pointer (some ⟨wc.heap.size, 0, none⟩)) (.pointer (some ⟨t2.p, 0, none⟩)) := by
  have hc := (Chg.refl (fun _ => 0) wc).alloc (Obj.cells #[Value.string { data := #[] }, Value.int IntKind.u64 0, Value.slice none 0 0] 33)
  obtain ⟨R5, hT5⟩ := (R.grew hc).split hp H1 H2 hP hS.predrew
  have hq := (MapKept.heap_alloc wc (Obj.cells #[Value.string { data := #[] }, Value.int IntKind.u64 0, Value.slice none 0 0] 33)).1
  have h0 := R.zero (Nat.le_refl wc.heap.size)
  exact ⟨_, e1, t1, t2, G5, rfl, rfl, boxPut_at e1 (hT5.blk hq h0), Nat.le_refl _, R5.boxPut (hT5.zero hq h0) e1, h1, h2, hx, hT5.zero hq h0, (hT5.pre hc).boxPut (Nat.le_refl _) e1⟩

set_option maxRecDepth 100000 in
set_option maxHeartbeats 60000000 in
theorem repl_root {w : World} {t c : Nat} {len : Int} {h : Nat} {s : Sub} {G : Nat → Nat} {e : Ent} (R : Root w t c len h s G) (hn : s.n ≤ 63) (hh : h = 0 ∨ 1 ≤ s.n) (hs : Asc s.xs) :
    Calls Try.prog 31 #[.pointer (some ⟨t, 0, none⟩), e.v] w fun r w' => ∃ (old : Ent) (b : Bool) (F' : Nat → Nat), r = .returned (.tuple #[old.v, .bool b]) ∧ Bt w' t (ins e s.xs) F' ∧ Stp (rootF t s G) w w' F' := by
  obtain ⟨i0, hi0, hz0, hz1, hz2⟩ := info_parts info33
  obtain ⟨i1, hi1, hy0, hy1, hy2⟩ := info_parts info84
  obtain ⟨W, hW, ⟨hbox, hzero⟩, hchg⟩ : ∃ W, W = (w.alloc (Obj.cells #[Value.string e.key, Value.int IntKind.u64 e.ver, Value.slice e.va e.vn e.vc] 33)).alloc (Obj.cells #[Value.string { data := #[] }, Value.int IntKind.u64 0, Value.slice none 0 0] 33) ∧
      (W.heap[w.heap.size]? = some (.cells #[Value.string e.key, Value.int IntKind.u64 e.ver, Value.slice e.va e.vn e.vc] 33 (0, 0)) ∧
      W.heap[w.heap.size + 1]? = some (.cells #[Value.string { data := #[] }, Value.int IntKind.u64 0, Value.slice none 0 0] 33 (0, 0))) ∧ Chg0 w W :=
    ⟨_, rfl, two_boxes w _ _ _ _, ((Chg.refl _ w).alloc _).alloc _⟩
  have RW := R.grew hchg
  obtain ⟨m0, m1, m2, m3⟩ := RW.cells
  have m2f : W.frozen? ⟨t, 2, none⟩ = false := frozen_blk RW.blk 2
  have sc : W.cell? ⟨s.p, 2, none⟩ = some (.pointer (some ⟨c, 0, none⟩)) := by
    obtain ⟨_, _, _, _, hNt, _⟩ := RW.tree.node
    exact cell_blk hNt.blk 2
  have HB : Hid (∀ j, rootF t s G (w.heap.size + j) = 0) := fun j => R.zero (by omega)
  have hchgW := hide hchg
  have Hn := hide hn
  have Hh := hide hh
  have Hs := hide hs
  have rs := root_setSame RW
  have rb : (W.setCell ⟨t, 2, none⟩ (.pointer (some ⟨s.p, 0, none⟩))).drew.cell? ⟨t, 2, none⟩ = some (.pointer (some ⟨s.p, 0, none⟩)) ∧ (W.setCell ⟨t, 2, none⟩ (.pointer (some ⟨s.p, 0, none⟩))).drew.cell? ⟨t, 3, none⟩ = some (.pointer (some ⟨c, 0, none⟩)) := ⟨cell_blk rs.1.blk 2, cell_blk rs.1.blk 3⟩
  have Hrs := hide rs
  clear R hchg hn hh hs rs
  unfold Ent.v
  go_enter Try.func31, Try.ntmps31
  have hW' := hW.symm
  clear hW
  go_wp2
  clear hW'
  generalize hbb : w.heap.size = b at *
  have Hb := hide hbb
  clear hbb
  go_cut [] (fun wd => Root wd t c len h s G ∧ Stp (rootF t s G) W wd (rootF t s G))
  case first =>
    go_region_held3 (fun w' => w'.cell? ⟨t, 2, none⟩ = some (.pointer (some ⟨s.p, 0, none⟩)) ∧ w'.cell? ⟨t, 3, none⟩ = some (.pointer (some ⟨c, 0, none⟩)))
      (first | exact ⟨m2, m3⟩ | exact rb)
      ((go_at_call 39; refine (mutableFor (p := s.p) (c := c) (by exact sc)).mono ?_; rintro _ w' ⟨rfl, rfl⟩))
    go_wp2
    go_meet
    case rel => exact ⟨⟨Hrs.out.1.blk, Hrs.out.1.tree.same (fun _ _ => rfl), Hrs.out.1.pool.same (fun _ _ => rfl), Hrs.out.1.uniq⟩, Hrs.out.2.drew⟩
  case rest =>
    obtain ⟨R1, hS1⟩ := hcut
    clear m0 m1 m2 m3 m2f sc rb Hrs RW
    obtain ⟨m0, m1, m2, m3⟩ := R1.cells
    obtain ⟨siv, scv, sits, scps, hNs, hsl, _, _, _⟩ := R1.tree.node
    obtain ⟨sa, scap, hsiv⟩ := hNs.iform
    subst hsiv
    rw [← hsl] at hNs
    have s0 : wc.cell? ⟨s.p, 0, none⟩ = some (.slice sa s.n scap) := cell_blk hNs.blk 0
    clear hNs hsl
    go_wp2
    go_quiet ((go_at_call 40; exact Calls.quiet_of_same (maxItems m0)))
    go_upto_if 69 with (fail)
    obtain ⟨w1, hw1, R2, hS2⟩ : ∃ w1, w1 = wc.drewN nq ∧ Root w1 t c len h s G ∧ Stp (rootF t s G) W w1 (rootF t s G) :=
      ⟨_, rfl, ⟨R1.blk, R1.tree.same (fun _ _ => rfl), R1.pool.same (fun _ _ => rfl), R1.uniq⟩, ⟨⟨hS1.chg.os, hS1.chg.tape, hS1.chg.output, hS1.chg.size, hS1.chg.same⟩, hS1.le, hS1.uniq, hS1.lt⟩⟩
    rw [← hw1]
    clear hw1 R1 hS1 m0 m1 m2 m3 s0
    go_cut [] (fun wd => OnRoot W wd t c s.xs (rootF t s G))
    case first =>
      by_cases hfull : s.n = 63
      · have hd : (63 : Int) ≤ (s.n : Int) := by omega
        have Hfull := hide hfull
        clear hfull
        obtain ⟨m0, m1, m2, m3⟩ := R2.cells
        have hcA : Chg0 w1 (w1.alloc (Obj.cells #[Value.string { data := #[] }, Value.int IntKind.u64 0, Value.slice none 0 0] 33)) := (Chg.refl _ w1).alloc _
        have RA := R2.grew hcA
        have hqA : (w1.alloc (Obj.cells #[Value.string { data := #[] }, Value.int IntKind.u64 0, Value.slice none 0 0] 33)).heap[w1.heap.size]? = some (.cells #[Value.string { data := #[] }, Value.int IntKind.u64 0, Value.slice none 0 0] 33 (0, 0)) := (MapKept.heap_alloc w1 _).1
        obtain ⟨a0, a1, a2, a3⟩ := RA.cells
        have htq : t ≠ w1.heap.size := by have := (Array.getElem?_eq_some_iff.1 R2.blk).1; omega
        have fq : s.F w1.heap.size + G w1.heap.size = 0 := by have := R2.zero (Nat.le_refl _); unfold rootF at this; omega
        have ft : s.F t + G t = 0 := by have := R2.uniq t; rw [one_self] at this; omega
        have hd3 : ∀ k, s.F k + G k ≤ 1 := fun k => by have := R2.uniq k; omega
        go_wp2
        go_cut [6, 7] (fun s6 s7 wd => SplitLeft w1 wd t c len h s G s6 s7)
        case first =>
          as_aux_lemma =>
            go_region_held3 (fun w' => w'.cell? ⟨t, 0, none⟩ = some (.int .i64 32) ∧ w'.cell? ⟨t, 2, none⟩ = some (.pointer (some ⟨s.p, 0, none⟩)))
              (first | exact ⟨m0, m2⟩ | exact ⟨a0, a2⟩ | exact ⟨cell_blk (hS5.blk R2.blk ft) 0, cell_blk (hS5.blk R2.blk ft) 2⟩ | exact ⟨cell_blk (hS5.blk RA.blk ft) 0, cell_blk (hS5.blk RA.blk ft) 2⟩ | exact ⟨Chg0.cell (hc6 _) (cell_blk (hS5.blk R2.blk ft) 0), Chg0.cell (hc6 _) (cell_blk (hS5.blk R2.blk ft) 2)⟩ | exact ⟨cell_blk ((boxPut_other e1 ht5).trans ((hc6 _).blk (hS5.blk R2.blk ft))) 0, cell_blk ((boxPut_other e1 ht5).trans ((hc6 _).blk (hS5.blk R2.blk ft))) 2⟩ | exact ⟨cell_blk ((boxPut_other e1 htq).trans (hS5.blk RA.blk ft)) 0, cell_blk ((boxPut_other e1 htq).trans (hS5.blk RA.blk ft)) 2⟩)
              ((first | (go_at_call 40; refine (maxItems (by first | exact m0 | exact a0)).mono ?_; rintro _ w' ⟨rfl, rfl⟩) | (go_at_call 41; refine (splitT (w := w1.drew) (R2.tree.same (fun _ _ => rfl)) Hfull.out (R2.pool.same (fun _ _ => rfl)) hd3).mono ?_; rintro _ w5 ⟨e1, t1, t2, G5, rfl, hp5, H51, H52, hn51, hn52, hx5, hP5, hS5⟩; unfold Ent.v ptr; have hc6 : ∀ o, Chg0 w5 (w5.alloc o) := fun o => (Chg.refl _ w5).alloc o; have ht5 : t ≠ w5.heap.size := by { have := (Array.getElem?_eq_some_iff.1 (hS5.blk R2.blk ft)).1; omega }; have Hp5 := hide hp5; have Hn51 := hide hn51; have Hn52 := hide hn52; have Hx5 := hide hx5; clear hp5 hn51 hn52 hx5) | (go_at_call 41; refine (splitT (w := (w1.alloc (Obj.cells #[Value.string { data := #[] }, Value.int IntKind.u64 0, Value.slice none 0 0] 33)).drew) (RA.tree.same (fun _ _ => rfl)) Hfull.out (RA.pool.same (fun _ _ => rfl)) hd3).mono ?_; rintro _ w5 ⟨e1, t1, t2, G5, rfl, hp5, H51, H52, hn51, hn52, hx5, hP5, hS5⟩; unfold Ent.v ptr; have hq5 := hS5.blk hqA fq; obtain ⟨q0, q1, q2⟩ := box_cells hq5; have y0 := frozen_blk hq5 0; have y1 := frozen_blk hq5 1; have y2 := frozen_blk hq5 2; have Hp5 := hide hp5; have Hn51 := hide hn51; have Hn52 := hide hn52; have Hx5 := hide hx5; clear hp5 hn51 hn52 hx5)))
            all_goals
              go_wp2
              go_meet
              case rel => first | exact splitLeft_last R2 Hp5.out H51 H52 Hn51.out Hn52.out Hx5.out hP5 hS5 | exact splitLeft_first R2 Hp5.out H51 H52 Hn51.out Hn52.out Hx5.out hP5 hS5
        case rest =>
          obtain ⟨d, e1, t1, t2, G5, rfl, rfl, hd5, hwd, T5, hn1, hn2, hx5, hz5, hS5⟩ := hcut
          have hT5 := hS2.trans hS5
          have hu5 := T5.uniq
          have htl5 := (Array.getElem?_eq_some_iff.1 T5.blk).1
          have hG5t : G5 t = 0 := by have := hu5 t; rw [one_self] at this; omega
          have hG5d : G5 d = 0 := by unfold twoF at hz5; omega
          have hdt : d ≠ t := fun e => by unfold twoF at hz5; rw [e, one_self] at hz5; omega
          have Hn1 := hide hn1
          have Hn2 := hide hn2
          have Hx5 := hide hx5
          clear hn1 hn2 hx5 hS2 hS5 R2 RA hcA hqA m0 m1 m2 m3 a0 a1 a2 a3 htq fq ft hd3 hd Hfull hwd
          have m2 : wc.cell? ⟨t, 2, none⟩ = some (.pointer (some ⟨t1.p, 0, none⟩)) := cell_blk T5.blk 2
          have m3 : wc.cell? ⟨t, 3, none⟩ = some (.pointer (some ⟨c, 0, none⟩)) := cell_blk T5.blk 3
          go_wp2_with (fail)
          refine (newNode T5.pool).mono ?_
          rintro _ w3 ⟨q, iv1, cv1, G6, rfl, hN1, hP1, hS1⟩
          unfold ptr
          have hb3 := hS1.blk T5.blk hG5t
          have hd3 := hS1.blk hd5 hG5d
          have hqd : G6 d + nodeF q iv1 cv1 d = 0 := hS1.zero hd5 hG5d
          have h13 := T5.one1.keep hS1.chg (fun k => by have := hu5 k; omega)
          have h23 := T5.one2.keep hS1.chg (fun k => by have := hu5 k; omega)
          have hT3 : Stp (rootF t s G) W w3 (fun k => one t k + t1.F k + t2.F k + G6 k + nodeF q iv1 cv1 k) :=
            hT5.trans ((hS1.frame (fun k => one t k + t1.F k + t2.F k) (fun k => by have := hu5 k; omega) (fun k hk => T5.lt (by unfold twoF; omega))).congr (fun k => by unfold twoF; omega) (fun k => by omega))
          have hu3 := hT3.uniq
          have x2 : w3.cell? ⟨t, 2, none⟩ = some (.pointer (some ⟨t1.p, 0, none⟩)) := cell_blk hb3 2
          have x2f : w3.frozen? ⟨t, 2, none⟩ = false := frozen_blk hb3 2
          have hb4 : (w3.setCell ⟨t, 2, none⟩ (.pointer (some ⟨q, 0, none⟩))).heap[t]? = some (.cells #[.int .i64 32, .int .i64 len, ptr q, ptr c] 87 (0, 0)) := by rw [heap_setCell_blk hb3]; rfl
          have hc4 : Chg (one t) w3 (w3.setCell ⟨t, 2, none⟩ (.pointer (some ⟨q, 0, none⟩))) := (Chg.refl (one t) w3).setCell (p := ⟨t, 2, none⟩) (fun _ => by show 1 ≤ one t t; rw [one_self]; exact Nat.le_refl _) _
          have hd4 : (w3.setCell ⟨t, 2, none⟩ (.pointer (some ⟨q, 0, none⟩))).heap[d]? = _ := (Below.heap_setCell _ _ _ _ hdt).trans hd3
          have hN4 := hN1.keep hc4 (fun k => by have := hu3 k; omega)
          have hP4 := hP1.keep hc4 (fun k => by have := hu3 k; omega)
          have h14 := h13.keep hc4 (fun k => by have := hu3 k; omega)
          have h24 := h23.keep hc4 (fun k => by have := hu3 k; omega)
          have hT4 : Stp (rootF t s G) W _ (fun k => one t k + t1.F k + t2.F k + G6 k + nodeF q iv1 cv1 k) := hT3.trans ⟨hc4.mono (fun k _ h0 => by have h0 : one t k + t1.F k + t2.F k + G6 k + nodeF q iv1 cv1 k = 0 := h0; omega), fun _ _ => Nat.le_refl _, hu3, fun k hk => Nat.lt_of_lt_of_le (hT3.lt k hk) hc4.size⟩
          generalize hw4 : w3.setCell ⟨t, 2, none⟩ (.pointer (some ⟨q, 0, none⟩)) = w4 at *
          have hti : some t ≠ iv1.ownBlock := fun e => by have := hu3 t; unfold nodeF at this; rw [one_self, ob_of e.symm] at this; omega
          have htc : some t ≠ cv1.ownBlock := fun e => by have := hu3 t; unfold nodeF at this; rw [one_self, ob_of e.symm] at this; omega
          obtain ⟨b0, b1, b2⟩ := box_cells hd4
          have r2 : w4.cell? ⟨t, 2, none⟩ = some (.pointer (some ⟨q, 0, none⟩)) := cell_blk hb4 2
          have q0 : w4.cell? ⟨q, 0, none⟩ = some iv1 := cell_blk hN4.blk 0
          have q1 : w4.frozen? ⟨q, 0, none⟩ = false := frozen_blk hN4.blk 0
          have ca : ∀ o, (w4.alloc o).cell? ⟨q, 0, none⟩ = some iv1 := fun o => (World.cell?_alloc_some w4 _ o (by rw [q0]; rfl)).trans q0
          have ct : ∀ o, (w4.alloc o).cell? ⟨t, 2, none⟩ = some (.pointer (some ⟨q, 0, none⟩)) := fun o => (World.cell?_alloc_some w4 _ o (by rw [r2]; rfl)).trans r2
          clear hT3 hT5 hS1 T5 hb3 hd3 h13 h23 hP1 hN1 hc4 m2 m3
          go_wp2
          clear hw4 x2 x2f
          have hdi : some d ≠ iv1.ownBlock := fun e => by unfold nodeF at hqd; rw [ob_of e.symm] at hqd; omega
          have ma : ∀ (o : Obj) (x : Addr) (v : Value), w4.cell? x = some v → (w4.alloc o).drew.cell? x = some v := fun o x v hx => (World.cell?_alloc_some w4 x o (by rw [hx]; rfl)).trans hx
          refine startX (fun w' => w'.cell? ⟨q, 0, none⟩ = some iv1 ∧ w'.cell? ⟨t, 2, none⟩ = some (.pointer (some ⟨q, 0, none⟩)) ∧ w'.cell? ⟨d, 0, none⟩ = some (.string e1.key) ∧ w'.cell? ⟨d, 1, none⟩ = some (.int .u64 e1.ver) ∧ w'.cell? ⟨d, 2, none⟩ = some (.slice e1.va e1.vn e1.vc)) 16 (by kernel_rfl) ?_ (fun hHeld => ?_)
          · exact ⟨q0, r2, b0, b1, b2⟩
          refine takeX (i := 0) (v := ?_) rfl rfl (by kernel_rfl) (by kernel_rfl) (by kernel_rfl) (by kernel_rfl) (fun _ _ _ h => h) (by assumption) (Or.inl ⟨by rfl, ?_⟩) ?_
          rotate_left
          · intro w hSw; (try dsimp only at hSw); go_simp <;> with_reducible rfl
          dsimp only [List.set_cons_zero, List.set_cons_succ]
          refine takeX (i := 1) (v := ?_) rfl rfl (by kernel_rfl) (by kernel_rfl) (by kernel_rfl) (by kernel_rfl) (fun _ _ _ h => h) (by assumption) (Or.inl ⟨by rfl, ?_⟩) ?_
          rotate_left
          · intro w hSw; (try dsimp only at hSw); go_simp <;> with_reducible rfl
          dsimp only [List.set_cons_zero, List.set_cons_succ]
          refine takeX (i := 2) (v := ?_) rfl rfl (by kernel_rfl) (by kernel_rfl) (by kernel_rfl) (by kernel_rfl) (fun _ _ _ h => h) (by assumption) (Or.inl ⟨by rfl, ?_⟩) ?_
          rotate_left
          · intro w hSw; (try dsimp only at hSw); go_simp <;> with_reducible rfl
          dsimp only [List.set_cons_zero, List.set_cons_succ]
          refine takeX (i := 3) (v := ?_) rfl rfl (by kernel_rfl) (by kernel_rfl) (by kernel_rfl) (by kernel_rfl) (fun _ _ _ h => h) (by assumption) (Or.inl ⟨by rfl, ?_⟩) ?_
          rotate_left
          · intro w hSw; (try dsimp only at hSw); go_simp <;> with_reducible rfl
          dsimp only [List.set_cons_zero, List.set_cons_succ]
          refine takeX (i := 4) (v := ?_) rfl rfl (by kernel_rfl) (by kernel_rfl) (by kernel_rfl) (by kernel_rfl) (fun _ _ _ h => h) (by assumption) (Or.inl ⟨by rfl, ?_⟩) ?_
          rotate_left
          · intro w hSw; (try dsimp only at hSw); go_simp <;> with_reducible rfl
          dsimp only [List.set_cons_zero, List.set_cons_succ]
          refine takeX (i := 5) (v := ?_) rfl rfl (by kernel_rfl) (by kernel_rfl) (by kernel_rfl) (by kernel_rfl) (fun _ _ _ h => h) (by assumption) (Or.inl ⟨by rfl, ?_⟩) ?_
          rotate_left
          · intro w hSw; (try dsimp only at hSw); go_simp <;> with_reducible rfl
          dsimp only [List.set_cons_zero, List.set_cons_succ]
          refine takeX (i := 6) (v := ?_) rfl rfl (by kernel_rfl) (by kernel_rfl) (by kernel_rfl) (by kernel_rfl) (fun _ _ _ h => h) (by assumption) (Or.inl ⟨by rfl, ?_⟩) ?_
          rotate_left
          · intro w hSw; (try dsimp only at hSw); go_simp <;> with_reducible rfl
          dsimp only [List.set_cons_zero, List.set_cons_succ]
          refine takeX (i := 7) (v := ?_) rfl rfl (by kernel_rfl) (by kernel_rfl) (by kernel_rfl) (by kernel_rfl) (fun _ _ _ h => h) (by assumption) (Or.inl ⟨by rfl, ?_⟩) ?_
          rotate_left
          · intro w hSw; (try dsimp only at hSw); go_simp <;> with_reducible rfl
          dsimp only [List.set_cons_zero, List.set_cons_succ]
          refine takeX (i := 8) (v := ?_) rfl rfl (by kernel_rfl) (by kernel_rfl) (by kernel_rfl) (by kernel_rfl) (fun _ _ _ h => h) (by assumption) (Or.inl ⟨by rfl, ?_⟩) ?_
          rotate_left
          · intro w hSw; (try dsimp only at hSw); go_simp <;> with_reducible rfl
          dsimp only [List.set_cons_zero, List.set_cons_succ]
          refine takeX (i := 9) (v := ?_) rfl rfl (by kernel_rfl) (by kernel_rfl) (by kernel_rfl) (by kernel_rfl) (fun _ _ _ h => h) (by assumption) (Or.inl ⟨by rfl, ?_⟩) ?_
          rotate_left
          · intro w hSw; (try dsimp only at hSw); go_simp <;> with_reducible rfl
          dsimp only [List.set_cons_zero, List.set_cons_succ]
          refine takeX (i := 10) (v := ?_) rfl rfl (by kernel_rfl) (by kernel_rfl) (by kernel_rfl) (by kernel_rfl) (fun _ _ _ h => h) (by assumption) (Or.inl ⟨by rfl, ?_⟩) ?_
          rotate_left
          · intro w hSw; (try dsimp only at hSw); go_simp <;> with_reducible rfl
          dsimp only [List.set_cons_zero, List.set_cons_succ]
          refine takeX (i := 11) (v := ?_) rfl rfl (by kernel_rfl) (by kernel_rfl) (by kernel_rfl) (by kernel_rfl) (fun _ _ _ h => h) (by assumption) (Or.inl ⟨by rfl, ?_⟩) ?_
          rotate_left
          · intro w hSw; (try dsimp only at hSw); go_simp <;> with_reducible rfl
          dsimp only [List.set_cons_zero, List.set_cons_succ]
          refine stepX (i := 12) (by kernel_rfl) rfl (fun K hK => ?_)
          go_simp
          clear hHeld
          refine hK.out _ _ ?_ (fun hHeld => ?_)
          · exact ⟨ma _ _ _ q0, ma _ _ _ r2, ma _ _ _ b0, ma _ _ _ b1, ma _ _ _ b2⟩
          clear hK K
          try simp only [Act.put, List.setIfInBounds_toArray, List.set_cons_zero, List.set_cons_succ]
          refine stepX (i := 13) (by kernel_rfl) rfl (fun K hK => ?_)
          (refine step_append_lies _ (by rfl) _ _ _ (by rfl) 0 33 i0 _ 3 48 Try.underlying102 hi0 hz0 hz1 hz2 rfl (by omega) iv1 0 [] (by rfl) ((hN4.ri.alloc _).drew) ⟨w4.heap.size, 0, none⟩ 1 1 [.string e1.key, .int .u64 e1.ver, .slice e1.va e1.vn e1.vc] (by rfl) (by rfl) (World.news_of_block (cs := #[.string e1.key, .int .u64 e1.ver, .slice e1.va e1.vn e1.vc]) (t := 33) (fr := (0, 0)) (heap_alloc_new w4 _)) (by simp [Value.oneCell']) (by omega) (by unfold maxLen; omega) (by omega) (Nat.zero_le _) (w4.heap.size + 1) (by simp) ?_; intro g cap wx hown1 hgrow hat hlt; have hX := ((Chg.refl (fun _ => 0) w4).alloc (Obj.cells #[.string e1.key, .int .u64 e1.ver, .slice e1.va e1.vn e1.vc] 33)).drew; have hbx1 := grown_blk hX hgrow hN4.blk hN4.ne_i; have cx1 : wx.cell? ⟨q, 0, none⟩ = some iv1 := cell_blk hbx1 0; have fx1 : wx.frozen? ⟨q, 0, none⟩ = false := frozen_blk hbx1 0; have hbt := grown_blk hX hgrow hb4 hti; have ctx1 : wx.cell? ⟨t, 2, none⟩ = some (.pointer (some ⟨q, 0, none⟩)) := cell_blk hbt 2; have hSx := And.intro cx1 (And.intro ctx1 (box_cells (grown_blk hX hgrow hd4 hdi))))
          clear hHeld
          refine hK.out _ _ ?_ (fun hHeld => ?_)
          · exact hSx
          clear hK K
          try simp only [Act.put, List.setIfInBounds_toArray, List.set_cons_zero, List.set_cons_succ]
          refine stepX (i := 14) (by kernel_rfl) rfl (fun K hK => ?_)
          go_simp
          clear hHeld
          refine hK.out _ _ ?_ (fun hHeld => ?_)
          · exact hSx
          clear hK K
          try simp only [Act.put, List.setIfInBounds_toArray, List.set_cons_zero, List.set_cons_succ]
          refine stepX (i := 15) (by kernel_rfl) rfl (fun K hK => ?_)
          go_simp
          clear hHeld
          refine hK.out _ _ ?_ (fun hHeld => ?_)
          · exact hSx
          clear hK K
          try simp only [Act.put, List.setIfInBounds_toArray, List.set_cons_zero, List.set_cons_succ]
          refine lastX (by kernel_rfl) (by kernel_rfl) rfl (fun K hK => ?_)
          go_simp
          refine hK.out _ _ ?_
          clear hK K
          try simp only [Act.put, List.setIfInBounds_toArray, List.set_cons_zero, List.set_cons_succ]
          obtain ⟨hN6, hS6⟩ := app3 (news := [e1]) hN4 hX hown1 (by simp) hgrow (hat.imp id (fun h => by omega))
          have hN6 : NodeAt (wx.setCell ⟨q, 0, none⟩ (.slice (some ⟨g, 0, none⟩) 1 cap)) q (.slice (some ⟨g, 0, none⟩) 1 cap) cv1 (ptr c) [e1] [] := hN6
          have hS6 : Stp (nodeF q iv1 cv1) w4 (wx.setCell ⟨q, 0, none⟩ (.slice (some ⟨g, 0, none⟩) 1 cap)) (nodeF q (.slice (some ⟨g, 0, none⟩) 1 cap) cv1) := hS6
          clear hSx hown1 hgrow hat hlt hX hbx1 cx1 fx1 hbt ctx1 hHeld ma
          generalize hwx : wx.setCell ⟨q, 0, none⟩ (.slice (some ⟨g, 0, none⟩) 1 cap) = wc at *
          clear hwx
          clear wx
          have hb6 := hS6.blk hb4 (by have := hu3 t; rw [one_self] at this; omega)
          have hP6 := hP4.keep hS6.chg (fun k => by have := hu3 k; omega)
          have h16 := h14.keep hS6.chg (fun k => by have := hu3 k; omega)
          have h26 := h24.keep hS6.chg (fun k => by have := hu3 k; omega)
          have hT6 := hT4.trans ((hS6.frame (fun k => one t k + t1.F k + t2.F k + G6 k) (fun k => by have := hu3 k; omega) (fun k hk => hT4.lt k (by omega))).congr (B' := fun k => one t k + t1.F k + t2.F k + G6 k + nodeF q (.slice (some ⟨g, 0, none⟩) 1 cap) cv1 k) (fun k => by omega) (fun k => by omega))
          have hu6 := hT6.uniq
          clear hT4 hS6 hN4 hP4 h14 h24 hb4 hu3 b0 b1 b2 r2 q0 q1 ca ct hd4 hd5
          have r2 : wc.cell? ⟨t, 2, none⟩ = some (.pointer (some ⟨q, 0, none⟩)) := cell_blk hb6 2
          have q0 : wc.cell? ⟨q, 1, none⟩ = some cv1 := cell_blk hN6.blk 1
          have q1 : wc.frozen? ⟨q, 1, none⟩ = false := frozen_blk hN6.blk 1
          have ca : ∀ o, (wc.alloc o).cell? ⟨q, 1, none⟩ = some cv1 := fun o => (World.cell?_alloc_some wc _ o (by rw [q0]; rfl)).trans q0
          have ct : ∀ o, (wc.alloc o).cell? ⟨t, 2, none⟩ = some (.pointer (some ⟨q, 0, none⟩)) := fun o => (World.cell?_alloc_some wc _ o (by rw [r2]; rfl)).trans r2
          go_wp2
          have ma : ∀ (o : Obj) (x : Addr) (v : Value), wc.cell? x = some v → (wc.alloc o).drew.cell? x = some v := fun o x v hx => (World.cell?_alloc_some wc x o (by rw [hx]; rfl)).trans hx
          refine startX (fun w' => w'.cell? ⟨q, 1, none⟩ = some cv1 ∧ w'.cell? ⟨t, 2, none⟩ = some (.pointer (some ⟨q, 0, none⟩))) 17 (by kernel_rfl) ?_ (fun hHeld => ?_)
          · exact ⟨q0, r2⟩
          refine takeX (i := 0) (v := ?_) rfl rfl (by kernel_rfl) (by kernel_rfl) (by kernel_rfl) (by kernel_rfl) (fun _ _ _ h => h) (by assumption) (Or.inl ⟨by rfl, ?_⟩) ?_
          rotate_left
          · intro w hSw; (try dsimp only at hSw); go_simp <;> with_reducible rfl
          dsimp only [List.set_cons_zero, List.set_cons_succ]
          refine takeX (i := 1) (v := ?_) rfl rfl (by kernel_rfl) (by kernel_rfl) (by kernel_rfl) (by kernel_rfl) (fun _ _ _ h => h) (by assumption) (Or.inl ⟨by rfl, ?_⟩) ?_
          rotate_left
          · intro w hSw; (try dsimp only at hSw); go_simp <;> with_reducible rfl
          dsimp only [List.set_cons_zero, List.set_cons_succ]
          refine takeX (i := 2) (v := ?_) rfl rfl (by kernel_rfl) (by kernel_rfl) (by kernel_rfl) (by kernel_rfl) (fun _ _ _ h => h) (by assumption) (Or.inl ⟨by rfl, ?_⟩) ?_
          rotate_left
          · intro w hSw; (try dsimp only at hSw); go_simp <;> with_reducible rfl
          dsimp only [List.set_cons_zero, List.set_cons_succ]
          refine takeX (i := 3) (v := ?_) rfl rfl (by kernel_rfl) (by kernel_rfl) (by kernel_rfl) (by kernel_rfl) (fun _ _ _ h => h) (by assumption) (Or.inl ⟨by rfl, ?_⟩) ?_
          rotate_left
          · intro w hSw; (try dsimp only at hSw); go_simp <;> with_reducible rfl
          dsimp only [List.set_cons_zero, List.set_cons_succ]
          refine takeX (i := 4) (v := ?_) rfl rfl (by kernel_rfl) (by kernel_rfl) (by kernel_rfl) (by kernel_rfl) (fun _ _ _ h => h) (by assumption) (Or.inl ⟨by rfl, ?_⟩) ?_
          rotate_left
          · intro w hSw; (try dsimp only at hSw); go_simp <;> with_reducible rfl
          dsimp only [List.set_cons_zero, List.set_cons_succ]
          refine takeX (i := 5) (v := ?_) rfl rfl (by kernel_rfl) (by kernel_rfl) (by kernel_rfl) (by kernel_rfl) (fun _ _ _ h => h) (by assumption) (Or.inl ⟨by rfl, ?_⟩) ?_
          rotate_left
          · intro w hSw; (try dsimp only at hSw); go_simp <;> with_reducible rfl
          dsimp only [List.set_cons_zero, List.set_cons_succ]
          refine takeX (i := 6) (v := ?_) rfl rfl (by kernel_rfl) (by kernel_rfl) (by kernel_rfl) (by kernel_rfl) (fun _ _ _ h => h) (by assumption) (Or.inl ⟨by rfl, ?_⟩) ?_
          rotate_left
          · intro w hSw; (try dsimp only at hSw); go_simp <;> with_reducible rfl
          dsimp only [List.set_cons_zero, List.set_cons_succ]
          refine takeX (i := 7) (v := ?_) rfl rfl (by kernel_rfl) (by kernel_rfl) (by kernel_rfl) (by kernel_rfl) (fun _ _ _ h => h) (by assumption) (Or.inl ⟨by rfl, ?_⟩) ?_
          rotate_left
          · intro w hSw; (try dsimp only at hSw); go_simp <;> with_reducible rfl
          dsimp only [List.set_cons_zero, List.set_cons_succ]
          refine takeX (i := 8) (v := ?_) rfl rfl (by kernel_rfl) (by kernel_rfl) (by kernel_rfl) (by kernel_rfl) (fun _ _ _ h => h) (by assumption) (Or.inl ⟨by rfl, ?_⟩) ?_
          rotate_left
          · intro w hSw; (try dsimp only at hSw); go_simp <;> with_reducible rfl
          dsimp only [List.set_cons_zero, List.set_cons_succ]
          refine takeX (i := 9) (v := ?_) rfl rfl (by kernel_rfl) (by kernel_rfl) (by kernel_rfl) (by kernel_rfl) (fun _ _ _ h => h) (by assumption) (Or.inl ⟨by rfl, ?_⟩) ?_
          rotate_left
          · intro w hSw; (try dsimp only at hSw); go_simp <;> with_reducible rfl
          dsimp only [List.set_cons_zero, List.set_cons_succ]
          refine takeX (i := 10) (v := ?_) rfl rfl (by kernel_rfl) (by kernel_rfl) (by kernel_rfl) (by kernel_rfl) (fun _ _ _ h => h) (by assumption) (Or.inl ⟨by rfl, ?_⟩) ?_
          rotate_left
          · intro w hSw; (try dsimp only at hSw); go_simp <;> with_reducible rfl
          dsimp only [List.set_cons_zero, List.set_cons_succ]
          refine takeX (i := 11) (v := ?_) rfl rfl (by kernel_rfl) (by kernel_rfl) (by kernel_rfl) (by kernel_rfl) (fun _ _ _ h => h) (by assumption) (Or.inl ⟨by rfl, ?_⟩) ?_
          rotate_left
          · intro w hSw; (try dsimp only at hSw); go_simp <;> with_reducible rfl
          dsimp only [List.set_cons_zero, List.set_cons_succ]
          refine takeX (i := 12) (v := ?_) rfl rfl (by kernel_rfl) (by kernel_rfl) (by kernel_rfl) (by kernel_rfl) (fun _ _ _ h => h) (by assumption) (Or.inl ⟨by rfl, ?_⟩) ?_
          rotate_left
          · intro w hSw; (try dsimp only at hSw); go_simp <;> with_reducible rfl
          dsimp only [List.set_cons_zero, List.set_cons_succ]
          refine stepX (i := 13) (by kernel_rfl) rfl (fun K hK => ?_)
          go_simp
          clear hHeld
          refine hK.out _ _ ?_ (fun hHeld => ?_)
          · exact ⟨ma _ _ _ q0, ma _ _ _ r2⟩
          clear hK K
          try simp only [Act.put, List.setIfInBounds_toArray, List.set_cons_zero, List.set_cons_succ]
          refine stepX (i := 14) (by kernel_rfl) rfl (fun K hK => ?_)
          (refine step_append_lies _ (by rfl) _ _ _ (by rfl) 0 84 i1 _ 1 8 Try.underlying104 hi1 hy0 hy1 hy2 rfl (by omega) cv1 0 [] (by rfl) ((hN6.rc.alloc _).drew) ⟨wc.heap.size, 0, none⟩ 2 2 [.pointer (some ⟨t1.p, 0, none⟩), .pointer (some ⟨t2.p, 0, none⟩)] (by rfl) (by rfl) (World.news_of_block (cs := #[.pointer (some ⟨t1.p, 0, none⟩), .pointer (some ⟨t2.p, 0, none⟩)]) (t := 84) (fr := (0, 0)) (heap_alloc_new wc _)) (by simp [Value.oneCell']) (by omega) (by unfold maxLen; omega) (by omega) (Nat.zero_le _) (wc.heap.size + 1) (by simp) ?_; intro g2 cap2 wx hown1 hgrow hat hlt; have hX := ((Chg.refl (fun _ => 0) wc).alloc (Obj.cells #[.pointer (some ⟨t1.p, 0, none⟩), .pointer (some ⟨t2.p, 0, none⟩)] 84)).drew; have hbx1 := grown_blk hX hgrow hN6.blk hN6.ne_c; have cx1 : wx.cell? ⟨q, 1, none⟩ = some cv1 := cell_blk hbx1 1; have fx1 : wx.frozen? ⟨q, 1, none⟩ = false := frozen_blk hbx1 1; have hbt := grown_blk hX hgrow hb6 htc; have ctx1 : wx.cell? ⟨t, 2, none⟩ = some (.pointer (some ⟨q, 0, none⟩)) := cell_blk hbt 2; have hSx := And.intro cx1 ctx1)
          clear hHeld
          refine hK.out _ _ ?_ (fun hHeld => ?_)
          · exact hSx
          clear hK K
          try simp only [Act.put, List.setIfInBounds_toArray, List.set_cons_zero, List.set_cons_succ]
          refine stepX (i := 15) (by kernel_rfl) rfl (fun K hK => ?_)
          go_simp
          clear hHeld
          refine hK.out _ _ ?_ (fun hHeld => ?_)
          · exact hSx
          clear hK K
          try simp only [Act.put, List.setIfInBounds_toArray, List.set_cons_zero, List.set_cons_succ]
          refine stepX (i := 16) (by kernel_rfl) rfl (fun K hK => ?_)
          go_simp
          clear hHeld
          refine hK.out _ _ ?_ (fun hHeld => ?_)
          · exact hSx
          clear hK K
          try simp only [Act.put, List.setIfInBounds_toArray, List.set_cons_zero, List.set_cons_succ]
          refine lastX (by kernel_rfl) (by kernel_rfl) rfl (fun K hK => ?_)
          go_simp
          refine hK.out _ _ ?_
          clear hK K
          try simp only [Act.put, List.setIfInBounds_toArray, List.set_cons_zero, List.set_cons_succ]
          obtain ⟨hN7, hS7⟩ := app1 (news := [ptr t1.p, ptr t2.p]) hN6 hX hown1 (by simp) hgrow (hat.imp id (fun h => by omega))
          have hN7 : NodeAt (wx.setCell ⟨q, 1, none⟩ (.slice (some ⟨g2, 0, none⟩) 2 cap2)) q (.slice (some ⟨g, 0, none⟩) 1 cap) (.slice (some ⟨g2, 0, none⟩) 2 cap2) (ptr c) [e1] [ptr t1.p, ptr t2.p] := hN7
          have hS7 : Stp (nodeF q (.slice (some ⟨g, 0, none⟩) 1 cap) cv1) wc (wx.setCell ⟨q, 1, none⟩ (.slice (some ⟨g2, 0, none⟩) 2 cap2)) (nodeF q (.slice (some ⟨g, 0, none⟩) 1 cap) (.slice (some ⟨g2, 0, none⟩) 2 cap2)) := hS7
          clear hSx hown1 hgrow hat hlt hX hbx1 cx1 fx1 hbt ctx1 hHeld ma
          generalize hwx : wx.setCell ⟨q, 1, none⟩ (.slice (some ⟨g2, 0, none⟩) 2 cap2) = wd at *
          clear hwx
          clear wx
          have hb7 := hS7.blk hb6 (by have := hu6 t; rw [one_self] at this; omega)
          have hP7 := hP6.keep hS7.chg (fun k => by have := hu6 k; omega)
          have h17 := h16.keep hS7.chg (fun k => by have := hu6 k; omega)
          have h27 := h26.keep hS7.chg (fun k => by have := hu6 k; omega)
          have hT7 := hT6.trans ((hS7.frame (fun k => one t k + t1.F k + t2.F k + G6 k) (fun k => by have := hu6 k; omega) (fun k hk => hT6.lt k (by omega))).congr (B' := fun k => one t k + (nodeF q (.slice (some ⟨g, 0, none⟩) 1 cap) (.slice (some ⟨g2, 0, none⟩) 2 cap2) k + sumF [t1, t2] k) + G6 k) (fun k => by omega) (fun k => by rw [sumF_cons, sumF_cons, sumF_nil]; omega))
          go_wp2
          go_meet
          case rel =>
            refine ⟨len, h + 1, ⟨q, 1, weave [e1] [t1, t2], fun k => nodeF q (.slice (some ⟨g, 0, none⟩) 1 cap) (.slice (some ⟨g2, 0, none⟩) 2 cap2) k + sumF [t1, t2] k⟩, G6, ⟨hb7, ⟨_, _, [e1], [t1, t2], hN7, rfl, rfl, fun u hu => ?_, rfl, fun _ => rfl, fun k => ?_⟩, hP7, hT7.uniq⟩, by show 1 ≤ 62; omega, Or.inr (Nat.le_refl _), ?_, hT7⟩
            · rcases List.mem_cons.1 hu with rfl | hu
              · exact ⟨h17, by have := Hn1.out; omega⟩
              · rw [List.mem_singleton.1 hu]; exact ⟨h27, by have := Hn2.out; omega⟩
            · have := hT7.uniq k
              show nodeF q _ _ k + sumF [t1, t2] k ≤ 1
              omega
            · show weave [e1] [t1, t2] = s.xs
              rw [Hx5.out]
              simp [weave]
      · have hd : ¬ (63 : Int) ≤ (s.n : Int) := by have := Hn.out; omega
        go_wp2
        go_meet
        case rel => exact ⟨len, h, s, G, R2, by have := Hn.out; omega, Hh.out, rfl, hS2⟩
    case rest =>
      clear R2 hS2
      obtain ⟨len3, h3, s3, G3, R3, hn3, hh3, hx3, hS3⟩ := hcut
      obtain ⟨m0, m1, m2, m3⟩ := R3.cells
      have hb3 := hS3.blk hbox (HB.out 0)
      have hz3 := hS3.blk hzero (HB.out 1)
      have zb := hS3.zero hbox (HB.out 0)
      have zz := hS3.zero hzero (HB.out 1)
      unfold rootF at zb zz
      have htb : t ≠ b := fun e => by rw [e, one_self] at zb; omega
      have f0 : s3.F b + G3 b = 0 := by omega
      have ft : s3.F t + G3 t = 0 := by have := R3.uniq t; rw [one_self] at this; omega
      obtain ⟨b0, b1, b2⟩ := box_cells hb3
      have Hx3 := hide hx3
      have Hh3 := hide hh3
      have hd3 : ∀ k, s3.F k + G3 k ≤ 1 := fun k => by have := R3.uniq k; omega
      have hxs3 : Hid (Asc s3.xs) := by show Asc _; rw [hx3]; exact Hs.out
      clear hx3 hh3 zb
      go_wp2
      have hcA : Chg0 wc (wc.alloc (Obj.cells #[Value.string { data := #[] }, Value.int IntKind.u64 0, Value.slice none 0 0] 33)) := (Chg.refl _ wc).alloc _
      have RA := R3.grew hcA
      have hbA := hcA.blk hb3
      have hqA : (wc.alloc (Obj.cells #[Value.string { data := #[] }, Value.int IntKind.u64 0, Value.slice none 0 0] 33)).heap[wc.heap.size]? = some (.cells #[Value.string { data := #[] }, Value.int IntKind.u64 0, Value.slice none 0 0] 33 (0, 0)) := (MapKept.heap_alloc wc _).1
      obtain ⟨a0, a1, a2, a3⟩ := RA.cells
      obtain ⟨e0, e1, e2⟩ := box_cells hbA
      have htq : t ≠ wc.heap.size := by have := (Array.getElem?_eq_some_iff.1 R3.blk).1; omega
      have hbq : b ≠ wc.heap.size := by have := (Array.getElem?_eq_some_iff.1 hb3).1; omega
      have hzq : b + 1 ≠ wc.heap.size := by have := (Array.getElem?_eq_some_iff.1 hz3).1; omega
      have fq : s3.F wc.heap.size + G3 wc.heap.size = 0 := by have := R3.zero (Nat.le_refl _); unfold rootF at this; omega
      go_cut [9, 10] (fun s9 s10 wd => InsLeft wc wd t c len3 h3 s3 G3 e s9 s10)
      case first =>
        as_aux_lemma =>
          go_region_held3 (fun w' => w'.cell? ⟨t, 0, none⟩ = some (.int .i64 32) ∧ w'.cell? ⟨t, 2, none⟩ = some (.pointer (some ⟨s3.p, 0, none⟩)) ∧ w'.cell? ⟨b, 0, none⟩ = some (.string e.key) ∧ w'.cell? ⟨b, 1, none⟩ = some (.int .u64 e.ver) ∧ w'.cell? ⟨b, 2, none⟩ = some (.slice e.va e.vn e.vc))
            (first | exact ⟨m0, m2, b0, b1, b2⟩ | exact ⟨a0, a2, e0, e1, e2⟩ | exact ⟨cell_blk (hS5.blk R3.blk ft) 0, cell_blk (hS5.blk R3.blk ft) 2, box_cells (hS5.blk hb3 f0)⟩ | exact ⟨cell_blk (hS5.blk RA.blk ft) 0, cell_blk (hS5.blk RA.blk ft) 2, box_cells (hS5.blk hbA f0)⟩ | exact ⟨Chg0.cell (hc6 _) (cell_blk (hS5.blk R3.blk ft) 0), Chg0.cell (hc6 _) (cell_blk (hS5.blk R3.blk ft) 2), box_cells ((hc6 _).blk (hS5.blk hb3 f0))⟩ | exact ⟨cell_blk ((boxPut_other old ht5).trans ((hc6 _).blk (hS5.blk R3.blk ft))) 0, cell_blk ((boxPut_other old ht5).trans ((hc6 _).blk (hS5.blk R3.blk ft))) 2, box_cells ((boxPut_other old hb5).trans ((hc6 _).blk (hS5.blk hb3 f0)))⟩ | exact ⟨cell_blk ((boxPut_other old htq).trans (hS5.blk RA.blk ft)) 0, cell_blk ((boxPut_other old htq).trans (hS5.blk RA.blk ft)) 2, box_cells ((boxPut_other old hbq).trans (hS5.blk hbA f0))⟩)
            ((first | (go_at_call 40; refine (maxItems (by first | exact m0 | exact a0)).mono ?_; rintro _ w' ⟨rfl, rfl⟩) | (go_at_call 42; refine (insOK h3 wc.drew c s3 G3 e (R3.tree.same (fun _ _ => rfl)) hn3 hxs3.out (R3.pool.same (fun _ _ => rfl)) hd3).mono ?_; rintro _ w5 ⟨old, ob, s5, G5, rfl, hp5, H5, hn5, hn5', hx5, hP5, hS5⟩; unfold Ent.v; have hc6 : ∀ o, Chg0 w5 (w5.alloc o) := fun o => (Chg.refl _ w5).alloc o; have ht5 : t ≠ w5.heap.size := by { have := (Array.getElem?_eq_some_iff.1 (hS5.blk R3.blk ft)).1; omega }; have hb5 : b ≠ w5.heap.size := by { have := (Array.getElem?_eq_some_iff.1 (hS5.blk hb3 f0)).1; omega }) | (go_at_call 42; refine (insOK h3 (wc.alloc (Obj.cells #[Value.string { data := #[] }, Value.int IntKind.u64 0, Value.slice none 0 0] 33)).drew c s3 G3 e (RA.tree.same (fun _ _ => rfl)) hn3 hxs3.out (RA.pool.same (fun _ _ => rfl)) hd3).mono ?_; rintro _ w5 ⟨old, ob, s5, G5, rfl, hp5, H5, hn5, hn5', hx5, hP5, hS5⟩; unfold Ent.v; have hq5 := hS5.blk hqA fq; obtain ⟨q0, q1, q2⟩ := box_cells hq5; have y0 := frozen_blk hq5 0; have y1 := frozen_blk hq5 1; have y2 := frozen_blk hq5 2)))
          all_goals
            go_wp2
            go_meet
            case rel => first | exact insLeft_last R3 hp5 H5 hn5 hn5' hx5 hP5 hS5 | exact insLeft_first R3 hp5 H5 hn5 hn5' hx5 hP5 hS5
      case rest =>
        obtain ⟨q, old, ob, s5, G5, rfl, rfl, hq5, hqs, R5, hn5, hn5', hx5, hS5⟩ := hcut
        have hT5 := hS3.trans hS5
        have hz5 := hT5.blk hzero (HB.out 1)
        have hzz := hT5.zero hzero (HB.out 1)
        have hqz : q ≠ b + 1 := by have := (Array.getElem?_eq_some_iff.1 hz3).1; omega
        have hqt : q ≠ t := by have := (Array.getElem?_eq_some_iff.1 R3.blk).1; omega
        have hzt : b + 1 ≠ t := fun e => by unfold rootF at hzz; rw [e, one_self] at hzz; omega
        obtain ⟨q0, q1, q2⟩ := box_cells hq5
        have HX : Hid (s5.xs = ins e s.xs) := by show _ = _; rw [hx5, Hx3.out]
        have Hb5 : Hid (s5.n ≤ 63 ∧ (h3 = 0 ∨ 1 ≤ s5.n)) := ⟨by omega, Hh3.out.imp id (fun h => by omega)⟩
        clear hx5 hS3 hS5 hb3 hz3 RA hbA hqA a0 a1 a2 a3 e0 e1 e2 m0 m1 m2 m3 b0 b1 b2 R3 hcA
        obtain ⟨z0, z1, z2⟩ := box_cells hz5
        have y0 := frozen_blk hz5 0
        have y1 := frozen_blk hz5 1
        have y2 := frozen_blk hz5 2
        have l1 : wc.cell? ⟨t, 1, none⟩ = some (.int .i64 len3) := R5.cells.2.1
        have l2 : wc.frozen? ⟨t, 1, none⟩ = false := frozen_blk R5.blk 1
        cases ob with
        | true =>
          go_wp2
          have r0 := boxPut_at old hz5
          refine bodyPost_ret (v := .tuple #[old.v, .bool true]) (by
            have r1 := cell_blk r0 0
            have r2 := cell_blk r0 1
            have r3 := cell_blk r0 2
            unfold Qxb6603483a.boxPut at r1 r2 r3
            simp [results, Try.results31, go_sem, r1, r2, r3, Ent.v, ptr]) rfl ?_
          exact ⟨old, true, _, rfl, ⟨Hs.out.ins, Or.inr ⟨c, len3, h3, s5, G5, R5.boxPut (b := b + 1) hzz old, Hb5.out.1, Hb5.out.2, HX.out, fun _ => rfl⟩⟩, (hT5.pre hchgW.out).boxPut (b := b + 1) (by rw [Hb.out]; omega) old⟩
        | false =>
          have hq6 : (wc.setCell ⟨t, 1, none⟩ (.int .i64 (wrap64 (len3 + 1)))).heap[q]? = _ := (Below.heap_setCell _ _ _ _ hqt).trans hq5
          have hz6 : (wc.setCell ⟨t, 1, none⟩ (.int .i64 (wrap64 (len3 + 1)))).heap[b + 1]? = _ := (Below.heap_setCell _ _ _ _ hzt).trans hz5
          obtain ⟨R6, hS6⟩ := root_setLen R5 (wrap64 (len3 + 1))
          obtain ⟨p0, p1, p2⟩ := box_cells hq6
          obtain ⟨z0', z1', z2'⟩ := box_cells hz6
          have y0' := frozen_blk hz6 0
          have y1' := frozen_blk hz6 1
          have y2' := frozen_blk hz6 2
          go_wp2
          have r0 := boxPut_at old hz6
          refine bodyPost_ret (v := .tuple #[old.v, .bool false]) (by
            have r1 := cell_blk r0 0
            have r2 := cell_blk r0 1
            have r3 := cell_blk r0 2
            unfold Qxb6603483a.boxPut at r1 r2 r3
            simp [results, Try.results31, go_sem, r1, r2, r3, Ent.v, ptr]) rfl ?_
          exact ⟨old, false, _, rfl, ⟨Hs.out.ins, Or.inr ⟨c, _, h3, s5, G5, R6.boxPut (b := b + 1) hzz old, Hb5.out.1, Hb5.out.2, HX.out, fun _ => rfl⟩⟩, ((hT5.trans hS6).pre hchgW.out).boxPut (b := b + 1) (by rw [Hb.out]; omega) old⟩

end Go.Proofs.Qxb6603483a
