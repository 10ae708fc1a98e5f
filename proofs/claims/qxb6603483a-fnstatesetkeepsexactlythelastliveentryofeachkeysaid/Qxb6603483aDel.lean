/-
  Delete.
-/
import Derived.Test.Qxb6603483aRepl1
import Derived.Test.Qxb6603483aRemAll
namespace Go.Proofs.Qxb6603483a
open Go.RowKit
set_option linter.unusedSimpArgs false
attribute [local go_sem ↓] Go.wp_at_zero Go.wp_at_succ

/-- What the region around remove leaves. -/
def DelLeft (wc wd : World) (t c : Nat) (len : Int) (h : Nat) (s : Sub) (G : Nat → Nat) (e : Ent) (s9 s10 : Value) : Prop :=
  ∃ (q : Nat) (old : Ent) (ob : Bool) (s5 : Sub) (G5 : Nat → Nat), s9 = .pointer (some ⟨q, 0, none⟩) ∧ s10 = .bool ob ∧ wd.heap[q]? = some (.cells #[.string old.key, .int .u64 old.ver, .slice old.va old.vn old.vc] 33 (0, 0)) ∧ wc.heap.size ≤ q ∧
    Root wd t c len h s5 G5 ∧ s.n - 1 ≤ s5.n ∧ s5.n ≤ s.n ∧ rootF t s5 G5 q = 0 ∧ s5.xs = del e.key s.xs ∧ Stp (rootF t s G) wc wd (rootF t s5 G5)

theorem delLeft_last {wc w5 : World} {t c : Nat} {len : Int} {h : Nat} {s s5 : Sub} {G G5 : Nat → Nat} {e old : Ent} {ob : Bool} (R : Root wc t c len h s G) (hp : s5.p = s.p) (H : IsT w5 c h s5) (h1 : s.n - 1 ≤ s5.n) (h2 : s5.n ≤ s.n) (hx : s5.xs = del e.key s.xs) (hP : Pool w5 c G5) (hS : Stp (fun k => s.F k + G k) wc.drew w5 (fun k => s5.F k + G5 k)) :
    DelLeft wc (w5.alloc (Obj.cells #[Value.string old.key, Value.int IntKind.u64 old.ver, Value.slice old.va old.vn old.vc] 33)) t c len h s G e (.pointer (some ⟨w5.heap.size, 0, none⟩)) (.bool ob) := by
  obtain ⟨R5, hT5⟩ := R.step H hp hP hS.predrew
  have hc := (Chg.refl (fun _ => 0) w5).alloc (Obj.cells #[Value.string old.key, Value.int IntKind.u64 old.ver, Value.slice old.va old.vn old.vc] 33)
  exact ⟨_, old, ob, s5, G5, rfl, rfl, (MapKept.heap_alloc w5 _).1, hT5.chg.size, R5.grew hc, h1, h2, R5.zero (Nat.le_refl _), hx, hT5.post hc⟩
theorem delLeft_first {wc w5 : World} {t c : Nat} {len : Int} {h : Nat} {s s5 : Sub} {G G5 : Nat → Nat} {e old : Ent} {ob : Bool} (R : Root wc t c len h s G) (hp : s5.p = s.p) (H : IsT w5 c h s5) (h1 : s.n - 1 ≤ s5.n) (h2 : s5.n ≤ s.n) (hx : s5.xs = del e.key s.xs) (hP : Pool w5 c G5)
    (hS : Stp (fun k => s.F k + G k) (wc.alloc (Obj.cells #[Value.string { data := #[] }, Value.int IntKind.u64 0, Value.slice none 0 0] 33)).drew w5 (fun k => s5.F k + G5 k)) :
    DelLeft wc (Qxb6603483a.boxPut w5 wc.heap.size old) t c len h s G e (.pointer (some ⟨wc.heap.size, 0, none⟩)) (.bool ob) := by
  have hc := (Chg.refl (fun _ => 0) wc).alloc (Obj.cells #[Value.string { data := #[] }, Value.int IntKind.u64 0, Value.slice none 0 0] 33)
  obtain ⟨R5, hT5⟩ := (R.grew hc).step H hp hP hS.predrew
  have hq := (MapKept.heap_alloc wc (Obj.cells #[Value.string { data := #[] }, Value.int IntKind.u64 0, Value.slice none 0 0] 33)).1
  have h0 := R.zero (Nat.le_refl wc.heap.size)
  exact ⟨_, old, ob, s5, G5, rfl, rfl, boxPut_at old (hT5.blk hq h0), Nat.le_refl _, R5.boxPut (hT5.zero hq h0) old, h1, h2, hT5.zero hq h0, hx, (hT5.pre hc).boxPut (Nat.le_refl _) old⟩


set_option maxRecDepth 100000 in
set_option maxHeartbeats 20000000 in
theorem del_root {w : World} {t c : Nat} {len : Int} {h : Nat} {s : Sub} {G : Nat → Nat} {e : Ent} (R : Root w t c len h s G) (hn : s.n ≤ 63) (hh : h = 0 ∨ 1 ≤ s.n) (hn1 : 1 ≤ s.n) (hs : Asc s.xs) :
    Calls Try.prog 37 #[.pointer (some ⟨t, 0, none⟩), e.v, .int .i64 0] w fun r w' => ∃ (old : Ent) (b : Bool) (F' : Nat → Nat), r = .returned (.tuple #[old.v, .bool b]) ∧ Bt w' t (del e.key s.xs) F' ∧ Stp (rootF t s G) w w' F' := by
  obtain ⟨W, hW, ⟨hbox, hzero⟩, hchg⟩ : ∃ W, W = (w.alloc (Obj.cells #[Value.string e.key, Value.int IntKind.u64 e.ver, Value.slice e.va e.vn e.vc] 33)).alloc (Obj.cells #[Value.string { data := #[] }, Value.int IntKind.u64 0, Value.slice none 0 0] 33) ∧
      (W.heap[w.heap.size]? = some (.cells #[Value.string e.key, Value.int IntKind.u64 e.ver, Value.slice e.va e.vn e.vc] 33 (0, 0)) ∧
      W.heap[w.heap.size + 1]? = some (.cells #[Value.string { data := #[] }, Value.int IntKind.u64 0, Value.slice none 0 0] 33 (0, 0))) ∧ Chg0 w W :=
    ⟨_, rfl, two_boxes w _ _ _ _, ((Chg.refl _ w).alloc _).alloc _⟩
  have RW := R.grew hchg
  obtain ⟨m0, m1, m2, m3⟩ := RW.cells
  have m2f : W.frozen? ⟨t, 2, none⟩ = false := frozen_blk RW.blk 2
  obtain ⟨siv, scv, sits, scps, hNt, hsn, _, _, _⟩ := RW.tree.node
  have sc : W.cell? ⟨s.p, 2, none⟩ = some (.pointer (some ⟨c, 0, none⟩)) := cell_blk hNt.blk 2
  obtain ⟨sa, scap, hsiv⟩ := hNt.iform
  have sc0 : W.cell? ⟨s.p, 0, none⟩ = some (.slice sa s.n scap) := by rw [cell_blk hNt.blk 0, hsiv, hsn]; rfl
  have hnz : (s.n : Int) ≠ 0 := by omega
  have hnz2 : ((s.n : Int) == 0) = false := by simpa using hnz
  clear hNt hsn hsiv
  have HB : Hid (∀ j, rootF t s G (w.heap.size + j) = 0) := fun j => R.zero (by omega)
  have hchgW := hide hchg
  have Hn := hide hn
  have Hh := hide hh
  have Hn1 := hide hn1
  have Hs := hide hs
  have rs := root_setSame RW
  have rb : (W.setCell ⟨t, 2, none⟩ (.pointer (some ⟨s.p, 0, none⟩))).drew.cell? ⟨t, 2, none⟩ = some (.pointer (some ⟨s.p, 0, none⟩)) ∧ (W.setCell ⟨t, 2, none⟩ (.pointer (some ⟨s.p, 0, none⟩))).drew.cell? ⟨t, 3, none⟩ = some (.pointer (some ⟨c, 0, none⟩)) := ⟨cell_blk rs.1.blk 2, cell_blk rs.1.blk 3⟩
  have Hrs := hide rs
  clear R hchg hn hh hs rs hn1
  unfold Ent.v
  go_enter Try.func37, Try.ntmps37
  have hW' := hW.symm
  clear hW
  go_wp2
  clear hW'
  generalize hbb : w.heap.size = b at *
  have Hb := hide hbb
  clear hbb
  go_cut [] (fun wd => Root wd t c len h s G ∧ Stp (rootF t s G) W wd (rootF t s G))
  case first =>
    go_region_held3 (fun w' => w'.cell? ⟨t, 2, none⟩ = some (.pointer (some ⟨s.p, 0, none⟩)) ∧ w'.cell? ⟨t, 3, none⟩ = some (.pointer (some ⟨c, 0, none⟩)))
      (first | exact ⟨m2, m3⟩ | exact rb)
      ((go_at_call 39; refine (mutableFor (p := s.p) (c := c) (by exact sc)).mono ?_; rintro _ w' ⟨rfl, rfl⟩))
    go_wp2
    go_meet
    case rel => exact ⟨⟨Hrs.out.1.blk, Hrs.out.1.tree.same (fun _ _ => rfl), Hrs.out.1.pool.same (fun _ _ => rfl), Hrs.out.1.uniq⟩, Hrs.out.2.drew⟩
  case rest =>
    obtain ⟨R1, hS1⟩ := hcut
    clear m0 m1 m2 m3 m2f sc rb Hrs RW sc0 hnz hnz2
    obtain ⟨m0, m1, m2, m3⟩ := R1.cells
    have hb3 := hS1.blk hbox (HB.out 0)
    have hz3 := hS1.blk hzero (HB.out 1)
    have zb := hS1.zero hbox (HB.out 0)
    have zz := hS1.zero hzero (HB.out 1)
    unfold rootF at zb zz
    have htb : t ≠ b := fun e => by rw [e, one_self] at zb; omega
    have f0 : s.F b + G b = 0 := by omega
    have ft : s.F t + G t = 0 := by have := R1.uniq t; rw [one_self] at this; omega
    obtain ⟨b0, b1, b2⟩ := box_cells hb3
    have hd3 : ∀ k, s.F k + G k ≤ 1 := fun k => by have := R1.uniq k; omega
    clear zb
    go_wp2
    have hcA : Chg0 wc (wc.alloc (Obj.cells #[Value.string { data := #[] }, Value.int IntKind.u64 0, Value.slice none 0 0] 33)) := (Chg.refl _ wc).alloc _
    have RA := R1.grew hcA
    have hbA := hcA.blk hb3
    have hqA : (wc.alloc (Obj.cells #[Value.string { data := #[] }, Value.int IntKind.u64 0, Value.slice none 0 0] 33)).heap[wc.heap.size]? = some (.cells #[Value.string { data := #[] }, Value.int IntKind.u64 0, Value.slice none 0 0] 33 (0, 0)) := (MapKept.heap_alloc wc _).1
    obtain ⟨a0, a1, a2, a3⟩ := RA.cells
    obtain ⟨e0, e1, e2⟩ := box_cells hbA
    have htq : t ≠ wc.heap.size := by have := (Array.getElem?_eq_some_iff.1 R1.blk).1; omega
    have hbq : b ≠ wc.heap.size := by have := (Array.getElem?_eq_some_iff.1 hb3).1; omega
    have hzq : b + 1 ≠ wc.heap.size := by have := (Array.getElem?_eq_some_iff.1 hz3).1; omega
    have fq : s.F wc.heap.size + G wc.heap.size = 0 := by have := R1.zero (Nat.le_refl _); unfold rootF at this; omega
    go_cut [8, 9] (fun s8 s9 wd => DelLeft wc wd t c len h s G e s8 s9)
    case first =>
      as_aux_lemma =>
        go_region_held3 (fun w' => w'.cell? ⟨t, 0, none⟩ = some (.int .i64 32) ∧ w'.cell? ⟨t, 2, none⟩ = some (.pointer (some ⟨s.p, 0, none⟩)) ∧ w'.cell? ⟨b, 0, none⟩ = some (.string e.key) ∧ w'.cell? ⟨b, 1, none⟩ = some (.int .u64 e.ver) ∧ w'.cell? ⟨b, 2, none⟩ = some (.slice e.va e.vn e.vc))
          (first | exact ⟨m0, m2, b0, b1, b2⟩ | exact ⟨a0, a2, e0, e1, e2⟩ | exact ⟨cell_blk (hS5.blk R1.blk ft) 0, cell_blk (hS5.blk R1.blk ft) 2, box_cells (hS5.blk hb3 f0)⟩ | exact ⟨cell_blk (hS5.blk RA.blk ft) 0, cell_blk (hS5.blk RA.blk ft) 2, box_cells (hS5.blk hbA f0)⟩ | exact ⟨Chg0.cell (hc6 _) (cell_blk (hS5.blk R1.blk ft) 0), Chg0.cell (hc6 _) (cell_blk (hS5.blk R1.blk ft) 2), box_cells ((hc6 _).blk (hS5.blk hb3 f0))⟩ | exact ⟨cell_blk ((boxPut_other old ht5).trans ((hc6 _).blk (hS5.blk R1.blk ft))) 0, cell_blk ((boxPut_other old ht5).trans ((hc6 _).blk (hS5.blk R1.blk ft))) 2, box_cells ((boxPut_other old hb5).trans ((hc6 _).blk (hS5.blk hb3 f0)))⟩ | exact ⟨cell_blk ((boxPut_other old htq).trans (hS5.blk RA.blk ft)) 0, cell_blk ((boxPut_other old htq).trans (hS5.blk RA.blk ft)) 2, box_cells ((boxPut_other old hbq).trans (hS5.blk hbA f0))⟩)
          ((first | (go_at_call 45; refine (minItems (by first | exact m0 | exact a0)).mono ?_; rintro _ w' ⟨rfl, rfl⟩) | (go_at_call 44; refine (remK_all h wc.drew c s G e (R1.tree.same (fun _ _ => rfl)) Hs.out (R1.pool.same (fun _ _ => rfl)) hd3 (fun _ => Hn1.out) (by have := Hn.out; omega)).mono ?_; rintro _ w5 ⟨old, ob, s5, G5, rfl, hp5, H5, hn5, hn5', hx5, hP5, hS5⟩; unfold Ent.v; have hc6 : ∀ o, Chg0 w5 (w5.alloc o) := fun o => (Chg.refl _ w5).alloc o; have ht5 : t ≠ w5.heap.size := by { have := (Array.getElem?_eq_some_iff.1 (hS5.blk R1.blk ft)).1; omega }; have hb5 : b ≠ w5.heap.size := by { have := (Array.getElem?_eq_some_iff.1 (hS5.blk hb3 f0)).1; omega }) | (go_at_call 44; refine (remK_all h (wc.alloc (Obj.cells #[Value.string { data := #[] }, Value.int IntKind.u64 0, Value.slice none 0 0] 33)).drew c s G e (RA.tree.same (fun _ _ => rfl)) Hs.out (RA.pool.same (fun _ _ => rfl)) hd3 (fun _ => Hn1.out) (by have := Hn.out; omega)).mono ?_; rintro _ w5 ⟨old, ob, s5, G5, rfl, hp5, H5, hn5, hn5', hx5, hP5, hS5⟩; unfold Ent.v; have hq5 := hS5.blk hqA fq; obtain ⟨q0, q1, q2⟩ := box_cells hq5; have y0 := frozen_blk hq5 0; have y1 := frozen_blk hq5 1; have y2 := frozen_blk hq5 2)))
        all_goals
          go_wp2
          go_meet
          case rel => first | exact delLeft_last R1 hp5 H5 hn5 hn5' hx5 hP5 hS5 | exact delLeft_first R1 hp5 H5 hn5 hn5' hx5 hP5 hS5
    case rest =>
      obtain ⟨q, old, ob, s5, G5, rfl, rfl, hq5, hqs, R5, hn5, hn5', hq0, hx5, hS5⟩ := hcut
      have hT5 := hS1.trans hS5
      have hz5 := hT5.blk hzero (HB.out 1)
      have hzz := hT5.zero hzero (HB.out 1)
      have HX : Hid (s5.xs = del e.key s.xs) := hx5
      have Hn5 : Hid (s5.n ≤ 63) := by show _ ≤ _; have := Hn.out; omega
      have hqz : q ≠ b + 1 := by have := (Array.getElem?_eq_some_iff.1 hz3).1; omega
      clear hx5 hS1 hS5 hb3 hz3 RA hbA hqA a0 a1 a2 a3 e0 e1 e2 m0 m1 m2 m3 b0 b1 b2 R1 hcA htb f0 ft hd3 htq hbq hzq fq hn5 hn5' hqs zz
      obtain ⟨m0, m1, m2, m3⟩ := R5.cells
      obtain ⟨iv5, cv5, its5, subs5, O5, hn5, hw5, hF5⟩ := R5.tree.open
      obtain ⟨i5, hi5⟩ : ∃ i5, i5 = its5.length := ⟨_, rfl⟩
      obtain ⟨k5, hk5⟩ : ∃ k5, k5 = (kids subs5).length := ⟨_, rfl⟩
      obtain ⟨ia, icap, hiv⟩ : ∃ a cap, iv5 = .slice a i5 cap := by obtain ⟨a, cap, h1⟩ := O5.node.iform; exact ⟨a, cap, by rw [h1, hi5]⟩
      subst hiv
      obtain ⟨ca, ccap, hcv⟩ : ∃ a cap, cv5 = .slice a k5 cap := by obtain ⟨a, cap, h1⟩ := O5.node.cform; exact ⟨a, cap, by rw [h1, hk5]⟩
      subst hcv
      have d0 : wc.cell? ⟨s5.p, 0, none⟩ = some (.slice ia i5 icap) := cell_blk O5.node.blk 0
      have d1 : wc.cell? ⟨s5.p, 1, none⟩ = some (.slice ca k5 ccap) := cell_blk O5.node.blk 1
      have Hi5 := hide (And.intro hi5 (And.intro hk5 (And.intro hn5 (And.intro hw5 hF5))))
      clear hi5 hk5 hn5 hw5 hF5
      go_upto_region 4 with (fail)
      go_cut [70] (fun s70 wd => ∃ bb : Bool, s70 = .bool bb ∧ wd = wc ∧ (bb = true ↔ (i5 = 0 ∧ 0 < k5)))
      case first =>
        by_cases hz : i5 = 0
        · subst hz
          go_wp2
          go_meet
          case rel => exact ⟨_, rfl, rfl, by simp⟩
        · have hk1 : (i5 : Int) ≠ 0 := by omega
          have hk2 : ((i5 : Int) == 0) = false := by simpa using hk1
          have Hz := hide hz
          clear hz
          go_wp2
          go_meet
          case rel => exact ⟨false, rfl, rfl, by simp [Hz.out]⟩
      case rest =>
       obtain ⟨bb, rfl, hw0, hbb⟩ := hcut
       have hw1 := hw0.symm
       clear hw0
       subst hw1
       have Hbb := hide hbb
       clear hbb
       go_upto_if 70 with (fail)
       go_cut [] (fun wd => ∃ h6 s6 G6, Root wd t c len h6 s6 G6 ∧ s6.n ≤ 63 ∧ (h6 = 0 ∨ 1 ≤ s6.n) ∧ s6.xs = s5.xs ∧ Stp (rootF t s5 G5) wc wd (rootF t s6 G6))
       case first =>
        cases bb with
        | false =>
          go_wp2
          go_meet
          case rel =>
            refine ⟨h, s5, G5, R5, Hn5.out, ?_, rfl, R5.stp⟩
            rcases Nat.eq_zero_or_pos h with h0 | h0
            · exact Or.inl h0
            · right
              obtain ⟨h', hh'⟩ : ∃ h', h = h' + 1 := ⟨h - 1, by omega⟩
              subst hh'
              have h2 := O5.kid.1
              have h3 := Hi5.out.2.1
              rw [kids_length] at h3
              have h4 := Hi5.out.2.2.1
              have h5 := Hi5.out.1
              by_cases h6 : i5 = 0
              · have := Hbb.out.2 ⟨h6, by omega⟩; cases this
              · omega
        | true =>
          obtain ⟨hz, hkp⟩ := Hbb.out.1 rfl
          subst hz
          obtain ⟨h', hh'⟩ : ∃ h', h = h' + 1 := by
            cases h with
            | zero =>
              have e1 : subs5 = [] := O5.kid
              have h3 := Hi5.out.2.1
              rw [e1] at h3
              have h3 : k5 = 0 := h3
              omega
            | succ h' => exact ⟨h', rfl⟩
          subst hh'
          obtain ⟨hi5, hk5, hn5, hw5, hF5⟩ := Hi5.out
          have hits : its5 = [] := List.eq_nil_of_length_eq_zero hi5.symm
          subst hits
          have hsl := O5.kid.1
          obtain ⟨u, hu⟩ : ∃ u, subs5 = [u] := by
            cases subs5 with
            | nil => simp at hsl
            | cons u r =>
              cases r with
              | nil => exact ⟨u, rfl⟩
              | cons _ _ => simp at hsl
          subst hu
          have hkk : k5 = 1 := hk5
          subst hkk
          have hut := O5.kid.2 u (by simp)
          obtain ⟨gc, hca⟩ : ∃ gc, ca = some ⟨gc, 0, none⟩ := by
            rcases O5.node.rc.form with ⟨h1, _⟩ | ⟨gc, cap', h1⟩
            · injection h1 with _ h1; cases h1
            · injection h1 with h1; exact ⟨gc, h1⟩
          subst hca
          obtain ⟨spc, hrc⟩ := O5.node.rc.blkOf
          have x0 : wc.cell? ⟨gc, 0, none⟩ = some (.pointer (some ⟨u.p, 0, none⟩)) := ptr_at hrc (i := 0) rfl
          have m2f : wc.frozen? ⟨t, 2, none⟩ = false := frozen_blk R5.blk 2
          have hu5 := R5.uniq
          have hFs : ∀ k, s5.F k = nodeF s5.p (.slice ia 0 icap) (.slice (some ⟨gc, 0, none⟩) 1 ccap) k + u.F k := fun k => by rw [hF5]; unfold opnF; rw [sumF_cons, sumF_nil]; omega
          have hc6 : Chg (one t) wc (wc.setCell ⟨t, 2, none⟩ (.pointer (some ⟨u.p, 0, none⟩))) := (Chg.refl (one t) wc).setCell (p := ⟨t, 2, none⟩) (fun _ => by show 1 ≤ one t t; rw [one_self]; exact Nat.le_refl _) _
          have hb6 : (wc.setCell ⟨t, 2, none⟩ (.pointer (some ⟨u.p, 0, none⟩))).heap[t]? = some (.cells #[.int .i64 32, .int .i64 len, ptr u.p, ptr c] 87 (0, 0)) := by rw [heap_setCell_blk R5.blk]; rfl
          have hN6 := O5.node.keep hc6 (fun k => by have := hu5 k; have := hFs k; omega)
          have hP6 := R5.pool.keep hc6 (fun k => by have := hu5 k; omega)
          have hT6 := hut.1.keep hc6 (fun k => by have := hu5 k; have := hFs k; omega)
          have hd6 : ∀ k, G5 k + nodeF s5.p (.slice ia 0 icap) (.slice (some ⟨gc, 0, none⟩) 1 ccap) k ≤ 1 := fun k => by have := hu5 k; have := hFs k; omega
          have htl := (Array.getElem?_eq_some_iff.1 R5.blk).1
          have hst : Stp (rootF t s5 G5) wc (wc.setCell ⟨t, 2, none⟩ (.pointer (some ⟨u.p, 0, none⟩))) (rootF t s5 G5) := ⟨hc6.mono (fun k _ h0 => by unfold rootF at h0; omega), fun _ _ => Nat.le_refl _, R5.uniq, fun k hk => Nat.lt_of_lt_of_le (R5.lt hk) hc6.size⟩
          have t3 : (wc.setCell ⟨t, 2, none⟩ (.pointer (some ⟨u.p, 0, none⟩))).cell? ⟨t, 3, none⟩ = some (.pointer (some ⟨c, 0, none⟩)) := cell_blk hb6 3
          have Hw := hide (And.intro hw5 hFs)
          clear hi5 hk5 hn5 hw5 hF5 Hi5 hsl hrc hFs O5 hkp Hbb
          generalize hw6 : wc.setCell ⟨t, 2, none⟩ (.pointer (some ⟨u.p, 0, none⟩)) = w6 at *
          go_wp2_with (fail)
          clear hw6
          refine (freeNode hP6 hN6 hd6 (by simp) (by simp [kids])).mono ?_
          rintro _ w7 ⟨x7, G7, rfl, hP7, hS7⟩
          have hu6 : ∀ k, one t k + (nodeF s5.p (.slice ia 0 icap) (.slice (some ⟨gc, 0, none⟩) 1 ccap) k + u.F k) + G5 k ≤ 1 := fun k => by have := hu5 k; have := Hw.out.2 k; omega
          have hT7 := (hS7.frame (fun k => one t k + u.F k) (fun k => by have := hu6 k; omega) (fun k hk => hst.lt k (by have := Hw.out.2 k; unfold rootF; omega))).congr (A' := rootF t s5 G5) (B' := rootF t u G7) (fun k => by have := Hw.out.2 k; unfold rootF; omega) (fun k => by unfold rootF; omega)
          have hb7 := hS7.blk hb6 (by have := hu6 t; rw [one_self] at this; show G5 t + _ = 0; omega)
          have ht7 := hT6.keep hS7.chg (fun k => by have := hu6 k; omega)
          go_wp2
          go_meet
          case rel =>
            refine ⟨h', u, G7, ⟨hb7, ht7, hP7, hT7.uniq⟩, hut.2.2, Or.inr (by omega), ?_, hst.trans hT7⟩
            rw [Hw.out.1]
            simp [weave]
       case rest =>
        obtain ⟨h6, s6, G6, R6, hn6, hh6, hx6, hS6⟩ := hcut
        have hT6 := hT5.trans hS6
        have hq6 := hS6.blk hq5 hq0
        have hz6 := hT6.blk hzero (HB.out 1)
        have hzz6 := hT6.zero hzero (HB.out 1)
        have hqq6 := hS6.zero hq5 hq0
        have hqt : q ≠ t := fun e => by unfold rootF at hqq6; rw [e, one_self] at hqq6; omega
        have hzt : b + 1 ≠ t := fun e => by unfold rootF at hzz6; rw [e, one_self] at hzz6; omega
        have HB5 : Hid (s6.n ≤ 63 ∧ (h6 = 0 ∨ 1 ≤ s6.n)) := ⟨hn6, hh6⟩
        have HX6 : Hid (s6.xs = del e.key s.xs) := by show _ = _; rw [hx6, HX.out]
        clear hx6 hS6 hT5 hz5 hq5 R5 m0 m1 m2 m3 d0 d1 O5 Hi5 hh6 hn6 hzz hq0
        obtain ⟨q0, q1, q2⟩ := box_cells hq6
        obtain ⟨z0, z1, z2⟩ := box_cells hz6
        have y0 := frozen_blk hz6 0
        have y1 := frozen_blk hz6 1
        have y2 := frozen_blk hz6 2
        have l1 : wc.cell? ⟨t, 1, none⟩ = some (.int .i64 len) := R6.cells.2.1
        have l2 : wc.frozen? ⟨t, 1, none⟩ = false := frozen_blk R6.blk 1
        cases ob with
        | false =>
          go_wp2
          have r0 := boxPut_at old hz6
          refine bodyPost_ret (v := .tuple #[old.v, .bool false]) (by
            have r1 := cell_blk r0 0
            have r2 := cell_blk r0 1
            have r3 := cell_blk r0 2
            unfold Qxb6603483a.boxPut at r1 r2 r3
            simp [results, Try.results37, go_sem, r1, r2, r3, Ent.v, ptr]) rfl ?_
          exact ⟨old, false, _, rfl, ⟨Hs.out.del, Or.inr ⟨c, len, h6, s6, G6, R6.boxPut (b := b + 1) hzz6 old, HB5.out.1, HB5.out.2, HX6.out, fun _ => rfl⟩⟩, (hT6.pre hchgW.out).boxPut (b := b + 1) (by rw [Hb.out]; omega) old⟩
        | true =>
          have hq7 : (wc.setCell ⟨t, 1, none⟩ (.int .i64 (wrap64 (len - 1)))).heap[q]? = _ := (Below.heap_setCell _ _ _ _ hqt).trans hq6
          have hz7 : (wc.setCell ⟨t, 1, none⟩ (.int .i64 (wrap64 (len - 1)))).heap[b + 1]? = _ := (Below.heap_setCell _ _ _ _ hzt).trans hz6
          obtain ⟨R7, hS7⟩ := root_setLen R6 (wrap64 (len - 1))
          obtain ⟨p0, p1, p2⟩ := box_cells hq7
          obtain ⟨z0', z1', z2'⟩ := box_cells hz7
          have y0' := frozen_blk hz7 0
          have y1' := frozen_blk hz7 1
          have y2' := frozen_blk hz7 2
          go_wp2
          have r0 := boxPut_at old hz7
          refine bodyPost_ret (v := .tuple #[old.v, .bool true]) (by
            have r1 := cell_blk r0 0
            have r2 := cell_blk r0 1
            have r3 := cell_blk r0 2
            unfold Qxb6603483a.boxPut at r1 r2 r3
            simp [results, Try.results37, go_sem, r1, r2, r3, Ent.v, ptr]) rfl ?_
          exact ⟨old, true, _, rfl, ⟨Hs.out.del, Or.inr ⟨c, _, h6, s6, G6, R7.boxPut (b := b + 1) hzz6 old, HB5.out.1, HB5.out.2, HX6.out, fun _ => rfl⟩⟩, ((hT6.trans hS7).pre hchgW.out).boxPut (b := b + 1) (by rw [Hb.out]; omega) old⟩

end Go.Proofs.Qxb6603483a
