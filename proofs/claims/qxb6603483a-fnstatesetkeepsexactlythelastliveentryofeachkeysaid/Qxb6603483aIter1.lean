/-
  iterate over an inner node.
-/
import Derived.Test.Qxb6603483aIter0
import Derived.Test.Qxb6603483aLast2
namespace Go.Proofs.Qxb6603483a
open Go.RowKit
set_option linter.unusedSimpArgs false
attribute [local go_sem ↓] Go.wp_at_zero Go.wp_at_succ

/-- The woven part ahead of place i. -/
def part (its : List Ent) (subs : List Sub) (i : Nat) : List Ent := weave (its.take i) (subs.take i)

theorem part_next {its : List Ent} {subs : List Sub} {i : Nat} {x : Ent} {u : Sub} (hx : its[i]? = some x) (hu : subs[i]? = some u) : part its subs (i + 1) = part its subs i ++ u.xs ++ [x] := by
  have h1 : its.take (i + 1) = its.take i ++ [x] := by rw [List.take_add_one, hx]; rfl
  have h2 : subs.take (i + 1) = subs.take i ++ [u] := by rw [List.take_add_one, hu]; rfl
  have hl1 := (List.getElem?_eq_some_iff.1 hx).1
  have hl2 := (List.getElem?_eq_some_iff.1 hu).1
  unfold part
  rw [h1, h2, weave_append _ _ _ _ (by rw [List.length_take, List.length_take]; omega)]
  simp [weave]
theorem part_whole {its : List Ent} {subs : List Sub} {i : Nat} {x : Ent} {u : Sub} (hx : its[i]? = some x) (hu : subs[i]? = some u) : ∃ R, weave its subs = part its subs i ++ (u.xs ++ x :: R) := by
  have hl1 := (List.getElem?_eq_some_iff.1 hx)
  have hl2 := (List.getElem?_eq_some_iff.1 hu)
  have e1 : its = its.take i ++ x :: its.drop (i + 1) := by rw [← hl1.2]; simp
  have e2 : subs = subs.take i ++ u :: subs.drop (i + 1) := by rw [← hl2.2]; simp
  refine ⟨weave (its.drop (i + 1)) (subs.drop (i + 1)), ?_⟩
  have h := weave_at (its.take i) (subs.take i) (x :: its.drop (i + 1)) u (subs.drop (i + 1)) (by rw [List.length_take, List.length_take]; have := hl1.1; have := hl2.1; omega)
  rw [← e1, ← e2] at h
  rw [h]
  rfl
theorem part_last {its : List Ent} {subs : List Sub} {u : Sub} (hl : subs.length = its.length + 1) (hu : subs[its.length]? = some u) : weave its subs = part its subs its.length ++ u.xs := by
  have hl2 := (List.getElem?_eq_some_iff.1 hu)
  have e2 : subs = subs.take its.length ++ [u] := by
    have : subs.drop its.length = [u] := by
      rw [List.drop_eq_getElem_cons hl2.1, hl2.2]
      simp; omega
    rw [← this]; simp
  have h := weave_append its (subs.take its.length) [] [u] (by rw [List.length_take]; omega)
  rw [List.append_nil, ← e2] at h
  rw [h]
  unfold part
  rw [List.take_length]
  simp [weave]

set_option maxRecDepth 100000 in
set_option maxHeartbeats 8000000 in
theorem iter_inner {l B N : Nat} {J Jx : List Ent → World → Prop} (RR : Rnds l B N J Jx) {h : Nat} (IH : IterOK l B N J Jx h) : IterOK l B N J Jx (h + 1) := by
  intro w c f s pre hit H hcow hcB hcr hAp hOk hAsc hn hJ hN
  obtain ⟨iv, cv, its, subs, hNo, hnl, hsl, hkid, hxs, hF, hun⟩ := H
  obtain ⟨n, hn1⟩ : ∃ n, n = its.length := ⟨_, rfl⟩
  obtain ⟨m, hm1⟩ : ∃ m, m = (kids subs).length := ⟨_, rfl⟩
  have hmn : m = n + 1 := by rw [hm1, kids_length, hsl, hn1]
  obtain ⟨ia, ic, hiv⟩ : ∃ a cap, iv = .slice a n cap := by obtain ⟨a, cap, h1⟩ := hNo.iform; exact ⟨a, cap, by rw [h1, hn1]⟩
  subst hiv
  obtain ⟨gc, cc, hcv⟩ : ∃ gc cc, cv = .slice (some ⟨gc, 0, none⟩) m cc := by
    rcases hNo.rc.form with ⟨_, h1⟩ | ⟨gc, cc, h1⟩
    · rw [h1] at hm1; simp at hm1; omega
    · exact ⟨gc, cc, by rw [h1, hm1]⟩
  subst hcv
  obtain ⟨W, hW, ⟨hbox, hzero⟩, hchg⟩ : ∃ W, W = (w.alloc (Obj.cells #[Value.string { data := #[] }, Value.int IntKind.u64 0, Value.slice none 0 0, Value.bool true] 92)).alloc (Obj.cells #[Value.string { data := #[] }, Value.int IntKind.u64 0, Value.slice none 0 0, Value.bool false] 92) ∧
      (W.heap[w.heap.size]? = some (.cells #[Value.string { data := #[] }, Value.int IntKind.u64 0, Value.slice none 0 0, Value.bool true] 92 (0, 0)) ∧
      W.heap[w.heap.size + 1]? = some (.cells #[Value.string { data := #[] }, Value.int IntKind.u64 0, Value.slice none 0 0, Value.bool false] 92 (0, 0))) ∧ Chg0 w W :=
    ⟨_, rfl, two_boxes w _ _ _ _, ((Chg.refl _ w).alloc _).alloc _⟩
  have hNW := hchg.node hNo (fun _ _ => rfl)
  have hkW := Keep.chg0 hchg hOk.1
  have hApS := hAp.keep hkW
  have hApW : Apart B W (nodeF s.p (.slice ia n ic) (.slice (some ⟨gc, 0, none⟩) m cc)) := hApS.mono (fun k hk => by rw [hF]; omega)
  have hOkW := hOk.keep hkW
  have hJW := RR.abide _ _ _ hJ hchg
  have hcowW := hchg.blk hcow
  have hcrW : some c ≠ outRow W B := by rw [outRow_same (hchg.same B hOk.1 rfl)]; exact hcr
  have hfr0 := fresh_apart (B := B) hchg hOk.1 hOk.2 (k := w.heap.size) (Nat.le_refl _)
  have hfr1 := fresh_apart (B := B) hchg hOk.1 hOk.2 (k := w.heap.size + 1) (by omega)
  have hkidW : ∀ t ∈ subs, IsT W c h t ∧ 31 ≤ t.n ∧ t.n ≤ 63 := fun t ht => ⟨(hkid t ht).1.same (fun k hk => hchg.same k ((hkid t ht).1.lt hk) rfl), (hkid t ht).2⟩
  have c0 : W.cell? ⟨s.p, 0, none⟩ = some (.slice ia n ic) := cell_blk hNW.blk 0
  have c2 : W.cell? ⟨s.p, 2, none⟩ = some (.pointer (some ⟨c, 0, none⟩)) := cell_blk hNW.blk 2
  have l1 : W.cell? ⟨c, 1, none⟩ = some (.func (.func 29) #[] #[]) := cell_blk hcowW 1
  have b0 : W.cell? ⟨w.heap.size, 0, none⟩ = some (.string ⟨#[]⟩) := cell_blk hbox 0
  have b1 : W.cell? ⟨w.heap.size, 1, none⟩ = some (.int .u64 0) := cell_blk hbox 1
  have b2 : W.cell? ⟨w.heap.size, 2, none⟩ = some (.slice none 0 0) := cell_blk hbox 2
  have b3 : W.cell? ⟨w.heap.size, 3, none⟩ = some (.bool true) := cell_blk hbox 3
  have hfind := find_start (w := W.drew) (hNW.ri.drew) (hAsc.sub (by rw [hxs]; exact sub_weave _ _)) (by omega)
  -- the child at place i, walked
  have hrec : ∀ (i : Nat) (u : Sub) (wr : World) (p0 : List Ent) (ht : Bool), subs[i]? = some u → Keep B W wr → J p0 wr → p0.length + u.xs.length ≤ N → u.xs.Sublist s.xs →
      Calls Try.prog 32 #[ptr u.p, .int .i64 1, startV, stopV, .bool true, .bool ht, .func (.yield l) #[] #[]] wr.drew fun r w' => IterLeft B J Jx p0 u.xs wr.drew r w' := fun i u wr p0 ht hu hk hj hl hsub => by
    have hm := List.mem_of_getElem? hu
    have hFu : ∀ k, 1 ≤ u.F k → 1 ≤ s.F k := fun k hk => by have := sumF_mem hm k; rw [hF]; omega
    have hd : Chg0 wr wr.drew := ⟨rfl, rfl, rfl, Nat.le_refl _, fun _ _ _ => rfl⟩
    have hk2 : Keep B W wr.drew := ⟨hk.size, hk.same, hk.row⟩
    exact IH wr.drew c f u p0 ht ((hkidW u hm).1.kept hk2 (hApS.mono hFu)) (hk2.same _ _ _ _ hcowW hcB hcrW) hcB (fun e => by
      rcases hk2.row c e.symm with e1 | ⟨e1, _⟩
      · exact hcrW e1.symm
      · have := heap_lt hcowW; omega) ((hApS.mono hFu).keep hk2) (hOkW.keep hk2) (hAsc.sub hsub) (by have := (hkidW u hm).2.2; omega) (RR.abide _ _ _ hj hd) hl
  have Hrec := hide hrec
  have Hall := hide (And.intro hn1 (And.intro hm1 (And.intro hsl (And.intro hxs (And.intro hN (And.intro hnl (And.intro hn (And.intro hkid hmn))))))))
  have hW' := hW.symm
  clear hW hAsc hn hN hnl hF hAp hOk hcow hcB hcr hNo hJ hrec hkidW hxs hsl hm1 hkid hun hApS hcrW hmn IH
  unfold ptr startV stopV
  unfold lessV ent0 Ent.v at hfind
  go_enter Try.func32, Try.ntmps32
  go_wp2
  clear hW'
  generalize hbb : w.heap.size = b at *
  have Hb := hide hbb
  clear hbb hn1
  go_region_held3 (fun w' => w'.cell? ⟨s.p, 0, none⟩ = some (.slice ia n ic) ∧ w'.cell? ⟨s.p, 2, none⟩ = some (.pointer (some ⟨c, 0, none⟩)) ∧ w'.cell? ⟨c, 1, none⟩ = some (.func (.func 29) #[] #[]) ∧ w'.cell? ⟨b, 0, none⟩ = some (.string ⟨#[]⟩) ∧ w'.cell? ⟨b, 1, none⟩ = some (.int .u64 0) ∧ w'.cell? ⟨b, 2, none⟩ = some (.slice none 0 0))
    (first | exact ⟨c0, c2, l1, b0, b1, b2⟩ | exact ⟨Chg0.cell hc c0, Chg0.cell hc c2, Chg0.cell hc l1, Chg0.cell hc b0, Chg0.cell hc b1, Chg0.cell hc b2⟩)
    ((go_at_call 43; refine hfind.mono ?_; rintro _ w1 ⟨⟨fb, rfl⟩, hc⟩))
  have hc' : Chg0 W w1 := ((Chg.refl (fun _ => 0) W).drew).trans hc
  have hkw1 := Keep.chg0 hc' hOkW.1
  have hJ1 := RR.abide _ _ _ hJW hc'
  clear hc c0 c2 l1 b0 b1 b2 b3 hfind hJW hc'
  go_wp2
  go_loopg [5, 14, 15, 16, 19] n (fun kx s5 s14 s15 s16 s19 wr => ∃ (i : Nat) (ht ok : Bool), s5 = .bool ht ∧ s14 = .bool false ∧ s15 = .bool false ∧ s16 = .bool ok ∧ s19 = .int .i64 i ∧ i ≤ n ∧ n - i ≤ kx ∧ J (pre ++ part its subs i) wr ∧ Keep B W wr)
  case atStart => exact ⟨0, hit, false, rfl, rfl, rfl, rfl, rfl, Nat.zero_le _, by omega, by simpa [part, weave] using hJ1, hkw1⟩
  case round =>
    obtain ⟨i, ht, ok, rfl, rfl, rfl, rfl, rfl, hin, hkx, hJr, hkr⟩ := hrel
    have hNr := hNW.kept hkr hApW
    have hbr := hkr.same _ _ _ _ hbox hfr0.1 hfr0.2
    have hzr := hkr.same _ _ _ _ hzero hfr1.1 hfr1.2
    have c0 : wr.cell? ⟨s.p, 0, none⟩ = some (.slice ia n ic) := cell_blk hNr.blk 0
    have c1 : wr.cell? ⟨s.p, 1, none⟩ = some (.slice (some ⟨gc, 0, none⟩) m cc) := cell_blk hNr.blk 1
    have b0 : wr.cell? ⟨b, 0, none⟩ = some (.string ⟨#[]⟩) := cell_blk hbr 0
    have b1 : wr.cell? ⟨b, 1, none⟩ = some (.int .u64 0) := cell_blk hbr 1
    have b2 : wr.cell? ⟨b, 2, none⟩ = some (.slice none 0 0) := cell_blk hbr 2
    have b3 : wr.cell? ⟨b, 3, none⟩ = some (.bool true) := cell_blk hbr 3
    have z0 : wr.cell? ⟨b + 1, 0, none⟩ = some (.string ⟨#[]⟩) := cell_blk hzr 0
    have z1 : wr.cell? ⟨b + 1, 1, none⟩ = some (.int .u64 0) := cell_blk hzr 1
    have z2 : wr.cell? ⟨b + 1, 2, none⟩ = some (.slice none 0 0) := cell_blk hzr 2
    have z3 : wr.cell? ⟨b + 1, 3, none⟩ = some (.bool false) := cell_blk hzr 3
    have hmp : (0 : Int) < (m : Int) := by have := Hall.out.2.2.2.2.2.2.2.2; omega
    obtain ⟨spc, hrowc⟩ := hNr.rc.blkOf
    by_cases hlt : i < n
    · have hlt' : (i : Int) < (n : Int) := by omega
      obtain ⟨x, hx⟩ : ∃ x, its[i]? = some x := ⟨its[i]'(by have := Hall.out.1; omega), by simp⟩
      obtain ⟨u, hu⟩ : ∃ u, subs[i]? = some u := ⟨subs[i]'(by have h1 := Hall.out.1; have h2 := Hall.out.2.2.1; omega), by simp⟩
      obtain ⟨g, hg⟩ : ∃ g, ia = some ⟨g, 0, none⟩ := by
        rcases hNr.ri.form with ⟨h1, h2⟩ | ⟨g, cap, h1⟩
        · rw [h2] at hx; simp at hx
        · injection h1 with h1; exact ⟨g, h1⟩
      subst hg
      have hix : ∀ w', (Instr.indexAt 102 (.slice (some ⟨g, 0, none⟩) n ic) (.int .i64 (i : Int))).run Try.prog w' = .ok (.pointer (some ⟨g, i * 3, none⟩)) w' :=
        fun w' => run_ix (P := Try.prog) 102 3 g n ic i (i : Int) rfl hlt Try.underlying102 (fun _ => by kernel_rfl) w'
      have hiz : ∀ w', (Instr.indexAt 104 (.slice (some ⟨gc, 0, none⟩) m cc) (.int .i64 (i : Int))).run Try.prog w' = .ok (.pointer (some ⟨gc, i, none⟩)) w' :=
        fun w' => by have := run_ix (P := Try.prog) 104 1 gc m cc i (i : Int) rfl (by have := Hall.out.2.2.2.2.2.2.2.2; omega) Try.underlying104 (fun _ => by kernel_rfl) w'; rw [Nat.mul_one] at this; exact this
      have x0 : wr.cell? ⟨gc, i, none⟩ = some (.pointer (some ⟨u.p, 0, none⟩)) := ptr_at hrowc (by unfold kids; rw [List.getElem?_map, hu]; rfl)
      obtain ⟨R, hR0⟩ := part_whole hx hu
      have hxs := Hall.out.2.2.2.1
      have HIH := Hrec.out i u wr (pre ++ part its subs i) ht hu hkr hJr (by
        have h1 := Hall.out.2.2.2.2.1
        rw [hxs, hR0] at h1
        simp only [List.length_append, List.length_cons] at h1 ⊢
        omega) (by rw [hxs, hR0]; exact (List.sublist_append_left _ _).trans (List.sublist_append_right _ _))
      unfold ptr startV stopV IterLeft at HIH
      have Hx := hide (And.intro hx (And.intro hu hR0))
      clear hx hu hrowc hR0 hxs
      go_wp2
      refine startZ (fun w' => w'.cell? ⟨s.p, 1, none⟩ = some (.slice (some ⟨gc, 0, none⟩) m cc) ∧ w'.cell? ⟨gc, i, none⟩ = some (.pointer (some ⟨u.p, 0, none⟩)) ∧ w'.cell? ⟨b, 0, none⟩ = some (.string ⟨#[]⟩) ∧ w'.cell? ⟨b, 1, none⟩ = some (.int .u64 0) ∧ w'.cell? ⟨b, 2, none⟩ = some (.slice none 0 0) ∧ w'.cell? ⟨b, 3, none⟩ = some (.bool true) ∧ w'.cell? ⟨b + 1, 0, none⟩ = some (.string ⟨#[]⟩) ∧ w'.cell? ⟨b + 1, 1, none⟩ = some (.int .u64 0) ∧ w'.cell? ⟨b + 1, 2, none⟩ = some (.slice none 0 0) ∧ w'.cell? ⟨b + 1, 3, none⟩ = some (.bool false)) 13 (by kernel_rfl) ?_ (fun hHeld => ?_)
      · exact ⟨c1, x0, b0, b1, b2, b3, z0, z1, z2, z3⟩
      refine takeZ (i := 0) (v := ?_) rfl rfl (by kernel_rfl) (by kernel_rfl) (by kernel_rfl) (by kernel_rfl) (fun _ _ _ h => h) (by assumption) (Or.inl ⟨by rfl, ?_⟩) ?_
      rotate_left
      · intro w hSw; (try dsimp only at hSw); go_simp <;> with_reducible rfl
      dsimp only [List.set_cons_zero, List.set_cons_succ]
      refine takeZ (i := 1) (v := ?_) rfl rfl (by kernel_rfl) (by kernel_rfl) (by kernel_rfl) (by kernel_rfl) (fun _ _ _ h => h) (by assumption) (Or.inl ⟨by rfl, ?_⟩) ?_
      rotate_left
      · intro w hSw; (try dsimp only at hSw); go_simp <;> with_reducible rfl
      dsimp only [List.set_cons_zero, List.set_cons_succ]
      refine takeZ (i := 2) (v := ?_) rfl rfl (by kernel_rfl) (by kernel_rfl) (by kernel_rfl) (by kernel_rfl) (fun _ _ _ h => h) (by assumption) (Or.inl ⟨by rfl, ?_⟩) ?_
      rotate_left
      · intro w hSw; (try dsimp only at hSw); go_simp <;> with_reducible rfl
      dsimp only [List.set_cons_zero, List.set_cons_succ]
      refine takeZ (i := 3) (v := ?_) rfl rfl (by kernel_rfl) (by kernel_rfl) (by kernel_rfl) (by kernel_rfl) (fun _ _ _ h => h) (by assumption) (Or.inl ⟨by rfl, ?_⟩) ?_
      rotate_left
      · intro w hSw; (try dsimp only at hSw); go_simp <;> with_reducible rfl
      dsimp only [List.set_cons_zero, List.set_cons_succ]
      refine takeZ (i := 4) (v := ?_) rfl rfl (by kernel_rfl) (by kernel_rfl) (by kernel_rfl) (by kernel_rfl) (fun _ _ _ h => h) (by assumption) (Or.inl ⟨by rfl, ?_⟩) ?_
      rotate_left
      · intro w hSw; (try dsimp only at hSw); go_simp <;> with_reducible rfl
      dsimp only [List.set_cons_zero, List.set_cons_succ]
      refine takeZ (i := 5) (v := ?_) rfl rfl (by kernel_rfl) (by kernel_rfl) (by kernel_rfl) (by kernel_rfl) (fun _ _ _ h => h) (by assumption) (Or.inl ⟨by rfl, ?_⟩) ?_
      rotate_left
      · intro w hSw; (try dsimp only at hSw); go_simp <;> with_reducible rfl
      dsimp only [List.set_cons_zero, List.set_cons_succ]
      refine takeZ (i := 6) (v := ?_) rfl rfl (by kernel_rfl) (by kernel_rfl) (by kernel_rfl) (by kernel_rfl) (fun _ _ _ h => h) (by assumption) (Or.inl ⟨by rfl, ?_⟩) ?_
      rotate_left
      · intro w hSw; (try dsimp only at hSw); go_simp <;> with_reducible rfl
      dsimp only [List.set_cons_zero, List.set_cons_succ]
      refine takeZ (i := 7) (v := ?_) rfl rfl (by kernel_rfl) (by kernel_rfl) (by kernel_rfl) (by kernel_rfl) (fun _ _ _ h => h) (by assumption) (Or.inl ⟨by rfl, ?_⟩) ?_
      rotate_left
      · intro w hSw; (try dsimp only at hSw); go_simp <;> with_reducible rfl
      dsimp only [List.set_cons_zero, List.set_cons_succ]
      refine takeZ (i := 8) (v := ?_) rfl rfl (by kernel_rfl) (by kernel_rfl) (by kernel_rfl) (by kernel_rfl) (fun _ _ _ h => h) (by assumption) (Or.inl ⟨by rfl, ?_⟩) ?_
      rotate_left
      · intro w hSw; (try dsimp only at hSw); go_simp <;> with_reducible rfl
      dsimp only [List.set_cons_zero, List.set_cons_succ]
      refine takeZ (i := 9) (v := ?_) rfl rfl (by kernel_rfl) (by kernel_rfl) (by kernel_rfl) (by kernel_rfl) (fun _ _ _ h => h) (by assumption) (Or.inl ⟨by rfl, ?_⟩) ?_
      rotate_left
      · intro w hSw; (try dsimp only at hSw); go_simp <;> with_reducible rfl
      dsimp only [List.set_cons_zero, List.set_cons_succ]
      refine takeZ (i := 10) (v := ?_) rfl rfl (by kernel_rfl) (by kernel_rfl) (by kernel_rfl) (by kernel_rfl) (fun _ _ _ h => h) (by assumption) (Or.inl ⟨by rfl, ?_⟩) ?_
      rotate_left
      · intro w hSw; (try dsimp only at hSw); go_simp <;> with_reducible rfl
      dsimp only [List.set_cons_zero, List.set_cons_succ]
      refine takeZ (i := 11) (v := ?_) rfl rfl (by kernel_rfl) (by kernel_rfl) (by kernel_rfl) (by kernel_rfl) (fun _ _ _ h => h) (by assumption) (Or.inl ⟨by rfl, ?_⟩) ?_
      rotate_left
      · intro w hSw; (try dsimp only at hSw); go_simp <;> with_reducible rfl
      dsimp only [List.set_cons_zero, List.set_cons_succ]
      refine takeZ (i := 12) (v := ?_) rfl rfl (by kernel_rfl) (by kernel_rfl) (by kernel_rfl) (by kernel_rfl) (fun _ _ _ h => h) (by assumption) (Or.inl ⟨by rfl, ?_⟩) ?_
      rotate_left
      · intro w hSw; (try dsimp only at hSw); go_simp <;> with_reducible rfl
      dsimp only [List.set_cons_zero, List.set_cons_succ]
      refine callZ (by kernel_rfl) (by kernel_rfl) rfl (fun K hK => ?_)
      go_simp
      go_at_call 32
      refine HIH.mono ?_
      clear HIH
      rintro e w5 (⟨h5, rfl, hJ5, hk5⟩ | ⟨h5, q, rfl, hq5, hJx5⟩)
      · -- the child has been walked whole
        refine hK.out _ _ ?_
        clear hK K
        try simp only [Act.put, List.setIfInBounds_toArray, List.set_cons_zero, List.set_cons_succ]
        refine takeW (i := 14) (v := ?_) rfl rfl (by kernel_rfl) (by kernel_rfl) (by kernel_rfl) (fun _ _ _ h => h) (Or.inl ⟨by rfl, ?_⟩) ?_
        rotate_left
        · intro w; go_simp <;> with_reducible rfl
        dsimp only [List.set_cons_zero, List.set_cons_succ]
        refine takeW (i := 15) (v := ?_) rfl rfl (by kernel_rfl) (by kernel_rfl) (by kernel_rfl) (fun _ _ _ h => h) (Or.inl ⟨by rfl, ?_⟩) ?_
        rotate_left
        · intro w; go_simp <;> with_reducible rfl
        dsimp only [List.set_cons_zero, List.set_cons_succ]
        refine takeW (i := 16) (v := ?_) rfl rfl (by kernel_rfl) (by kernel_rfl) (by kernel_rfl) (fun _ _ _ h => h) (Or.inl ⟨by rfl, ?_⟩) ?_
        rotate_left
        · intro w; go_simp <;> with_reducible rfl
        dsimp only [List.set_cons_zero, List.set_cons_succ]
        refine takeW (i := 17) (v := ?_) rfl rfl (by kernel_rfl) (by kernel_rfl) (by kernel_rfl) (fun _ _ _ h => h) (Or.inl ⟨by rfl, ?_⟩) ?_
        rotate_left
        · intro w; go_simp <;> with_reducible rfl
        dsimp only [List.set_cons_zero, List.set_cons_succ]
        refine takeW (i := 18) (v := ?_) rfl rfl (by kernel_rfl) (by kernel_rfl) (by kernel_rfl) (fun _ _ _ h => h) (Or.inl ⟨by rfl, ?_⟩) ?_
        rotate_left
        · intro w; go_simp <;> with_reducible rfl
        dsimp only [List.set_cons_zero, List.set_cons_succ]
        refine wpAny_done (by kernel_rfl) ?_ _
        have hk6 := hkr.trans (Keep.trans (b := wr.drew) ⟨Nat.le_refl _, fun _ _ _ _ h _ _ => h, fun _ h => Or.inl h⟩ hk5)
        have hN6 := hNW.kept hk6 hApW
        have hz6 := hk6.same _ _ _ _ hzero hfr1.1 hfr1.2
        clear c0 c1 x0 b0 b1 b2 b3 z0 z1 z2 z3 hHeld hbr hzr hNr hJr hkr hk5
        have c0 : w5.cell? ⟨s.p, 0, none⟩ = some (.slice (some ⟨g, 0, none⟩) n ic) := cell_blk hN6.blk 0
        have z3 : w5.cell? ⟨b + 1, 3, none⟩ = some (.bool false) := cell_blk hz6 3
        obtain ⟨sp, hrow⟩ := hN6.ri.blkOf
        obtain ⟨e0, e1, e2⟩ := ent_at hrow Hx.out.1
        clear hrow
        go_wp2
        go_quiet (fail)
        obtain ⟨w2, hw2, hc2⟩ : ∃ w2, w5.drewN nq = w2 ∧ Chg0 w5 w2 := ⟨_, rfl, ⟨rfl, rfl, rfl, Nat.le_refl _, fun _ _ _ => rfl⟩⟩
        rw [hw2]
        clear hw2
        have c0 := Chg0.cell hc2 c0
        have z3 := Chg0.cell hc2 z3
        go_wp2
        go_quiet (fail)
        obtain ⟨w3, hw3, hc3⟩ : ∃ w3, w2.drewN nq = w3 ∧ Chg0 w2 w3 := ⟨_, rfl, ⟨rfl, rfl, rfl, Nat.le_refl _, fun _ _ _ => rfl⟩⟩
        rw [hw3]
        clear hw3
        have hc4 := hc2.trans hc3
        have c0 := Chg0.cell hc3 c0
        have e0 := Chg0.cell hc4 e0
        have e1 := Chg0.cell hc4 e1
        have e2 := Chg0.cell hc4 e2
        have hJ4 := RR.abide _ _ _ hJ5 hc4
        go_upto_region 19 with (fail)
        have hlen : (pre ++ part its subs i ++ u.xs).length < N := by
          have h1 := Hall.out.2.2.2.2.1
          have h2 := Hall.out.2.2.2.1
          have h3 := Hx.out.2.2
          rw [h2, h3] at h1
          simp only [List.length_append, List.length_cons] at h1 ⊢
          omega
        obtain ⟨fn, tmps, assign, body, hy, hR⟩ := RR.yield 2 (pre ++ part its subs i ++ u.xs) x w3 hJ4 hlen
        have hdd : ∀ k : Nat, (Fence.wide.depth.isSome = true → 1 ≤ k) := fun k h => by cases h
        refine (wpIn_wide (n := 3)).1 ?_
        clear z3 hlen
        gi_wp2_with ((try refine ⟨hdd _, ?_⟩); refine hR.mono ?_; clear hR; rintro e W3 (⟨rfl, hJ3, hk3⟩ | ⟨rfl, hJx3⟩))
        · have hi1 : (i : Int) ≤ 1000 := by have h1 := Hall.out.2.2.2.2.2.2.1; have h2 := Hall.out.1; have h3 := Hall.out.2.2.2.2.2.1; omega
          have hi0 : (0 : Int) ≤ (i : Int) := Int.natCast_nonneg _
          clear hJ4 c0 e0 e1 e2
          go_wp2
          go_roundg (n - (i + 1))
          case measure => omega
          case rel =>
            refine ⟨i + 1, true, true, rfl, rfl, rfl, rfl, rfl, by omega, Nat.le_refl _, ?_, hk6.trans ((Keep.chg0 hc4 (hOkW.keep hk6).1).trans hk3)⟩
            rw [part_next Hx.out.1 Hx.out.2.1, ← List.append_assoc, ← List.append_assoc]
            exact hJ3
        · go_wp2
          refine bodyPost_ret (v := .tuple #[.bool true, .bool false]) (by simp [results, Try.results32, go_sem]) rfl ?_
          refine Or.inr ⟨true, part its subs i ++ u.xs ++ [x], rfl, ?_, ?_⟩
          · rw [Hall.out.2.2.2.1, Hx.out.2.2, List.append_assoc]
            exact (List.prefix_append_right_inj _).2 ((List.prefix_append_right_inj _).2 ⟨_, rfl⟩)
          · rw [← List.append_assoc, ← List.append_assoc]
            exact hJx3
      · -- it was cut short
        refine hK.out _ _ ?_
        clear hK K
        try simp only [Act.put, List.setIfInBounds_toArray, List.set_cons_zero, List.set_cons_succ]
        refine takeW (i := 14) (v := ?_) rfl rfl (by kernel_rfl) (by kernel_rfl) (by kernel_rfl) (fun _ _ _ h => h) (Or.inl ⟨by rfl, ?_⟩) ?_
        rotate_left
        · intro w; go_simp <;> with_reducible rfl
        dsimp only [List.set_cons_zero, List.set_cons_succ]
        refine takeW (i := 15) (v := ?_) rfl rfl (by kernel_rfl) (by kernel_rfl) (by kernel_rfl) (fun _ _ _ h => h) (Or.inl ⟨by rfl, ?_⟩) ?_
        rotate_left
        · intro w; go_simp <;> with_reducible rfl
        dsimp only [List.set_cons_zero, List.set_cons_succ]
        refine takeW (i := 16) (v := ?_) rfl rfl (by kernel_rfl) (by kernel_rfl) (by kernel_rfl) (fun _ _ _ h => h) (Or.inl ⟨by rfl, ?_⟩) ?_
        rotate_left
        · intro w; go_simp <;> with_reducible rfl
        dsimp only [List.set_cons_zero, List.set_cons_succ]
        refine takeW (i := 17) (v := ?_) rfl rfl (by kernel_rfl) (by kernel_rfl) (by kernel_rfl) (fun _ _ _ h => h) (Or.inl ⟨by rfl, ?_⟩) ?_
        rotate_left
        · intro w; go_simp <;> with_reducible rfl
        dsimp only [List.set_cons_zero, List.set_cons_succ]
        refine takeW (i := 18) (v := ?_) rfl rfl (by kernel_rfl) (by kernel_rfl) (by kernel_rfl) (fun _ _ _ h => h) (Or.inl ⟨by rfl, ?_⟩) ?_
        rotate_left
        · intro w; go_simp <;> with_reducible rfl
        dsimp only [List.set_cons_zero, List.set_cons_succ]
        refine wpAny_done (by kernel_rfl) ?_ _
        go_wp2
        refine bodyPost_ret (v := .tuple #[.bool h5, .bool false]) (by simp [results, Try.results32, go_sem]) rfl ?_
        obtain ⟨_, _, hR0⟩ := Hx.out
        refine Or.inr ⟨h5, part its subs i ++ q, rfl, ?_, ?_⟩
        · rw [Hall.out.2.2.2.1, hR0]
          exact (List.prefix_append_right_inj _).2 (hq5.trans (List.prefix_append _ _))
        · rw [← List.append_assoc]; exact hJx5
    · have hlt' : ¬ (i : Int) < (n : Int) := by omega
      have e : i = n := by omega
      subst e
      have hin := Hall.out.1
      obtain ⟨u, hu⟩ : ∃ u, subs[i]? = some u := ⟨subs[i]'(by have h2 := Hall.out.2.2.1; omega), by simp⟩
      have hmi : (m : Int) - 1 = (i : Int) := by have := Hall.out.2.2.2.2.2.2.2.2; omega
      have hwm : IntKind.i64.wrap ((m : Int) - 1) = (i : Int) := by rw [IntKind.wrap_i64]; have h1 := Hall.out.2.2.2.2.2.2.1; have h2 := Hall.out.2.2.2.2.2.1; omega
      have hiz : ∀ w', (Instr.indexAt 104 (.slice (some ⟨gc, 0, none⟩) m cc) (.int .i64 (i : Int))).run Try.prog w' = .ok (.pointer (some ⟨gc, i, none⟩)) w' :=
        fun w' => by have := run_ix (P := Try.prog) 104 1 gc m cc i (i : Int) rfl (by have := Hall.out.2.2.2.2.2.2.2.2; omega) Try.underlying104 (fun _ => by kernel_rfl) w'; rw [Nat.mul_one] at this; exact this
      have x0 : wr.cell? ⟨gc, i, none⟩ = some (.pointer (some ⟨u.p, 0, none⟩)) := ptr_at hrowc (by unfold kids; rw [List.getElem?_map, hu]; rfl)
      have hlast : weave its subs = part its subs i ++ u.xs := by
        rw [hin]
        exact part_last Hall.out.2.2.1 (by rw [← hin]; exact hu)
      have hxs := Hall.out.2.2.2.1
      have HIH := Hrec.out i u wr (pre ++ part its subs i) ht hu hkr hJr (by
        have h1 := Hall.out.2.2.2.2.1
        rw [hxs, hlast] at h1
        simp only [List.length_append] at h1 ⊢
        omega) (by rw [hxs, hlast]; exact List.sublist_append_right _ _)
      unfold ptr startV stopV IterLeft at HIH
      have Hx := hide hlast
      clear hu hrowc hlast hxs hlt hkx hin hmi
      go_wp2
      refine startZ (fun w' => w'.cell? ⟨s.p, 1, none⟩ = some (.slice (some ⟨gc, 0, none⟩) m cc) ∧ w'.cell? ⟨gc, i, none⟩ = some (.pointer (some ⟨u.p, 0, none⟩)) ∧ w'.cell? ⟨b, 0, none⟩ = some (.string ⟨#[]⟩) ∧ w'.cell? ⟨b, 1, none⟩ = some (.int .u64 0) ∧ w'.cell? ⟨b, 2, none⟩ = some (.slice none 0 0) ∧ w'.cell? ⟨b, 3, none⟩ = some (.bool true) ∧ w'.cell? ⟨b + 1, 0, none⟩ = some (.string ⟨#[]⟩) ∧ w'.cell? ⟨b + 1, 1, none⟩ = some (.int .u64 0) ∧ w'.cell? ⟨b + 1, 2, none⟩ = some (.slice none 0 0) ∧ w'.cell? ⟨b + 1, 3, none⟩ = some (.bool false)) 18 (by kernel_rfl) ?_ (fun hHeld => ?_)
      · exact ⟨c1, x0, b0, b1, b2, b3, z0, z1, z2, z3⟩
      refine takeZ (i := 0) (v := ?_) rfl rfl (by kernel_rfl) (by kernel_rfl) (by kernel_rfl) (by kernel_rfl) (fun _ _ _ h => h) (by assumption) (Or.inl ⟨by rfl, ?_⟩) ?_
      rotate_left
      · intro w hSw; (try dsimp only at hSw); go_simp <;> with_reducible rfl
      dsimp only [List.set_cons_zero, List.set_cons_succ]
      refine takeZ (i := 1) (v := ?_) rfl rfl (by kernel_rfl) (by kernel_rfl) (by kernel_rfl) (by kernel_rfl) (fun _ _ _ h => h) (by assumption) (Or.inl ⟨by rfl, ?_⟩) ?_
      rotate_left
      · intro w hSw; (try dsimp only at hSw); go_simp <;> with_reducible rfl
      dsimp only [List.set_cons_zero, List.set_cons_succ]
      refine takeZ (i := 2) (v := ?_) rfl rfl (by kernel_rfl) (by kernel_rfl) (by kernel_rfl) (by kernel_rfl) (fun _ _ _ h => h) (by assumption) (Or.inl ⟨by rfl, ?_⟩) ?_
      rotate_left
      · intro w hSw; (try dsimp only at hSw); go_simp <;> with_reducible rfl
      dsimp only [List.set_cons_zero, List.set_cons_succ]
      refine takeZ (i := 3) (v := ?_) rfl rfl (by kernel_rfl) (by kernel_rfl) (by kernel_rfl) (by kernel_rfl) (fun _ _ _ h => h) (by assumption) (Or.inl ⟨by rfl, ?_⟩) ?_
      rotate_left
      · intro w hSw; (try dsimp only at hSw); go_simp <;> with_reducible rfl
      dsimp only [List.set_cons_zero, List.set_cons_succ]
      refine takeZ (i := 4) (v := ?_) rfl rfl (by kernel_rfl) (by kernel_rfl) (by kernel_rfl) (by kernel_rfl) (fun _ _ _ h => h) (by assumption) (Or.inl ⟨by rfl, ?_⟩) ?_
      rotate_left
      · intro w hSw; (try dsimp only at hSw); go_simp <;> with_reducible rfl
      dsimp only [List.set_cons_zero, List.set_cons_succ]
      refine takeZ (i := 5) (v := ?_) rfl rfl (by kernel_rfl) (by kernel_rfl) (by kernel_rfl) (by kernel_rfl) (fun _ _ _ h => h) (by assumption) (Or.inl ⟨by rfl, ?_⟩) ?_
      rotate_left
      · intro w hSw; (try dsimp only at hSw); go_simp <;> with_reducible rfl
      dsimp only [List.set_cons_zero, List.set_cons_succ]
      refine takeZ (i := 6) (v := ?_) rfl rfl (by kernel_rfl) (by kernel_rfl) (by kernel_rfl) (by kernel_rfl) (fun _ _ _ h => h) (by assumption) (Or.inl ⟨by rfl, ?_⟩) ?_
      rotate_left
      · intro w hSw; (try dsimp only at hSw); go_simp <;> with_reducible rfl
      dsimp only [List.set_cons_zero, List.set_cons_succ]
      refine takeZ (i := 7) (v := ?_) rfl rfl (by kernel_rfl) (by kernel_rfl) (by kernel_rfl) (by kernel_rfl) (fun _ _ _ h => h) (by assumption) (Or.inl ⟨by rfl, ?_⟩) ?_
      rotate_left
      · intro w hSw; (try dsimp only at hSw); go_simp <;> with_reducible rfl
      dsimp only [List.set_cons_zero, List.set_cons_succ]
      refine takeZ (i := 8) (v := ?_) rfl rfl (by kernel_rfl) (by kernel_rfl) (by kernel_rfl) (by kernel_rfl) (fun _ _ _ h => h) (by assumption) (Or.inl ⟨by rfl, ?_⟩) ?_
      rotate_left
      · intro w hSw; (try dsimp only at hSw); go_simp <;> with_reducible rfl
      dsimp only [List.set_cons_zero, List.set_cons_succ]
      refine takeZ (i := 9) (v := ?_) rfl rfl (by kernel_rfl) (by kernel_rfl) (by kernel_rfl) (by kernel_rfl) (fun _ _ _ h => h) (by assumption) (Or.inl ⟨by rfl, ?_⟩) ?_
      rotate_left
      · intro w hSw; (try dsimp only at hSw); go_simp <;> with_reducible rfl
      dsimp only [List.set_cons_zero, List.set_cons_succ]
      refine takeZ (i := 10) (v := ?_) rfl rfl (by kernel_rfl) (by kernel_rfl) (by kernel_rfl) (by kernel_rfl) (fun _ _ _ h => h) (by assumption) (Or.inl ⟨by rfl, ?_⟩) ?_
      rotate_left
      · intro w hSw; (try dsimp only at hSw); go_simp <;> with_reducible rfl
      dsimp only [List.set_cons_zero, List.set_cons_succ]
      refine takeZ (i := 11) (v := ?_) rfl rfl (by kernel_rfl) (by kernel_rfl) (by kernel_rfl) (by kernel_rfl) (fun _ _ _ h => h) (by assumption) (Or.inl ⟨by rfl, ?_⟩) ?_
      rotate_left
      · intro w hSw; (try dsimp only at hSw); go_simp <;> with_reducible rfl
      dsimp only [List.set_cons_zero, List.set_cons_succ]
      refine takeZ (i := 12) (v := ?_) rfl rfl (by kernel_rfl) (by kernel_rfl) (by kernel_rfl) (by kernel_rfl) (fun _ _ _ h => h) (by assumption) (Or.inl ⟨by rfl, ?_⟩) ?_
      rotate_left
      · intro w hSw; (try dsimp only at hSw); go_simp <;> with_reducible rfl
      dsimp only [List.set_cons_zero, List.set_cons_succ]
      refine takeZ (i := 13) (v := ?_) rfl rfl (by kernel_rfl) (by kernel_rfl) (by kernel_rfl) (by kernel_rfl) (fun _ _ _ h => h) (by assumption) (Or.inl ⟨by rfl, ?_⟩) ?_
      rotate_left
      · intro w hSw; (try dsimp only at hSw); go_simp <;> with_reducible rfl
      dsimp only [List.set_cons_zero, List.set_cons_succ]
      refine takeZ (i := 14) (v := ?_) rfl rfl (by kernel_rfl) (by kernel_rfl) (by kernel_rfl) (by kernel_rfl) (fun _ _ _ h => h) (by assumption) (Or.inl ⟨by rfl, ?_⟩) ?_
      rotate_left
      · intro w hSw; (try dsimp only at hSw); go_simp <;> with_reducible rfl
      dsimp only [List.set_cons_zero, List.set_cons_succ]
      refine takeZ (i := 15) (v := ?_) rfl rfl (by kernel_rfl) (by kernel_rfl) (by kernel_rfl) (by kernel_rfl) (fun _ _ _ h => h) (by assumption) (Or.inl ⟨by rfl, ?_⟩) ?_
      rotate_left
      · intro w hSw; (try dsimp only at hSw); go_simp <;> with_reducible rfl
      dsimp only [List.set_cons_zero, List.set_cons_succ]
      refine takeZ (i := 16) (v := ?_) rfl rfl (by kernel_rfl) (by kernel_rfl) (by kernel_rfl) (by kernel_rfl) (fun _ _ _ h => h) (by assumption) (Or.inl ⟨by rfl, ?_⟩) ?_
      rotate_left
      · intro w hSw; (try dsimp only at hSw); go_simp <;> with_reducible rfl
      dsimp only [List.set_cons_zero, List.set_cons_succ]
      refine takeZ (i := 17) (v := ?_) rfl rfl (by kernel_rfl) (by kernel_rfl) (by kernel_rfl) (by kernel_rfl) (fun _ _ _ h => h) (by assumption) (Or.inl ⟨by rfl, ?_⟩) ?_
      rotate_left
      · intro w hSw; (try dsimp only at hSw); go_simp <;> with_reducible rfl
      dsimp only [List.set_cons_zero, List.set_cons_succ]
      refine callZ (by kernel_rfl) (by kernel_rfl) rfl (fun K hK => ?_)
      go_simp
      go_at_call 32
      refine HIH.mono ?_
      clear HIH
      rintro e w5 (⟨h5, rfl, hJ5, hk5⟩ | ⟨h5, q, rfl, hq5, hJx5⟩)
      · -- the last child has been walked whole
        refine hK.out _ _ ?_
        clear hK K
        try simp only [Act.put, List.setIfInBounds_toArray, List.set_cons_zero, List.set_cons_succ]
        refine takeW (i := 19) (v := ?_) rfl rfl (by kernel_rfl) (by kernel_rfl) (by kernel_rfl) (fun _ _ _ h => h) (Or.inl ⟨by rfl, ?_⟩) ?_
        rotate_left
        · intro w; go_simp <;> with_reducible rfl
        dsimp only [List.set_cons_zero, List.set_cons_succ]
        refine takeW (i := 20) (v := ?_) rfl rfl (by kernel_rfl) (by kernel_rfl) (by kernel_rfl) (fun _ _ _ h => h) (Or.inl ⟨by rfl, ?_⟩) ?_
        rotate_left
        · intro w; go_simp <;> with_reducible rfl
        dsimp only [List.set_cons_zero, List.set_cons_succ]
        refine takeW (i := 21) (v := ?_) rfl rfl (by kernel_rfl) (by kernel_rfl) (by kernel_rfl) (fun _ _ _ h => h) (Or.inl ⟨by rfl, ?_⟩) ?_
        rotate_left
        · intro w; go_simp <;> with_reducible rfl
        dsimp only [List.set_cons_zero, List.set_cons_succ]
        refine takeW (i := 22) (v := ?_) rfl rfl (by kernel_rfl) (by kernel_rfl) (by kernel_rfl) (fun _ _ _ h => h) (Or.inl ⟨by rfl, ?_⟩) ?_
        rotate_left
        · intro w; go_simp <;> with_reducible rfl
        dsimp only [List.set_cons_zero, List.set_cons_succ]
        refine takeW (i := 23) (v := ?_) rfl rfl (by kernel_rfl) (by kernel_rfl) (by kernel_rfl) (fun _ _ _ h => h) (Or.inl ⟨by rfl, ?_⟩) ?_
        rotate_left
        · intro w; go_simp <;> with_reducible rfl
        dsimp only [List.set_cons_zero, List.set_cons_succ]
        refine wpAny_done (by kernel_rfl) ?_ _
        have hk6 := hkr.trans (Keep.trans (b := wr.drew) ⟨Nat.le_refl _, fun _ _ _ _ h _ _ => h, fun _ h => Or.inl h⟩ hk5)
        go_wp2
        refine bodyPost_ret (v := .tuple #[.bool h5, .bool true]) (by simp [results, Try.results32, go_sem]) rfl ?_
        refine Or.inl ⟨h5, rfl, ?_, hkW.trans hk6⟩
        rw [Hall.out.2.2.2.1, Hx.out, ← List.append_assoc]
        exact hJ5
      · -- it was cut short
        refine hK.out _ _ ?_
        clear hK K
        try simp only [Act.put, List.setIfInBounds_toArray, List.set_cons_zero, List.set_cons_succ]
        refine takeW (i := 19) (v := ?_) rfl rfl (by kernel_rfl) (by kernel_rfl) (by kernel_rfl) (fun _ _ _ h => h) (Or.inl ⟨by rfl, ?_⟩) ?_
        rotate_left
        · intro w; go_simp <;> with_reducible rfl
        dsimp only [List.set_cons_zero, List.set_cons_succ]
        refine takeW (i := 20) (v := ?_) rfl rfl (by kernel_rfl) (by kernel_rfl) (by kernel_rfl) (fun _ _ _ h => h) (Or.inl ⟨by rfl, ?_⟩) ?_
        rotate_left
        · intro w; go_simp <;> with_reducible rfl
        dsimp only [List.set_cons_zero, List.set_cons_succ]
        refine takeW (i := 21) (v := ?_) rfl rfl (by kernel_rfl) (by kernel_rfl) (by kernel_rfl) (fun _ _ _ h => h) (Or.inl ⟨by rfl, ?_⟩) ?_
        rotate_left
        · intro w; go_simp <;> with_reducible rfl
        dsimp only [List.set_cons_zero, List.set_cons_succ]
        refine takeW (i := 22) (v := ?_) rfl rfl (by kernel_rfl) (by kernel_rfl) (by kernel_rfl) (fun _ _ _ h => h) (Or.inl ⟨by rfl, ?_⟩) ?_
        rotate_left
        · intro w; go_simp <;> with_reducible rfl
        dsimp only [List.set_cons_zero, List.set_cons_succ]
        refine takeW (i := 23) (v := ?_) rfl rfl (by kernel_rfl) (by kernel_rfl) (by kernel_rfl) (fun _ _ _ h => h) (Or.inl ⟨by rfl, ?_⟩) ?_
        rotate_left
        · intro w; go_simp <;> with_reducible rfl
        dsimp only [List.set_cons_zero, List.set_cons_succ]
        refine wpAny_done (by kernel_rfl) ?_ _
        go_wp2
        refine bodyPost_ret (v := .tuple #[.bool h5, .bool false]) (by simp [results, Try.results32, go_sem]) rfl ?_
        refine Or.inr ⟨h5, part its subs i ++ q, rfl, ?_, ?_⟩
        · rw [Hall.out.2.2.2.1, Hx.out]
          exact (List.prefix_append_right_inj _).2 hq5
        · rw [← List.append_assoc]; exact hJx5

end Go.Proofs.Qxb6603483a
