/-
  split, said of trees; maybeSplitChild.
-/
import Derived.Test.Qxb6603483aSplit
import Derived.Test.Qxb6603483aMut
import Derived.Test.Qxb6603483aIns3
namespace Go.Proofs.Qxb6603483a
open Go.RowKit
set_option linter.unusedSimpArgs false
attribute [local go_sem ↓] Go.wp_at_zero Go.wp_at_succ

theorem weave_split : ∀ (A : List Ent) (S : List Sub) (e : Ent) (B : List Ent) (T : List Sub), S.length = A.length + 1 → weave (A ++ e :: B) (S ++ T) = weave A S ++ e :: weave B T
  | [], [s], e, B, T, _ => by simp [weave]
  | a :: A, s :: S, e, B, T, h => by
    show weave (a :: (A ++ e :: B)) (s :: (S ++ T)) = _
    rw [weave, weave, weave_split A S e B T (by simpa using h)]
    simp

/-- Subtrees beside a step stay. -/
theorem kids_keep {w w' : World} {c h : Nat} {subs : List Sub} {A : Nat → Nat} (H : ∀ t ∈ subs, IsT w c h t ∧ 31 ≤ t.n ∧ t.n ≤ 63) (hc : Chg A w w') (hd : ∀ k, sumF subs k + A k ≤ 1) : ∀ t ∈ subs, IsT w' c h t ∧ 31 ≤ t.n ∧ t.n ≤ 63 :=
  fun t ht => ⟨(H t ht).1.keep hc (fun k => by have := hd k; have := sumF_mem ht k; omega), (H t ht).2⟩
theorem kids_lt {w : World} {c h : Nat} {subs : List Sub} (H : ∀ t ∈ subs, IsT w c h t ∧ 31 ≤ t.n ∧ t.n ≤ 63) {k : Nat} (hk : 1 ≤ sumF subs k) : k < w.heap.size := by
  obtain ⟨t, ht, h1⟩ := sumF_pos hk
  exact (H t ht).1.lt h1

theorem splitT {w : World} {c h : Nat} {t : Sub} {G : Nat → Nat} (H : IsT w c h t) (hn : t.n = 63) (hP : Pool w c G) (hd : ∀ k, t.F k + G k ≤ 1) :
    Calls Try.prog 41 #[.pointer (some ⟨t.p, 0, none⟩), .int .i64 31] w fun r w' => ∃ e t1 t2 G', r = .returned (.tuple #[e.v, ptr t2.p]) ∧ t1.p = t.p ∧ IsT w' c h t1 ∧ IsT w' c h t2 ∧ t1.n = 31 ∧ t2.n = 31 ∧ t.xs = t1.xs ++ e :: t2.xs ∧
      Pool w' c G' ∧ Stp (fun k => t.F k + G k) w w' (fun k => t1.F k + t2.F k + G' k) := by
  cases h with
  | zero =>
    obtain ⟨iv, cv, hN, h1, hF⟩ := H
    have hl : t.xs.length = 63 := by omega
    have he : t.xs[31]? = some t.xs[31] := List.getElem?_eq_getElem (by omega)
    refine (split41 (i := 31) hN hP (fun k => by rw [← hF]; exact hd k) he (by omega) (by omega) (Or.inl rfl) (fun v hv => by cases hv)).mono ?_
    rintro r w' ⟨q, iv', cv', iv2, cv2, G', rfl, hN1, hN2, hP', hS⟩
    refine ⟨t.xs[31], ⟨t.p, 31, t.xs.take 31, nodeF t.p iv' cv'⟩, ⟨q, 31, t.xs.drop 32, nodeF q iv2 cv2⟩, G', rfl, rfl, ⟨iv', cv', hN1, by simp [hl], fun _ => rfl⟩, ⟨iv2, cv2, hN2, by simp [hl], fun _ => rfl⟩, rfl, rfl, split_at t.xs 31 (by omega), hP', hS.congr (fun k => by rw [hF]) (fun _ => rfl)⟩
  | succ h =>
    obtain ⟨iv, cv, its, subs, hN, h1, h2, h3, h4, hF, hu⟩ := H
    have hl : its.length = 63 := by omega
    have hsl : subs.length = 64 := by omega
    have he : its[31]? = some its[31] := List.getElem?_eq_getElem (by omega)
    have hd2 : ∀ k, nodeF t.p iv cv k + G k + sumF subs k ≤ 1 := fun k => by have := hd k; rw [hF] at this; omega
    refine (split41 (i := 31) hN hP (fun k => by have := hd2 k; omega) he (by omega) (by omega) (Or.inr (by rw [kids_length]; omega)) (kids_one _)).mono ?_
    rintro r w' ⟨q, iv', cv', iv2, cv2, G', rfl, hN1, hN2, hP', hS⟩
    have h3' := kids_keep h3 hS.chg (fun k => by have := hd2 k; omega)
    have hT := hS.frame (sumF subs) hd2 (fun k hk => kids_lt h3 hk)
    have hu2 := hT.uniq
    have hsum : ∀ k, sumF subs k = sumF (subs.take 32) k + sumF (subs.drop 32) k := fun k => by rw [← sumF_append, List.take_append_drop]
    have e1 : (kids subs).take 32 = kids (subs.take 32) := by simp [kids]
    have e2 : (kids subs).drop 32 = kids (subs.drop 32) := by simp [kids]
    rw [e1] at hN1
    rw [e2] at hN2
    refine ⟨its[31], ⟨t.p, 31, weave (its.take 31) (subs.take 32), fun k => nodeF t.p iv' cv' k + sumF (subs.take 32) k⟩, ⟨q, 31, weave (its.drop 32) (subs.drop 32), fun k => nodeF q iv2 cv2 k + sumF (subs.drop 32) k⟩, G', rfl, rfl,
      ⟨iv', cv', its.take 31, subs.take 32, hN1, by simp [hl], by simp [hl, hsl], fun s hs => h3' s (List.mem_of_mem_take hs), rfl, fun _ => rfl, fun k => by have := hu2 k; have := hsum k; show nodeF t.p iv' cv' k + sumF (subs.take 32) k ≤ 1; omega⟩,
      ⟨iv2, cv2, its.drop 32, subs.drop 32, hN2, by simp [hl], by simp [hl, hsl], fun s hs => h3' s (List.mem_of_mem_drop hs), rfl, fun _ => rfl, fun k => by have := hu2 k; have := hsum k; show nodeF q iv2 cv2 k + sumF (subs.drop 32) k ≤ 1; omega⟩, rfl, rfl, ?_, hP', hT.congr (fun k => by rw [hF]; omega) (fun k => by show nodeF t.p iv' cv' k + nodeF q iv2 cv2 k + G' k + sumF subs k = nodeF t.p iv' cv' k + sumF (subs.take 32) k + (nodeF q iv2 cv2 k + sumF (subs.drop 32) k) + G' k; rw [hsum k]; omega)⟩
    show t.xs = weave (its.take 31) (subs.take 32) ++ its[31] :: weave (its.drop 32) (subs.drop 32)
    rw [h4, ← weave_split _ _ _ _ _ (by simp [hl, hsl]), ← split_at its 31 (by omega), List.take_append_drop]

theorem box_cells {w : World} {b : Nat} {x y z : Value} (h : w.heap[b]? = some (.cells #[x, y, z] 33 (0, 0))) : w.cell? ⟨b, 0, none⟩ = some x ∧ w.cell? ⟨b, 1, none⟩ = some y ∧ w.cell? ⟨b, 2, none⟩ = some z := ⟨cell_blk h 0, cell_blk h 1, cell_blk h 2⟩

theorem kids_put (S : List Sub) (t t1 t2 : Sub) (T : List Sub) (h : t1.p = t.p) : (kids (S ++ t :: T)).take (S.length + 1) ++ ptr t2.p :: (kids (S ++ t :: T)).drop (S.length + 1) = kids (S ++ t1 :: t2 :: T) := by
  have e1 : kids (S ++ t :: T) = (kids S ++ [ptr t.p]) ++ kids T := by simp [kids]
  have e2 : S.length + 1 = (kids S ++ [ptr t.p]).length := by simp [kids]
  rw [e1, e2, List.take_left, List.drop_left]
  simp [kids, h]

set_option maxRecDepth 100000 in
set_option maxHeartbeats 1000000 in
theorem maybeSplit {w : World} {p c h : Nat} {iv cv : Value} {its : List Ent} {S T : List Sub} {t : Sub} {G : Nat → Nat} (hN : NodeAt w p iv cv (ptr c) its (kids (S ++ t :: T))) (hi : S.length ≤ its.length) (hn : its.length ≤ 1000) (hm : (S ++ t :: T).length ≤ 1001)
    (Ht : IsT w c h t) (htn : 31 ≤ t.n ∧ t.n ≤ 63) (hP : Pool w c G) (hd : ∀ k, nodeF p iv cv k + t.F k + G k ≤ 1) :
    Calls Try.prog 51 #[.pointer (some ⟨p, 0, none⟩), .int .i64 (S.length : Nat), .int .i64 63] w fun r w' => (t.n < 63 ∧ r = .returned (.bool false) ∧ w' = w) ∨
      (∃ e t1 t2 iv' cv' G', r = .returned (.bool true) ∧ t1.p = t.p ∧ IsT w' c h t1 ∧ IsT w' c h t2 ∧ t1.n = 31 ∧ t2.n = 31 ∧ t.xs = t1.xs ++ e :: t2.xs ∧ NodeAt w' p iv' cv' (ptr c) (its.take S.length ++ e :: its.drop S.length) (kids (S ++ t1 :: t2 :: T)) ∧
        Pool w' c G' ∧ Stp (fun k => nodeF p iv cv k + t.F k + G k) w w' (fun k => nodeF p iv' cv' k + t1.F k + t2.F k + G' k)) := by
  obtain ⟨i, hiS⟩ : ∃ i, i = S.length := ⟨_, rfl⟩
  have hkat := kids_at S t T
  have hkl := kids_length (S ++ t :: T)
  have hilt : S.length < (S ++ t :: T).length := by simp
  rw [← hiS]
  obtain ⟨m, hml⟩ : ∃ m, m = (kids (S ++ t :: T)).length := ⟨_, rfl⟩
  obtain ⟨gc, cc, hcv⟩ : ∃ gc cc, cv = .slice (some ⟨gc, 0, none⟩) m cc := by
    rcases hN.rc.form with ⟨_, h1⟩ | ⟨gc, cc, h1⟩
    · rw [h1] at hkl; simp at hkl
    · exact ⟨gc, cc, by rw [h1, hml]⟩
  subst hcv
  obtain ⟨spc, hrc⟩ := hN.rc.blkOf
  rw [← hiS] at hkat
  have t0 : w.cell? ⟨gc, i, none⟩ = some (.pointer (some ⟨t.p, 0, none⟩)) := ptr_at hrc hkat
  have c1 : w.cell? ⟨p, 1, none⟩ = some (.slice (some ⟨gc, 0, none⟩) m cc) := cell_blk hN.blk 1
  obtain ⟨tiv, tcv, tits, tcps, hNt, htl, _, _, htF⟩ := Ht.node
  obtain ⟨ta, tc, htiv⟩ := hNt.iform
  subst htiv
  rw [← htl] at hNt
  have d0 : w.cell? ⟨t.p, 0, none⟩ = some (.slice ta t.n tc) := cell_blk hNt.blk 0
  have d2 : w.cell? ⟨t.p, 2, none⟩ = some (.pointer (some ⟨c, 0, none⟩)) := cell_blk hNt.blk 2
  have him : i < m := by omega
  have hix : ∀ w', (Instr.indexAt 104 (.slice (some ⟨gc, 0, none⟩) m cc) (.int .i64 (i : Int))).run Try.prog w' = .ok (.pointer (some ⟨gc, i, none⟩)) w' :=
    fun w' => by have := run_ix (P := Try.prog) 104 1 gc m cc i (i : Int) rfl him Try.underlying104 (fun _ => by kernel_rfl) w'; rw [Nat.mul_one] at this; exact this
  have Hi := hide hi
  have Hn := hide hn
  have HiS := hide hiS
  have Hm := hide hm
  have Hml := hide hml
  have Hkl := hide hkl
  have Hkat := hide hkat
  have i1 : (0 : Int) ≤ (i : Int) := Int.natCast_nonneg _
  have i2 : (i : Int) ≤ 1000 := by omega
  have hw1 : IntKind.i64.wrap ((i : Int) + 1) = (i : Int) + 1 := by rw [IntKind.wrap_i64]; omega
  clear hi hn hiS hm hml hkl hkat hilt hrc htl hNt him
  by_cases hlt : t.n < 63
  · have hlt' : (t.n : Int) < 63 := by omega
    go_enter Try.func51, Try.ntmps51
    go_wp2
    go_ret
    exact Or.inl ⟨hlt, rfl, rfl⟩
  · have hlt' : ¬ (t.n : Int) < 63 := by omega
    have h63 : t.n = 63 := by omega
    have H63 := hide h63
    clear h63
    go_enter Try.func51, Try.ntmps51
    go_wp2_with (fail)
    refine (mutableChild (q := t.p) hN Hkat.out d2).mono ?_
    rintro _ w1 ⟨rfl, hN1, hS1⟩
    unfold ptr
    have Ht1 := Ht.keep hS1.chg (fun k => by have := hd k; omega)
    have hP1 := hP.keep hS1.chg (fun k => by have := hd k; omega)
    have hT1 : Stp (fun k => nodeF p iv (.slice (some ⟨gc, 0, none⟩) m cc) k + t.F k + G k) w w1 (fun k => nodeF p iv (.slice (some ⟨gc, 0, none⟩) m cc) k + t.F k + G k) :=
      (hS1.frame (fun k => t.F k + G k) (fun k => by have := hd k; omega) (fun k hk => by
        by_cases h1 : 1 ≤ t.F k
        · exact Ht.lt h1
        · exact hP.lt (by omega))).congr (fun k => by omega) (fun k => by omega)
    clear c1 t0 d0 d2 hix hS1 hN hP Ht
    go_wp2_with (fail)
    refine (splitT Ht1 H63.out hP1 (fun k => by have := hd k; omega)).mono ?_
    rintro _ w2 ⟨e, t1, t2, G2, rfl, hp1, h1, h2, hn1, hn2, hxs, hP2, hS2⟩
    unfold Ent.v ptr
    have hN2 := hN1.keep hS2.chg (fun k => by have := hd k; omega)
    have hT2 := hT1.trans ((hS2.frame (nodeF p iv (.slice (some ⟨gc, 0, none⟩) m cc)) (fun k => by have := hd k; omega) (fun k hk => hN1.lt hk)).congr (B' := fun k => nodeF p iv (.slice (some ⟨gc, 0, none⟩) m cc) k + t1.F k + t2.F k + G2 k) (fun k => by omega) (fun k => by omega))
    clear hT1 hS2 hP1 hN1 Ht1
    have Hp1 := hide hp1
    have Hn1 := hide hn1
    have Hn2 := hide hn2
    have Hxs := hide hxs
    clear hp1 hn1 hn2 hxs
    go_wp2
    obtain ⟨w3, hw3, hbox, hch⟩ : ∃ w3, w3 = w2.alloc (Obj.cells #[Value.string e.key, Value.int IntKind.u64 e.ver, Value.slice e.va e.vn e.vc] 33) ∧
        w3.heap[w2.heap.size]? = some (.cells #[Value.string e.key, Value.int IntKind.u64 e.ver, Value.slice e.va e.vn e.vc] 33 (0, 0)) ∧ Chg0 w2 w3 := ⟨_, rfl, (MapKept.heap_alloc w2 _).1, (Chg.refl _ w2).alloc _⟩
    rw [← hw3]
    have hN3 := hch.node hN2 (fun _ _ => rfl)
    have hb0 : nodeF p iv (.slice (some ⟨gc, 0, none⟩) m cc) w2.heap.size = 0 := by
      have : ¬ 1 ≤ nodeF p iv (.slice (some ⟨gc, 0, none⟩) m cc) w2.heap.size := fun h => by have := hN2.lt h; omega
      omega
    have h13 := h1.keep hch (fun k => by have := h1.uniq k; omega)
    have h23 := h2.keep hch (fun k => by have := h2.uniq k; omega)
    have hP3 := hP2.keep hch (fun k => by have := hP2.uniq k; omega)
    have hu2 := hT2.uniq
    have hT3 := hT2.post hch
    clear hw3 hN2 h1 h2 hP2 hch hT2
    generalize w2.heap.size = b at *
    go_region_held3 (fun w' => w'.cell? ⟨b, 0, none⟩ = some (.string e.key) ∧ w'.cell? ⟨b, 1, none⟩ = some (.int .u64 e.ver) ∧ w'.cell? ⟨b, 2, none⟩ = some (.slice e.va e.vn e.vc))
      (first | exact box_cells hbox | exact box_cells (hS4.blk hbox hb0))
      ((go_at_call 50; refine (insertAt3 hN3.drew i (by rw [HiS.out]; exact Hi.out) (by have := Hn.out; omega) e).mono ?_; rintro _ w4 ⟨rfl, iv4, hN4, hS4⟩))
    have hS4' := hS4.predrew
    have hd3 : ∀ k, nodeF p iv (.slice (some ⟨gc, 0, none⟩) m cc) k + t1.F k + t2.F k + G2 k ≤ 1 := hu2
    have h14 := h13.keep hS4'.chg (fun k => by have := hd3 k; omega)
    have h24 := h23.keep hS4'.chg (fun k => by have := hd3 k; omega)
    have hP4 := hP3.keep hS4'.chg (fun k => by have := hd3 k; omega)
    have hT4 := hT3.trans ((hS4'.frame (fun k => t1.F k + t2.F k + G2 k) (fun k => by have := hd3 k; omega) (fun k hk => hT3.lt k (by omega))).congr (B' := fun k => nodeF p iv4 (.slice (some ⟨gc, 0, none⟩) m cc) k + t1.F k + t2.F k + G2 k) (fun k => by omega) (fun k => by omega))
    have hu4 := hT4.uniq
    clear hS4 hS4' hT3 h13 h23 hP3 hN3 hd3 hu2
    go_wp2_with (fail)
    refine (insertAt1 hN4 (kids_one _) (i + 1) (by rw [Hkl.out, List.length_append, HiS.out]; simp) (by rw [Hkl.out]; have := Hm.out; omega) t2.p).mono ?_
    rintro _ w5 ⟨rfl, cv5, hN5, hS5⟩
    have h15 := h14.keep hS5.chg (fun k => by have := hu4 k; omega)
    have h25 := h24.keep hS5.chg (fun k => by have := hu4 k; omega)
    have hP5 := hP4.keep hS5.chg (fun k => by have := hu4 k; omega)
    have hT5 := hT4.trans ((hS5.frame (fun k => t1.F k + t2.F k + G2 k) (fun k => by have := hu4 k; omega) (fun k hk => hT4.lt k (by omega))).congr (B' := fun k => nodeF p iv4 cv5 k + t1.F k + t2.F k + G2 k) (fun k => by omega) (fun k => by omega))
    rw [HiS.out, kids_put S t t1 t2 T Hp1.out] at hN5
    go_wp2
    go_ret
    rw [HiS.out]
    exact Or.inr ⟨e, t1, t2, iv4, cv5, G2, rfl, Hp1.out, h15, h25, Hn1.out, Hn2.out, Hxs.out, hN5, hP5, hT5⟩

end Go.Proofs.Qxb6603483a
