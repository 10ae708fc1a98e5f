/-
  remove at any height: by key, and of the last.
-/
import Derived.Test.Qxb6603483aGrowR
import Derived.Test.Qxb6603483aGrowM
import Derived.Test.Qxb6603483aRemMiss
import Derived.Test.Qxb6603483aRemHit
import Derived.Test.Qxb6603483aRemLeaf
import Derived.Test.Qxb6603483aRemSmall
namespace Go.Proofs.Qxb6603483a
open Go.RowKit
set_option linter.unusedSimpArgs false

theorem RemLeft.mono {w w' : World} {c h p lo hi lo' hi' : Nat} {F0 F1 : Nat → Nat} {P P' : List Ent → Ent → Prop} {r : Ending} (H : RemLeft w w' c h p lo hi F0 P r) (h1 : lo' ≤ lo) (h2 : hi ≤ hi') (hF : ∀ k, F0 k = F1 k) (hP : ∀ xs out, P xs out → P' xs out) : RemLeft w w' c h p lo' hi' F1 P' r := by
  obtain ⟨out, b, s', G', e1, e2, e3, e4, e5, e6, e7, e8⟩ := H
  exact ⟨out, b, s', G', e1, e2, e3, by omega, by omega, hP _ _ e6, e7, e8.congr hF (fun _ => rfl)⟩

/-- The place one to the left. -/
theorem Mid.unshift {w : World} {c h p : Nat} {iv cv : Value} {A B : List Ent} {e : Ent} {S : List Sub} {t1 t2 : Sub} {T : List Sub} {G : Nat → Nat} (M : Mid w c h p iv cv (A ++ [e]) B (S ++ [t1]) t2 T G) : Mid w c h p iv cv A (e :: B) S t1 (t2 :: T) G := by
  have h1 : (A ++ [e]) ++ B = A ++ e :: B := by simp
  have h2 : (S ++ [t1]) ++ t2 :: T = S ++ t1 :: t2 :: T := by simp
  exact ⟨by have := M.sl; simp at this; omega, by have := M.tl; simp; omega, by rw [← h1, ← h2]; exact M.node, by rw [← h2]; exact M.kid, M.pool, by rw [← h2]; exact M.uniq⟩

theorem last_two {A : List Ent} {S : List Sub} (hs : S.length = A.length) (h : A ≠ []) : ∃ A0 a S0 l, A = A0 ++ [a] ∧ S = S0 ++ [l] ∧ S0.length = A0.length := by
  rcases List.eq_nil_or_concat A with e | ⟨A0, a, e⟩
  · exact absurd e h
  · rcases List.eq_nil_or_concat S with e' | ⟨S0, l, e'⟩
    · rw [e, e'] at hs; simp at hs
    · rw [List.concat_eq_append] at e e'
      refine ⟨A0, a, S0, l, e, e', ?_⟩
      rw [e, e'] at hs
      simpa using hs

theorem remM_leaf : RemM 0 := fun w c s G e H hP hd hn hb => by
  obtain ⟨iv, cv, hN, h1, hF⟩ := H
  rcases List.eq_nil_or_concat s.xs with e' | ⟨xs, x, e'⟩
  · rw [e'] at h1; simp at h1; omega
  · rw [List.concat_eq_append] at e'
    rw [e'] at hN h1
    refine (rem_leaf_max hN (by simp at h1; omega)).mono ?_
    rintro r w' ⟨rfl, iv', hN', hS'⟩
    have hS := (hS'.frame G (fun k => by rw [← hF]; exact hd k) (fun k hk => hP.lt hk)).congr (A' := fun k => s.F k + G k) (B' := fun k => nodeF s.p iv' cv k + G k) (fun k => by rw [hF]) (fun _ => rfl)
    exact ⟨x, true, ⟨s.p, xs.length, xs, nodeF s.p iv' cv⟩, G, rfl, rfl, ⟨iv', cv, hN', rfl, fun _ => rfl⟩, by simp at h1; show s.n - 1 ≤ xs.length; omega, by simp at h1; show xs.length ≤ s.n; omega, e', hP.keep hS'.chg (fun k => by have := hd k; rw [hF] at this; omega), hS⟩

theorem remM_step {h : Nat} (IH : RemM h) : RemM (h + 1) := fun w c s G e H hP hd hn hb => by
  obtain ⟨iv, cv, its, h1, _, hmid⟩ := H.mid hP hd
  obtain ⟨S, t, T, M, hxs, hF⟩ := hmid its [] (by simp)
  have hT : T = [] := List.eq_nil_of_length_eq_zero (by rw [M.tl]; rfl)
  subst hT
  rw [List.append_nil] at hxs
  have hits : its.length ≤ 1000 := by omega
  have hF' : ∀ k, midF s.p iv cv S t [] G k = s.F k + G k := fun k => (hF k).symm
  by_cases ht : 32 ≤ t.n
  · refine (rem_max_big IH M ht hits).mono ?_
    intro r w' hr
    exact hr.mono (by omega) (by omega) hF' (fun xs out hx => by rw [← hxs, ← hx]; simp)
  · refine (rem_small_max (lo := its.length - 1) (hi := its.length) (P := fun xs out => s.xs = xs ++ [out]) M (by omega) hits ?_).mono ?_
    rotate_left
    · intro r w' hr
      exact hr.mono (by omega) (by omega) hF' (fun xs out hx => hx)
    · intro w1 M1
      obtain ⟨A0, a, S0, l, hA, hS, hl0⟩ := last_two M.sl (fun h0 => by rw [h0] at h1; simp at h1; omega)
      subst hA
      subst hS
      have M2 := M1.unshift
      have e1 : (S0 ++ [l]).length = S0.length + 1 := by simp
      have e2 : (A0 ++ [a]) = A0 ++ a :: [] := rfl
      have e3 : (S0 ++ [l]) ++ [t] = S0 ++ l :: t :: [] := by simp
      have eF : ∀ k, midF s.p iv cv S0 l [t] G k = midF s.p iv cv (S0 ++ [l]) t [] G k := fun k => (midF_shift s.p iv cv S0 l t [] G k).symm
      rw [e1]
      by_cases hl : 32 ≤ l.n
      · refine (grow_left (P := fun xs out => s.xs = xs ++ [out]) M2 hl (by omega) hits ?_).mono ?_
        · intro w' iv' cv' x l' t' M' ht' hw' _
          refine (rem_max_big IH M'.shift ht' (by simp at hits ⊢; omega)).mono ?_
          intro r w'' hr
          refine hr.mono (by simp) (by simp) (fun k => midF_shift s.p iv' cv' S0 l' t' [] G k) (fun xs out hx => ?_)
          rw [← hx, ← hxs, e3, List.append_nil, List.append_assoc]
          exact hw'.symm
        · intro r w' hr
          exact hr.mono (by simp) (by simp) eF (fun _ _ hx => hx)
      · have hg := grow_merge (P := fun xs out => s.xs = xs ++ [out]) (typ := 2) (e := e) (i := S0.length + 1) M2 (by omega) (by omega) (Or.inr ⟨rfl, rfl⟩) hits (fun w' iv' cv' l' G' M' ht' hw' _ => by
          rw [List.append_nil] at *
          refine (rem_max_big IH M' ht' (by simp at hits ⊢; omega)).mono ?_
          intro r w'' hr
          refine hr.mono (by simp) (by simp) (fun _ => rfl) (fun xs out hx => ?_)
          rw [← hx, ← hxs, e3, List.append_nil]
          exact hw'.symm)
        refine hg.mono ?_
        intro r w' hr
        exact hr.mono (by simp) (by simp) eF (fun _ _ hx => hx)

theorem remM_all : ∀ h, RemM h
  | 0 => remM_leaf
  | h + 1 => remM_step (remM_all h)

/-- By key, the child at the place being big. -/
theorem rem_key_big {h : Nat} (IH : RemK h) {w : World} {c p : Nat} {iv cv : Value} {A B : List Ent} {S : List Sub} {t : Sub} {T : List Sub} {G : Nat → Nat} {e : Ent} (M : Mid w c h p iv cv A B S t T G) (ht : 32 ≤ t.n) (hn : (A ++ B).length ≤ 1000)
    (hs : Asc (weave (A ++ B) (S ++ t :: T))) (hp : Pos e.key A B) :
    Calls Try.prog 44 #[.pointer (some ⟨p, 0, none⟩), e.v, .int .i64 31, .int .i64 0] w fun r w' => RemLeft w w' c (h + 1) p (A ++ B).length (A ++ B).length (midF p iv cv S t T G) (fun xs _ => xs = del e.key (weave (A ++ B) (S ++ t :: T))) r := by
  have hsi : Asc (A ++ B) := hs.sub (sub_weave _ _)
  have hsB := (List.pairwise_append.1 hsi).2.1
  cases B with
  | nil => exact rem_miss_big IH M ht hn hs hp.1 (fun b hb => by cases hb)
  | cons b B =>
    by_cases hk : b.key = e.key
    · exact rem_hit_big (remM_all h) M ht hn hs hk
    · have hb0 : klt e.key b.key = true := by
        cases h1 : klt e.key b.key with
        | true => rfl
        | false => exact absurd (klt_total (hp.2 b List.mem_cons_self) h1) hk
      refine rem_miss_big IH M ht hn hs hp.1 (fun x hx => ?_)
      rcases List.mem_cons.1 hx with rfl | hx
      · exact hb0
      · exact klt_trans hb0 ((List.pairwise_cons.1 hsB).1 x hx)

theorem remK_leaf : RemK 0 := fun w c s G e H hs hP hd hn hb => by
  obtain ⟨iv, cv, hN, h1, hF⟩ := H
  obtain ⟨f, hcow, _⟩ := hP.cow
  rcases hit_or_miss hs e with ⟨k, hk⟩ | ⟨k, hk⟩
  · obtain ⟨A, x, B, hx, hkey, hkl⟩ := hk
    have hat : s.xs[k]? = some x := by rw [hx, hkl, List.getElem?_append_right (Nat.le_refl _)]; simp
    refine (rem_leaf_hit hN hcow hs (by omega) ⟨A, x, B, hx, hkey, hkl⟩ hat).mono ?_
    rintro r w' ⟨rfl, iv', hN', hS'⟩
    have hS := (hS'.frame G (fun k => by rw [← hF]; exact hd k) (fun k hk => hP.lt hk)).congr (A' := fun k => s.F k + G k) (B' := fun k => nodeF s.p iv' cv k + G k) (fun k => by rw [hF]) (fun _ => rfl)
    have he : s.xs.eraseIdx k = A ++ B := by rw [hx, hkl, List.eraseIdx_append_of_length_le (Nat.le_refl _)]; simp
    have hlen : (A ++ B).length + 1 = s.n := by rw [h1, hx]; simp; omega
    rw [he] at hN'
    have hpos := hit_pos (by rw [← hx]; exact hs) hkey
    have hAsc : Asc (A ++ x :: B) := by rw [← hx]; exact hs
    have hB : ∀ b ∈ B, klt e.key b.key = true := tail_gt (List.pairwise_append.1 hAsc).2.1 (Or.inr hkey)
    refine ⟨x, true, ⟨s.p, (A ++ B).length, A ++ B, nodeF s.p iv' cv⟩, G, rfl, rfl, ⟨iv', cv, hN', rfl, fun _ => rfl⟩, ?_, ?_, ?_, hP.keep hS'.chg (fun k => by have := hd k; rw [hF] at this; omega), hS⟩
    · show s.n - 1 ≤ (A ++ B).length; omega
    · show (A ++ B).length ≤ s.n; omega
    · show A ++ B = del e.key s.xs
      rw [hx, del_over e.key x hkey A B hpos.1 hB]
  · refine (rem_leaf_miss hN hcow hs (by omega) hk).mono ?_
    rintro r w' ⟨rfl, hc⟩
    obtain ⟨A, B, hx, hA, hB, _⟩ := hk
    refine ⟨ent0, false, s, G, rfl, rfl, ⟨iv, cv, hc.node hN (fun _ _ => rfl), h1, hF⟩, by omega, by omega, ?_, hP.same (fun k hk => hc.same k (hP.lt hk) rfl), ?_⟩
    · show s.xs = del e.key s.xs
      rw [hx, del_out e.key A B hA hB]
    · exact (Stp.refl hd (fun k hk => by
        by_cases h2 : 1 ≤ s.F k
        · rw [hF] at h2; exact hN.lt h2
        · exact hP.lt (by omega))).post hc

theorem place {its : List Ent} (hs : Asc its) (e : Ent) : ∃ A B, its = A ++ B ∧ Pos e.key A B ∧ (HitAt its e A.length ∨ MissAt its e A.length) := by
  rcases hit_or_miss hs e with ⟨k, A, x, B, h1, h2, h3⟩ | ⟨k, A, B, h1, h2, h3, h4⟩
  · exact ⟨A, x :: B, h1, hit_pos (by rw [← h1]; exact hs) h2, Or.inl ⟨A, x, B, h1, h2, rfl⟩⟩
  · exact ⟨A, B, h1, miss_pos h2 h3, Or.inr ⟨A, B, h1, h2, h3, rfl⟩⟩

/-- What lies behind an item comes behind it; what lies ahead, ahead. -/
theorem weave_two {A B : List Ent} {x : Ent} {S T : List Sub} {l t : Sub} (hsl : S.length = A.length) (hs : Asc (weave (A ++ x :: B) (S ++ l :: t :: T))) : (∀ y ∈ l.xs, klt y.key x.key = true) ∧ (∀ y ∈ t.xs, klt x.key y.key = true) := by
  rw [weave_at A S (x :: B) l (t :: T) hsl] at hs
  simp only [wtail, weave_cons] at hs
  have h1 := List.pairwise_append.1 (List.pairwise_append.1 hs).2.1
  exact ⟨fun y hy => h1.2.2 y hy x List.mem_cons_self, fun y hy => (List.pairwise_cons.1 h1.2.1).1 y (List.mem_append_left _ hy)⟩

theorem remK_step {h : Nat} (IH : RemK h) : RemK (h + 1) := fun w c s G e H hs hP hd hn hb => by
  obtain ⟨iv, cv, its, h1, hsub, hmid⟩ := H.mid hP hd
  have hn1 : 1 ≤ s.n := hn (by omega)
  have hsi : Asc its := hs.sub hsub
  obtain ⟨A, B, hAB, hpos, hfind⟩ := place hsi e
  subst hAB
  obtain ⟨S, t, T, M, hxs, hF⟩ := hmid A B rfl
  have hF' : ∀ k, midF s.p iv cv S t T G k = s.F k + G k := fun k => (hF k).symm
  have hlen : (A ++ B).length ≤ 1000 := by omega
  by_cases ht : 32 ≤ t.n
  · refine (rem_key_big IH M ht hlen (by rw [hxs]; exact hs) hpos).mono ?_
    intro r w' hr
    exact hr.mono (by omega) (by omega) hF' (fun xs out hx => by rw [hx, hxs])
  · have HG : ∀ w', Mid w' c h s.p iv cv A B S t T G → Calls Try.prog 57 #[.pointer (some ⟨s.p, 0, none⟩), .int .i64 (S.length : Int), e.v, .int .i64 31, .int .i64 0] w' fun r w'' => RemLeft w' w'' c (h + 1) s.p (s.n - 1) s.n (midF s.p iv cv S t T G) (fun xs _ => xs = del e.key s.xs) r := by
      intro w1 M1
      by_cases hl : ∃ A0 a S0 l, A = A0 ++ [a] ∧ S = S0 ++ [l] ∧ S0.length = A0.length ∧ 32 ≤ l.n
      · obtain ⟨A0, a, S0, l, rfl, rfl, hl0, hl⟩ := hl
        have M2 := M1.unshift
        have e1 : (S0 ++ [l]).length = S0.length + 1 := by simp
        have e3 : (S0 ++ [l]) ++ t :: T = S0 ++ l :: t :: T := by simp
        have e4 : (A0 ++ [a]) ++ B = A0 ++ a :: B := by simp
        rw [e3, e4] at hxs
        rw [e4] at hlen h1
        rw [e1]
        refine (grow_left (P := fun xs out => xs = del e.key s.xs) M2 hl (by omega) hlen ?_).mono ?_
        · intro w' iv' cv' x l' t' M' ht' hw' ha
          have hw2 := hw'.trans hxs
          have hxa := (weave_two hl0 (by rw [hw2]; exact hs)).2 a ha
          have e5 : (A0 ++ [x]) ++ B = A0 ++ x :: B := by simp
          have e6 : (S0 ++ [l']) ++ t' :: T = S0 ++ l' :: t' :: T := by simp
          have e7 : (A0 ++ x :: B).length = (A0 ++ a :: B).length := by simp
          refine (rem_key_big IH M'.shift ht' (by rw [e5, e7]; exact hlen) (by rw [e5, e6, hw2]; exact hs) ⟨fun y hy => ?_, hpos.2⟩).mono ?_
          · rcases List.mem_append.1 hy with hy | hy
            · exact hpos.1 y (List.mem_append_left _ hy)
            · rw [List.mem_singleton.1 hy]
              exact klt_trans hxa (hpos.1 a (by simp))
          · intro r w'' hr
            exact hr.mono (by rw [e5, e7]; exact Nat.le_refl _) (by rw [e5, e7]; exact Nat.le_refl _) (fun k => midF_shift s.p iv' cv' S0 l' t' T G k) (fun xs out hx => by rw [hx, e5, e6, hw2])
        · intro r w' hr
          exact hr.mono (by omega) (by omega) (fun k => (midF_shift s.p iv cv S0 l t T G k).symm) (fun _ _ hx => hx)
      · have hpoor : Poor S := by
          by_cases hA : A = []
          · left
            exact List.eq_nil_of_length_eq_zero (by rw [M1.sl, hA]; rfl)
          · obtain ⟨A0, a, S0, l, h2, h3, h4⟩ := last_two M1.sl hA
            right
            refine ⟨S0, l, h3, ?_⟩
            by_cases h5 : 32 ≤ l.n
            · exact absurd ⟨A0, a, S0, l, h2, h3, h4, h5⟩ hl
            · omega
        cases B with
        | cons b B1 =>
          cases T with
          | nil => have := M1.tl; simp at this
          | cons q T1 =>
            by_cases hq : 32 ≤ q.n
            · refine (grow_right (P := fun xs out => xs = del e.key s.xs) M1 (by omega) hq hpoor hlen ?_).mono ?_
              · intro w' iv' cv' x l' t' M' ht' hw' hb'
                have hw2 := hw'.trans hxs
                have hbx := (weave_two M1.sl (by rw [hw2]; exact hs)).1 b hb'
                have e7 : (A ++ x :: B1).length = (A ++ b :: B1).length := by simp
                refine (rem_key_big IH M' ht' (by rw [e7]; exact hlen) (by rw [hw2]; exact hs) ⟨hpos.1, fun y hy => ?_⟩).mono ?_
                · rcases List.mem_cons.1 hy with rfl | hy
                  · cases hk : klt y.key e.key with
                    | false => rfl
                    | true =>
                      have := hpos.2 b List.mem_cons_self
                      rw [klt_trans hbx hk] at this
                      cases this
                  · exact hpos.2 y (List.mem_cons_of_mem _ hy)
                · intro r w'' hr
                  exact hr.mono (by rw [e7]; exact Nat.le_refl _) (by rw [e7]; exact Nat.le_refl _) (fun _ => rfl) (fun xs out hx => by rw [hx, hw2])
              · intro r w' hr
                exact hr.mono (by omega) (by omega) (fun _ => rfl) (fun _ _ hx => hx)
            · have e8 : (A ++ B1).length + 1 = (A ++ b :: B1).length := by simp; omega
              refine (grow_merge (P := fun xs out => xs = del e.key s.xs) M1 (by omega) (by omega) (Or.inl ⟨rfl, hpoor⟩) hlen ?_).mono ?_
              · intro w' iv' cv' l' G' M' ht' hw' _
                have hw2 := hw'.trans hxs
                refine (rem_key_big IH M' ht' (by omega) (by rw [hw2]; exact hs) ⟨hpos.1, fun y hy => hpos.2 y (List.mem_cons_of_mem _ hy)⟩).mono ?_
                intro r w'' hr
                exact hr.mono (Nat.le_refl _) (Nat.le_refl _) (fun _ => rfl) (fun xs out hx => by rw [hx, hw2])
              · intro r w' hr
                exact hr.mono (by omega) (by omega) (fun _ => rfl) (fun _ _ hx => hx)
        | nil =>
          have hT : T = [] := List.eq_nil_of_length_eq_zero (by rw [M1.tl]; rfl)
          subst hT
          obtain ⟨A0, a, S0, l, h2, h3, h4⟩ := last_two M1.sl (fun h0 => by rw [h0] at h1; simp at h1; omega)
          have hl5 : l.n ≤ 31 := by
            by_cases h5 : 32 ≤ l.n
            · exact absurd ⟨A0, a, S0, l, h2, h3, h4, h5⟩ hl
            · omega
          subst h2
          subst h3
          have M2 := M1.unshift
          have e1 : (S0 ++ [l]).length = S0.length + 1 := by simp
          have e3 : (S0 ++ [l]) ++ [t] = S0 ++ l :: t :: [] := by simp
          have e4 : (A0 ++ [a]) ++ [] = A0 ++ a :: [] := by simp
          rw [e3, e4] at hxs
          rw [e4] at hlen h1
          rw [e1]
          have e8 : (A0 ++ ([] : List Ent)).length + 1 = (A0 ++ a :: []).length := by simp
          have hg := grow_merge (P := fun xs out => xs = del e.key s.xs) (typ := 0) (e := e) (i := S0.length + 1) M2 hl5 (by omega) (Or.inr ⟨rfl, rfl⟩) hlen (fun w' iv' cv' l' G' M' ht' hw' _ => by
            have hw2 := hw'.trans hxs
            refine (rem_key_big IH M' ht' (by omega) (by rw [hw2]; exact hs) ⟨fun y hy => hpos.1 y (List.mem_append_left _ hy), fun y hy => (by cases hy)⟩).mono ?_
            intro r w'' hr
            exact hr.mono (Nat.le_refl _) (Nat.le_refl _) (fun _ => rfl) (fun xs out hx => by rw [hx, hw2]))
          refine hg.mono ?_
          intro r w' hr
          exact hr.mono (by omega) (by omega) (fun k => (midF_shift s.p iv cv S0 l t [] G k).symm) (fun _ _ hx => hx)
    rcases hfind with hk | hk
    · refine (rem_small_hit M (by omega) hlen hsi (by rw [M.sl]; exact hk) HG).mono ?_
      intro r w' hr
      exact hr.mono (Nat.le_refl _) (Nat.le_refl _) hF' (fun _ _ hx => hx)
    · refine (rem_small_miss M (by omega) hlen hsi (by rw [M.sl]; exact hk) HG).mono ?_
      intro r w' hr
      exact hr.mono (Nat.le_refl _) (Nat.le_refl _) hF' (fun _ _ hx => hx)

theorem remK_all : ∀ h, RemK h
  | 0 => remK_leaf
  | h + 1 => remK_step (remK_all h)

end Go.Proofs.Qxb6603483a
