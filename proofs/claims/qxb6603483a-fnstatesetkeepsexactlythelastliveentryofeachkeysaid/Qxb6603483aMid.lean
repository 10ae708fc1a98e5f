/-
  insert and remove under way in an inner node: the child chosen; what follows when it is done.
-/
import Derived.Test.Qxb6603483aFindAt
import Derived.Test.Qxb6603483aSplitT
namespace Go.Proofs.Qxb6603483a
open Go.RowKit
set_option linter.unusedSimpArgs false

def InsOK (h : Nat) : Prop := ∀ (w : World) (c : Nat) (s : Sub) (G : Nat → Nat) (e : Ent), IsT w c h s → s.n ≤ 62 → Asc s.xs → Pool w c G → (∀ k, s.F k + G k ≤ 1) →
  Calls Try.prog 42 #[.pointer (some ⟨s.p, 0, none⟩), e.v, .int .i64 63] w fun r w' => ∃ (old : Ent) (b : Bool) (s' : Sub) (G' : Nat → Nat), r = .returned (.tuple #[old.v, .bool b]) ∧ s'.p = s.p ∧ IsT w' c h s' ∧ s.n ≤ s'.n ∧ s'.n ≤ s.n + 1 ∧ s'.xs = ins e s.xs ∧ Pool w' c G' ∧
    Stp (fun k => s.F k + G k) w w' (fun k => s'.F k + G' k)

/-- An inner node and a child chosen in it. -/
structure Mid (w : World) (c h p : Nat) (iv cv : Value) (A B : List Ent) (S : List Sub) (t : Sub) (T : List Sub) (G : Nat → Nat) : Prop where
  sl : S.length = A.length
  tl : T.length = B.length
  node : NodeAt w p iv cv (ptr c) (A ++ B) (kids (S ++ t :: T))
  kid : ∀ u ∈ S ++ t :: T, IsT w c h u ∧ 31 ≤ u.n ∧ u.n ≤ 63
  pool : Pool w c G
  uniq : ∀ k, nodeF p iv cv k + sumF (S ++ t :: T) k + G k ≤ 1

/-- All its blocks. -/
def midF (p : Nat) (iv cv : Value) (S : List Sub) (t : Sub) (T : List Sub) (G : Nat → Nat) : Nat → Nat := fun k => nodeF p iv cv k + sumF (S ++ t :: T) k + G k

theorem sum_mid (S : List Sub) (t : Sub) (T : List Sub) (k : Nat) : sumF (S ++ t :: T) k = sumF S k + t.F k + sumF T k := by rw [sumF_append, sumF_cons]; omega

theorem Mid.lt {w : World} {c h p : Nat} {iv cv : Value} {A B : List Ent} {S : List Sub} {t : Sub} {T : List Sub} {G : Nat → Nat} (M : Mid w c h p iv cv A B S t T G) {k : Nat} (hk : 1 ≤ midF p iv cv S t T G k) : k < w.heap.size := by
  unfold midF at hk
  by_cases h1 : 1 ≤ nodeF p iv cv k
  · exact M.node.lt h1
  by_cases h2 : 1 ≤ sumF (S ++ t :: T) k
  · exact kids_lt M.kid h2
  exact M.pool.lt (by omega)

/-- A step on the node alone. -/
theorem Mid.own {w w' : World} {c h p : Nat} {iv cv iv' cv' : Value} {A B A' B' : List Ent} {S : List Sub} {t : Sub} {T : List Sub} {G : Nat → Nat} (M : Mid w c h p iv cv A B S t T G) (hN : NodeAt w' p iv' cv' (ptr c) (A' ++ B') (kids (S ++ t :: T))) (hS : Stp (nodeF p iv cv) w w' (nodeF p iv' cv')) (hA : A'.length = A.length) (hB : B'.length = B.length) :
    Mid w' c h p iv' cv' A' B' S t T G ∧ Stp (midF p iv cv S t T G) w w' (midF p iv' cv' S t T G) := by
  have hu := M.uniq
  have hT := (hS.frame (fun k => sumF (S ++ t :: T) k + G k) (fun k => by have := hu k; omega) (fun k hk => M.lt (by unfold midF; omega))).congr (A' := midF p iv cv S t T G) (B' := midF p iv' cv' S t T G) (fun k => by unfold midF; omega) (fun k => by unfold midF; omega)
  exact ⟨⟨by rw [hA]; exact M.sl, by rw [hB]; exact M.tl, hN, kids_keep M.kid hS.chg (fun k => by have := hu k; omega), M.pool.keep hS.chg (fun k => by have := hu k; omega), hT.uniq⟩, hT⟩

/-- A step on the child chosen (and the pool). -/
theorem Mid.child {w w' : World} {c h p : Nat} {iv cv : Value} {A B : List Ent} {S : List Sub} {t t' : Sub} {T : List Sub} {G G' : Nat → Nat} (M : Mid w c h p iv cv A B S t T G) (Ht : IsT w' c h t') (hp : t'.p = t.p) (hn : 31 ≤ t'.n ∧ t'.n ≤ 63) (hP : Pool w' c G')
    (hS : Stp (fun k => t.F k + G k) w w' (fun k => t'.F k + G' k)) :
    Mid w' c h p iv cv A B S t' T G' ∧ Stp (midF p iv cv S t T G) w w' (midF p iv cv S t' T G') := by
  have hu := M.uniq
  have hs := sum_mid S t T
  have hs' := sum_mid S t' T
  have hT := (hS.frame (fun k => nodeF p iv cv k + sumF S k + sumF T k) (fun k => by have := hu k; have := hs k; omega) (fun k hk => M.lt (by have := hs k; unfold midF; omega))).congr (A' := midF p iv cv S t T G) (B' := midF p iv cv S t' T G') (fun k => by have := hs k; unfold midF; omega) (fun k => by have := hs' k; unfold midF; omega)
  refine ⟨⟨M.sl, M.tl, ?_, fun u hu' => ?_, hP, hT.uniq⟩, hT⟩
  · have e1 : kids (S ++ t' :: T) = kids (S ++ t :: T) := by simp [kids, hp]
    rw [e1]
    exact M.node.keep hS.chg (fun k => by have := hu k; have := hs k; omega)
  · rcases List.mem_append.1 hu' with h1 | h1
    · refine ⟨(M.kid u (by simp [h1])).1.keep hS.chg (fun k => ?_), (M.kid u (by simp [h1])).2⟩
      have := hu k; have := hs k; have := sumF_mem h1 k; omega
    · rcases List.mem_cons.1 h1 with rfl | h1
      · exact ⟨Ht, hn⟩
      · refine ⟨(M.kid u (by simp [h1])).1.keep hS.chg (fun k => ?_), (M.kid u (by simp [h1])).2⟩
        have := hu k; have := hs k; have := sumF_mem h1 k; omega

/-- The whole, as a tree again. -/
theorem Mid.whole {w : World} {c h p : Nat} {iv cv : Value} {A B : List Ent} {S : List Sub} {t : Sub} {T : List Sub} {G : Nat → Nat} (M : Mid w c h p iv cv A B S t T G) :
    IsT w c (h + 1) ⟨p, (A ++ B).length, weave (A ++ B) (S ++ t :: T), fun k => nodeF p iv cv k + sumF (S ++ t :: T) k⟩ :=
  ⟨iv, cv, A ++ B, S ++ t :: T, M.node, rfl, by have := M.sl; have := M.tl; simp; omega, M.kid, rfl, fun _ => rfl, fun k => by have := M.uniq k; show nodeF p iv cv k + sumF (S ++ t :: T) k ≤ 1; omega⟩

/-- A tree of some height, a child chosen. -/
theorem IsT.mid {w : World} {c h : Nat} {s : Sub} {G : Nat → Nat} (H : IsT w c (h + 1) s) (hP : Pool w c G) (hd : ∀ k, s.F k + G k ≤ 1) : ∃ iv cv its, s.n = its.length ∧ its.Sublist s.xs ∧
    ∀ A B, its = A ++ B → ∃ S t T, Mid w c h s.p iv cv A B S t T G ∧ weave (A ++ B) (S ++ t :: T) = s.xs ∧ (∀ k, s.F k + G k = midF s.p iv cv S t T G k) := by
  obtain ⟨iv, cv, its, subs, hN, h1, h2, h3, h4, hF, h5⟩ := H
  refine ⟨iv, cv, its, h1, by rw [h4]; exact sub_weave its subs, fun A B hAB => ?_⟩
  subst hAB
  have hlen : A.length < subs.length := by rw [h2, List.length_append]; omega
  have hsub := split_at subs A.length hlen
  have hsl : (subs.take A.length).length = A.length := by rw [List.length_take]; omega
  refine ⟨subs.take A.length, subs[A.length], subs.drop (A.length + 1), ⟨hsl, ?_, ?_, ?_, hP, ?_⟩, ?_, ?_⟩
  · rw [List.length_drop, h2, List.length_append]; omega
  · rw [← hsub]; exact hN
  · rw [← hsub]; exact h3
  · intro k; rw [← hsub, ← hF]; exact hd k
  · rw [← hsub]; exact h4.symm
  · intro k; unfold midF; rw [← hsub, ← hF]

theorem wtail_gt {e : ByteArray} {B : List Ent} {T : List Sub} (hl : T.length = B.length) (hs : Asc (wtail B T)) (hB : ∀ b ∈ B, klt e b.key = true) : ∀ x ∈ wtail B T, klt e x.key = true := by
  cases B with
  | nil =>
    obtain rfl : T = [] := List.eq_nil_of_length_eq_zero hl
    intro x hx
    simp [wtail] at hx
  | cons b B =>
    intro x hx
    have hb := hB b List.mem_cons_self
    rcases List.mem_cons.1 hx with rfl | hx
    · exact hb
    · exact tail_gt hs (Or.inl hb) x hx

/-- The child's content set into the whole's. -/
theorem weave_ins {e : Ent} {A B : List Ent} {S : List Sub} {t t' : Sub} {T : List Sub} (hsl : S.length = A.length) (htl : T.length = B.length) (hs : Asc (weave (A ++ B) (S ++ t :: T))) (hA : ∀ a ∈ A, klt a.key e.key = true) (hB : ∀ b ∈ B, klt e.key b.key = true) (hx : t'.xs = ins e t.xs) :
    weave (A ++ B) (S ++ t' :: T) = ins e (weave (A ++ B) (S ++ t :: T)) := by
  rw [weave_at A S B t T hsl] at hs ⊢
  rw [weave_at A S B t' T hsl, hx]
  have h1 := List.pairwise_append.1 hs
  have h2 := List.pairwise_append.1 h1.2.1
  rw [ins_mid e _ _ _ (weave_lt A S hsl h1.1 hA) (wtail_gt htl h2.2.1 hB)]
theorem weave_del {k : ByteArray} {A B : List Ent} {S : List Sub} {t t' : Sub} {T : List Sub} (hsl : S.length = A.length) (htl : T.length = B.length) (hs : Asc (weave (A ++ B) (S ++ t :: T))) (hA : ∀ a ∈ A, klt a.key k = true) (hB : ∀ b ∈ B, klt k b.key = true) (hx : t'.xs = del k t.xs) :
    weave (A ++ B) (S ++ t' :: T) = del k (weave (A ++ B) (S ++ t :: T)) := by
  rw [weave_at A S B t T hsl] at hs ⊢
  rw [weave_at A S B t' T hsl, hx]
  have h1 := List.pairwise_append.1 hs
  have h2 := List.pairwise_append.1 h1.2.1
  rw [del_mid k _ _ _ (weave_lt A S hsl h1.1 hA) (wtail_gt htl h2.2.1 hB)]

theorem mid_e {α : Type} (A B : List α) (e : α) : (A ++ [e]) ++ B = A ++ e :: B := by simp
/-- The next child. -/
theorem Mid.shift {w : World} {c h p : Nat} {iv cv : Value} {A B : List Ent} {e : Ent} {S : List Sub} {t1 t2 : Sub} {T : List Sub} {G : Nat → Nat} (M : Mid w c h p iv cv A (e :: B) S t1 (t2 :: T) G) : Mid w c h p iv cv (A ++ [e]) B (S ++ [t1]) t2 T G :=
  ⟨by have := M.sl; simp; omega, by have := M.tl; simp at this; omega, by rw [mid_e, mid_e]; exact M.node, by rw [mid_e]; exact M.kid, M.pool, by rw [mid_e]; exact M.uniq⟩
theorem midF_shift (p : Nat) (iv cv : Value) (S : List Sub) (t1 t2 : Sub) (T : List Sub) (G : Nat → Nat) (k : Nat) : midF p iv cv (S ++ [t1]) t2 T G k = midF p iv cv S t1 (t2 :: T) G k := by
  unfold midF
  rw [mid_e]

theorem maybeSplitM {w : World} {c h p : Nat} {iv cv : Value} {A B : List Ent} {S : List Sub} {t : Sub} {T : List Sub} {G : Nat → Nat} (M : Mid w c h p iv cv A B S t T G) (hn : (A ++ B).length ≤ 999) :
    Calls Try.prog 51 #[.pointer (some ⟨p, 0, none⟩), .int .i64 (S.length : Nat), .int .i64 63] w fun r w' => ∃ b, r = .returned (.bool b) ∧ Hid ((b = false ∧ t.n ≤ 62 ∧ w' = w) ∨
      (b = true ∧ ∃ e t1 t2 iv' cv' G', t1.n = 31 ∧ t2.n = 31 ∧ Mid w' c h p iv' cv' A (e :: B) S t1 (t2 :: T) G' ∧ weave (A ++ e :: B) (S ++ t1 :: t2 :: T) = weave (A ++ B) (S ++ t :: T) ∧
        Stp (midF p iv cv S t T G) w w' (midF p iv' cv' S t1 (t2 :: T) G'))) := by
  have hu := M.uniq
  have hs := sum_mid S t T
  have hsl := M.sl
  have htl := M.tl
  have hkt := M.kid t (by simp)
  refine (maybeSplit M.node (by rw [M.sl, List.length_append]; omega) (by omega) (by simp at hn ⊢; omega) hkt.1 hkt.2 M.pool (fun k => by have := hu k; have := hs k; omega)).mono ?_
  rintro r w' (⟨h1, rfl, rfl⟩ | ⟨e, t1, t2, iv', cv', G', rfl, hp, h1, h2, hn1, hn2, hxs, hN, hP, hS⟩)
  · exact ⟨false, rfl, Or.inl ⟨rfl, by omega, rfl⟩⟩
  · refine ⟨true, rfl, Or.inr ⟨rfl, e, t1, t2, iv', cv', G', hn1, hn2, ?_⟩⟩
    have hT := (hS.frame (fun k => sumF S k + sumF T k) (fun k => by have := hu k; have := hs k; omega) (fun k hk => M.lt (by have := hs k; unfold midF; omega))).congr (A' := midF p iv cv S t T G) (B' := midF p iv' cv' S t1 (t2 :: T) G') (fun k => by have := hs k; unfold midF; omega) (fun k => by unfold midF; rw [sum_mid, sumF_cons]; omega)
    have e1 : (A ++ B).take S.length = A := by rw [hsl, List.take_left]
    have e2 : (A ++ B).drop S.length = B := by rw [hsl, List.drop_left]
    rw [e1, e2] at hN
    refine ⟨⟨hsl, by simp [htl], hN, fun u hu' => ?_, hP, hT.uniq⟩, ?_, hT⟩
    · rcases List.mem_append.1 hu' with h3 | h3
      · refine ⟨(M.kid u (by simp [h3])).1.keep hS.chg (fun k => ?_), (M.kid u (by simp [h3])).2⟩
        have := hu k; have := hs k; have := sumF_mem h3 k; omega
      · rcases List.mem_cons.1 h3 with rfl | h3
        · exact ⟨h1, by omega⟩
        · rcases List.mem_cons.1 h3 with rfl | h3
          · exact ⟨h2, by omega⟩
          · refine ⟨(M.kid u (by simp [h3])).1.keep hS.chg (fun k => ?_), (M.kid u (by simp [h3])).2⟩
            have := hu k; have := hs k; have := sumF_mem h3 k; omega
    · rw [weave_at A S (e :: B) t1 (t2 :: T) hsl, weave_at A S B t T hsl, hxs]
      simp [wtail, weave_cons]

end Go.Proofs.Qxb6603483a
