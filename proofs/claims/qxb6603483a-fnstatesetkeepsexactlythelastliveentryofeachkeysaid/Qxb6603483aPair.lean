/-
  Two neighbouring children laid open, and shut again.
-/
import Derived.Test.Qxb6603483aTri
namespace Go.Proofs.Qxb6603483a
open Go.RowKit
set_option linter.unusedSimpArgs false

/-- What lies beside the three nodes. -/
def restF (S : List Sub) (lsubs tsubs : List Sub) (T : List Sub) (G : Nat → Nat) : Nat → Nat := fun k => sumF lsubs k + sumF tsubs k + sumF S k + sumF T k + G k

/-- Two neighbours l, t (the item a between), laid open. -/
structure Pair (w : World) (c h p : Nat) (iv cv : Value) (A : List Ent) (a : Ent) (B : List Ent) (S : List Sub) (l : Nat) (liv lcv : Value) (lits : List Ent) (lsubs : List Sub) (t : Nat) (tiv tcv : Value) (tits : List Ent) (tsubs : List Sub) (T : List Sub) (G : Nat → Nat) : Prop where
  sl : S.length = A.length
  tl : T.length = B.length
  tri : Tri w c p iv cv (A ++ a :: B) (kids S ++ ptr l :: ptr t :: kids T) l liv lcv lits (kids lsubs) t tiv tcv tits (kids tsubs)
  lk : KidsOK w c h lsubs lits.length
  tk : KidsOK w c h tsubs tits.length
  sk : ∀ u ∈ S, IsT w c h u ∧ 31 ≤ u.n ∧ u.n ≤ 63
  tk2 : ∀ u ∈ T, IsT w c h u ∧ 31 ≤ u.n ∧ u.n ≤ 63
  pool : Pool w c G
  uniq : ∀ k, triF p iv cv l liv lcv t tiv tcv k + restF S lsubs tsubs T G k ≤ 1

theorem Mid.pair {w : World} {c h p : Nat} {iv cv : Value} {A : List Ent} {a : Ent} {B : List Ent} {S : List Sub} {l t : Sub} {T : List Sub} {G : Nat → Nat} (M : Mid w c h p iv cv A (a :: B) S l (t :: T) G) :
    ∃ liv lcv lits lsubs tiv tcv tits tsubs, Pair w c h p iv cv A a B S l.p liv lcv lits lsubs t.p tiv tcv tits tsubs T G ∧ l.n = lits.length ∧ t.n = tits.length ∧ l.xs = weave lits lsubs ∧ t.xs = weave tits tsubs ∧
      (∀ k, midF p iv cv S l (t :: T) G k = triF p iv cv l.p liv lcv t.p tiv tcv k + restF S lsubs tsubs T G k) := by
  obtain ⟨liv, lcv, lits, lsubs, OL, hl1, hl2, hl3⟩ := (M.kid l (by simp)).1.open
  obtain ⟨tiv, tcv, tits, tsubs, OT, ht1, ht2, ht3⟩ := (M.kid t (by simp)).1.open
  have hu := M.uniq
  have hs := sum_mid S l (t :: T)
  have hs2 : ∀ k, sumF (t :: T) k = t.F k + sumF T k := fun k => sumF_cons t T k
  have hF : ∀ k, midF p iv cv S l (t :: T) G k = triF p iv cv l.p liv lcv t.p tiv tcv k + restF S lsubs tsubs T G k := fun k => by
    have := hs k; have := hs2 k; have := hl3 k; have := ht3 k
    unfold midF triF restF
    unfold opnF at *
    omega
  refine ⟨liv, lcv, lits, lsubs, tiv, tcv, tits, tsubs, ⟨M.sl, by have := M.tl; simpa using this, ⟨?_, OL.node, OT.node, fun k => ?_⟩, OL.kid, OT.kid, fun u hu => M.kid u (by simp [hu]), fun u hu => M.kid u (by simp [hu]), M.pool, fun k => ?_⟩, hl1, ht1, hl2, ht2, hF⟩
  · have e1 : kids (S ++ l :: t :: T) = kids S ++ ptr l.p :: ptr t.p :: kids T := by simp [kids]
    rw [← e1]; exact M.node
  · have h1 := hu k
    have h2 : midF p iv cv S l (t :: T) G k ≤ 1 := h1
    rw [hF k] at h2
    unfold triF at h2
    omega
  · rw [← hF k]; exact hu k

/-- Shut again, after steps on the three nodes (subtrees may have moved between the two). -/
theorem Pair.shut {w w' : World} {c h p : Nat} {iv cv iv' cv' : Value} {A : List Ent} {a x : Ent} {B : List Ent} {S : List Sub} {l : Nat} {liv lcv liv' lcv' : Value} {lits lits' : List Ent} {lsubs lsubs' : List Sub} {t : Nat} {tiv tcv tiv' tcv' : Value} {tits tits' : List Ent} {tsubs tsubs' : List Sub} {T : List Sub} {G : Nat → Nat}
    (P : Pair w c h p iv cv A a B S l liv lcv lits lsubs t tiv tcv tits tsubs T G)
    (X : Tri w' c p iv' cv' (A ++ x :: B) (kids S ++ ptr l :: ptr t :: kids T) l liv' lcv' lits' (kids lsubs') t tiv' tcv' tits' (kids tsubs'))
    (hS : Stp (triF p iv cv l liv lcv t tiv tcv) w w' (triF p iv' cv' l liv' lcv' t tiv' tcv'))
    (hk : KidsOK w c h lsubs' lits'.length) (hk2 : KidsOK w c h tsubs' tits'.length) (hsum : ∀ k, sumF lsubs' k + sumF tsubs' k = sumF lsubs k + sumF tsubs k)
    (h1 : 31 ≤ lits'.length ∧ lits'.length ≤ 63) (h2 : 31 ≤ tits'.length ∧ tits'.length ≤ 63) :
    Mid w' c h p iv' cv' A (x :: B) S ⟨l, lits'.length, weave lits' lsubs', opnF l liv' lcv' lsubs'⟩ (⟨t, tits'.length, weave tits' tsubs', opnF t tiv' tcv' tsubs'⟩ :: T) G ∧
      Stp (fun k => triF p iv cv l liv lcv t tiv tcv k + restF S lsubs tsubs T G k) w w' (midF p iv' cv' S ⟨l, lits'.length, weave lits' lsubs', opnF l liv' lcv' lsubs'⟩ (⟨t, tits'.length, weave tits' tsubs', opnF t tiv' tcv' tsubs'⟩ :: T) G) := by
  have hu := P.uniq
  have hr : ∀ k, restF S lsubs tsubs T G k = sumF lsubs k + sumF tsubs k + sumF S k + sumF T k + G k := fun _ => rfl
  have hlt : ∀ k, 1 ≤ restF S lsubs tsubs T G k → k < w.heap.size := fun k hk => by
    rw [hr] at hk
    by_cases h1 : 1 ≤ sumF lsubs k
    · exact P.lk.lt h1
    by_cases h2 : 1 ≤ sumF tsubs k
    · exact P.tk.lt h2
    by_cases h3 : 1 ≤ sumF S k
    · exact kids_lt P.sk h3
    by_cases h4 : 1 ≤ sumF T k
    · exact kids_lt P.tk2 h4
    exact P.pool.lt (by omega)
  have hT0 := hS.frame (restF S lsubs tsubs T G) hu hlt
  have hF : ∀ k, triF p iv' cv' l liv' lcv' t tiv' tcv' k + restF S lsubs tsubs T G k = midF p iv' cv' S ⟨l, lits'.length, weave lits' lsubs', opnF l liv' lcv' lsubs'⟩ (⟨t, tits'.length, weave tits' tsubs', opnF t tiv' tcv' tsubs'⟩ :: T) G k := fun k => by
    have := hsum k; have := hr k
    unfold midF
    rw [sum_mid, sumF_cons]
    show _ = nodeF p iv' cv' k + (sumF S k + (nodeF l liv' lcv' k + sumF lsubs' k) + (nodeF t tiv' tcv' k + sumF tsubs' k + sumF T k)) + G k
    unfold triF
    omega
  have hT := hT0.congr (fun _ => rfl) hF
  have hu' := hT0.uniq
  have hur : ∀ k, restF S lsubs tsubs T G k + triF p iv cv l liv lcv t tiv tcv k ≤ 1 := fun k => by have := hu k; omega
  refine ⟨⟨P.sl, by simp [P.tl], ?_, fun u hm => ?_, P.pool.keep hS.chg (fun k => by have := hur k; rw [hr] at this; omega), hT.uniq⟩, hT⟩
  · have e1 : kids (S ++ (⟨l, lits'.length, weave lits' lsubs', opnF l liv' lcv' lsubs'⟩ : Sub) :: ⟨t, tits'.length, weave tits' tsubs', opnF t tiv' tcv' tsubs'⟩ :: T) = kids S ++ ptr l :: ptr t :: kids T := by simp [kids]
    rw [e1]; exact X.np
  · rcases List.mem_append.1 hm with hm | hm
    · exact kids_keep P.sk hS.chg (fun k => by have := hur k; rw [hr] at this; omega) u hm
    · rcases List.mem_cons.1 hm with rfl | hm
      · refine ⟨Opn.shut ⟨X.nl, hk.keep hS.chg (fun k => by have := hur k; have := hsum k; rw [hr] at *; omega), fun k => ?_⟩, h1⟩
        have := hu' k; have := hsum k; rw [hr] at *; unfold triF at *; omega
      · rcases List.mem_cons.1 hm with rfl | hm
        · refine ⟨Opn.shut ⟨X.nt, hk2.keep hS.chg (fun k => by have := hur k; have := hsum k; rw [hr] at *; omega), fun k => ?_⟩, h2⟩
          have := hu' k; have := hsum k; rw [hr] at *; unfold triF at *; omega
        · exact kids_keep P.tk2 hS.chg (fun k => by have := hur k; rw [hr] at this; omega) u hm

end Go.Proofs.Qxb6603483a
