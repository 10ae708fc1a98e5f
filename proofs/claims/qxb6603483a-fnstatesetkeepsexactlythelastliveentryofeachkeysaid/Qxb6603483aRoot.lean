/-
  The tree's own block; ReplaceOrInsert.
-/
import Derived.Test.Qxb6603483aInsAll
namespace Go.Proofs.Qxb6603483a
open Go.RowKit
set_option linter.unusedSimpArgs false

/-- The tree's block with a root. -/
structure Root (w : World) (t c : Nat) (len : Int) (h : Nat) (s : Sub) (G : Nat → Nat) : Prop where
  blk : w.heap[t]? = some (.cells #[.int .i64 32, .int .i64 len, ptr s.p, ptr c] 87 (0, 0))
  tree : IsT w c h s
  pool : Pool w c G
  uniq : ∀ k, one t k + s.F k + G k ≤ 1
def rootF (t : Nat) (s : Sub) (G : Nat → Nat) : Nat → Nat := fun k => one t k + s.F k + G k

theorem Root.lt {w : World} {t c : Nat} {len : Int} {h : Nat} {s : Sub} {G : Nat → Nat} (R : Root w t c len h s G) {k : Nat} (hk : 1 ≤ rootF t s G k) : k < w.heap.size := by
  unfold rootF at hk
  by_cases h1 : 1 ≤ one t k
  · rw [one_pos h1]; exact (Array.getElem?_eq_some_iff.1 R.blk).1
  by_cases h2 : 1 ≤ s.F k
  · exact R.tree.lt h2
  exact R.pool.lt (by omega)
theorem Root.stp {w : World} {t c : Nat} {len : Int} {h : Nat} {s : Sub} {G : Nat → Nat} (R : Root w t c len h s G) : Stp (rootF t s G) w w (rootF t s G) := Stp.refl R.uniq (fun _ hk => R.lt hk)
theorem Root.grew {w w' : World} {t c : Nat} {len : Int} {h : Nat} {s : Sub} {G : Nat → Nat} (R : Root w t c len h s G) (hc : Chg0 w w') : Root w' t c len h s G :=
  ⟨hc.blk R.blk, R.tree.keep hc (fun k => by have := R.tree.uniq k; omega), R.pool.keep hc (fun k => by have := R.pool.uniq k; omega), R.uniq⟩
theorem Root.zero {w : World} {t c : Nat} {len : Int} {h : Nat} {s : Sub} {G : Nat → Nat} (R : Root w t c len h s G) {k : Nat} (hk : w.heap.size ≤ k) : rootF t s G k = 0 := by
  have : ¬ 1 ≤ rootF t s G k := fun h => by have := R.lt h; omega
  omega
/-- A step on the tree and the pool. -/
theorem Root.step {w w' : World} {t c : Nat} {len : Int} {h h' : Nat} {s s' : Sub} {G G' : Nat → Nat} (R : Root w t c len h s G) (H : IsT w' c h' s') (hp : s'.p = s.p) (hP : Pool w' c G') (hS : Stp (fun k => s.F k + G k) w w' (fun k => s'.F k + G' k)) :
    Root w' t c len h' s' G' ∧ Stp (rootF t s G) w w' (rootF t s' G') := by
  have hu := R.uniq
  have htl := (Array.getElem?_eq_some_iff.1 R.blk).1
  have hT := (hS.frame (one t) (fun k => by have := hu k; omega) (fun k hk => by rw [one_pos hk]; exact htl)).congr (A' := rootF t s G) (B' := rootF t s' G') (fun k => by unfold rootF; omega) (fun k => by unfold rootF; omega)
  refine ⟨⟨?_, H, hP, hT.uniq⟩, hT⟩
  rw [hp]
  exact (hS.chg.same t htl (by have := hu t; rw [one_self] at this; show s.F t + G t = 0; omega)).trans R.blk
/-- A step on the tree's own block. -/
theorem Root.own {w w' : World} {t c : Nat} {len len' : Int} {h : Nat} {s : Sub} {G : Nat → Nat} (R : Root w t c len h s G) (hb : w'.heap[t]? = some (.cells #[.int .i64 32, .int .i64 len', ptr s.p, ptr c] 87 (0, 0))) (hc : Chg (one t) w w') :
    Root w' t c len' h s G ∧ Stp (rootF t s G) w w' (rootF t s G) := by
  have hu := R.uniq
  refine ⟨⟨hb, R.tree.keep hc (fun k => by have := hu k; omega), R.pool.keep hc (fun k => by have := hu k; omega), hu⟩, hc.mono (fun k _ h0 => ?_), fun _ _ => Nat.le_refl _, hu, fun k hk => Nat.lt_of_lt_of_le (R.lt hk) hc.size⟩
  unfold rootF at h0
  omega
theorem root_setLen {w : World} {t c : Nat} {len : Int} {h : Nat} {s : Sub} {G : Nat → Nat} (R : Root w t c len h s G) (len' : Int) :
    Root (w.setCell ⟨t, 1, none⟩ (.int .i64 len')) t c len' h s G ∧ Stp (rootF t s G) w (w.setCell ⟨t, 1, none⟩ (.int .i64 len')) (rootF t s G) :=
  R.own (by rw [heap_setCell_blk R.blk]; rfl) ((Chg.refl (one t) w).setCell (p := ⟨t, 1, none⟩) (fun _ => by show 1 ≤ one t t; rw [one_self]; exact Nat.le_refl _) _)
theorem root_setSame {w : World} {t c : Nat} {len : Int} {h : Nat} {s : Sub} {G : Nat → Nat} (R : Root w t c len h s G) :
    Root (w.setCell ⟨t, 2, none⟩ (ptr s.p)) t c len h s G ∧ Stp (rootF t s G) w (w.setCell ⟨t, 2, none⟩ (ptr s.p)) (rootF t s G) :=
  R.own (by rw [heap_setCell_blk R.blk]; rfl) ((Chg.refl (one t) w).setCell (p := ⟨t, 2, none⟩) (fun _ => by show 1 ≤ one t t; rw [one_self]; exact Nat.le_refl _) _)

/-- The tree t holds X, its blocks F. -/
def Bt (w : World) (t : Nat) (X : List Ent) (F : Nat → Nat) : Prop := Asc X ∧
  ((∃ c len G, X = [] ∧ w.heap[t]? = some (.cells #[.int .i64 32, .int .i64 len, .pointer none, ptr c] 87 (0, 0)) ∧ Pool w c G ∧ (∀ k, F k = one t k + G k) ∧ (∀ k, one t k + G k ≤ 1)) ∨
  (∃ c len h s G, Root w t c len h s G ∧ s.n ≤ 63 ∧ (h = 0 ∨ 1 ≤ s.n) ∧ s.xs = X ∧ (∀ k, F k = rootF t s G k)))

end Go.Proofs.Qxb6603483a
