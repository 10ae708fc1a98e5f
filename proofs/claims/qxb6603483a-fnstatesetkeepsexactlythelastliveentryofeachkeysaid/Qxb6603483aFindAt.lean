/-
  find, its answer known ahead.
-/
import Derived.Test.Qxb6603483aBox
namespace Go.Proofs.Qxb6603483a
open Go.RowKit
set_option linter.unusedSimpArgs false

/-- The key lies at k. -/
def HitAt (its : List Ent) (e : Ent) (k : Nat) : Prop := ∃ A x B, its = A ++ x :: B ∧ x.key = e.key ∧ k = A.length
/-- The key would lie at k. -/
def MissAt (its : List Ent) (e : Ent) (k : Nat) : Prop := ∃ A B, its = A ++ B ∧ (∀ a ∈ A, klt a.key e.key = true) ∧ (∀ b ∈ B, klt e.key b.key = true) ∧ k = A.length

theorem hit_pos {A B : List Ent} {x e : Ent} (hs : Asc (A ++ x :: B)) (hx : x.key = e.key) : Pos e.key A (x :: B) := by
  have h := List.pairwise_append.1 hs
  refine ⟨fun a ha => by rw [← hx]; exact h.2.2 a ha x List.mem_cons_self, fun b hb => ?_⟩
  rcases List.mem_cons.1 hb with rfl | hb
  · rw [hx]; exact klt_irrefl _
  · have := (List.pairwise_cons.1 h.2.1).1 b hb
    rw [hx] at this
    exact klt_asymm this
theorem miss_pos {A B : List Ent} {e : Ent} (hA : ∀ a ∈ A, klt a.key e.key = true) (hB : ∀ b ∈ B, klt e.key b.key = true) : Pos e.key A B := ⟨hA, fun b hb => klt_asymm (hB b hb)⟩

theorem find_hit {w : World} {iv : Value} {its : List Ent} (h : Row3 w iv its) (hs : Asc its) (hn : its.length ≤ 100000) (e : Ent) {k : Nat} (hk : HitAt its e k) :
    Calls Try.prog 43 #[iv, e.v, lessV] w fun r w' => r = .returned (.tuple #[.int .i64 (k : Nat), .bool true]) ∧ Chg0 w w' := by
  refine (find43 h hs hn e).mono ?_
  rintro r w' ⟨hf, hc⟩
  refine ⟨?_, hc⟩
  obtain ⟨A, x, B, rfl, hx, rfl⟩ := hk
  rcases hf with ⟨A', x', B', h1, h2, h3⟩ | ⟨A', B', h1, h2, h3, h4⟩
  · obtain ⟨e1, e2⟩ := Pos.unique h1 (hit_pos hs hx) (hit_pos (by rw [← h1]; exact hs) h2)
    rw [h3, e1]
  · obtain ⟨e1, e2⟩ := Pos.unique h1 (hit_pos hs hx) (miss_pos h2 h3)
    have := h3 x (by rw [← e2]; exact List.mem_cons_self)
    rw [hx, klt_irrefl] at this
    cases this
theorem find_miss {w : World} {iv : Value} {its : List Ent} (h : Row3 w iv its) (hs : Asc its) (hn : its.length ≤ 100000) (e : Ent) {k : Nat} (hk : MissAt its e k) :
    Calls Try.prog 43 #[iv, e.v, lessV] w fun r w' => r = .returned (.tuple #[.int .i64 (k : Nat), .bool false]) ∧ Chg0 w w' := by
  refine (find43 h hs hn e).mono ?_
  rintro r w' ⟨hf, hc⟩
  refine ⟨?_, hc⟩
  obtain ⟨A, B, rfl, hA, hB, rfl⟩ := hk
  rcases hf with ⟨A', x', B', h1, h2, h3⟩ | ⟨A', B', h1, h2, h3, h4⟩
  · obtain ⟨e1, e2⟩ := Pos.unique h1 (miss_pos hA hB) (hit_pos (by rw [← h1]; exact hs) h2)
    have := hB x' (by rw [e2]; exact List.mem_cons_self)
    rw [h2, klt_irrefl] at this
    cases this
  · obtain ⟨e1, e2⟩ := Pos.unique h1 (miss_pos hA hB) (miss_pos h2 h3)
    rw [h4, e1]

/-- One or the other. -/
theorem hit_or_miss : ∀ {its : List Ent}, Asc its → ∀ (e : Ent), (∃ k, HitAt its e k) ∨ ∃ k, MissAt its e k
  | [], _, e => Or.inr ⟨0, [], [], rfl, fun a ha => (by cases ha), fun a ha => (by cases ha), rfl⟩
  | x :: t, hs, e => by
    have ht := List.pairwise_cons.1 hs
    cases h1 : klt x.key e.key with
    | true =>
      rcases hit_or_miss (its := t) ht.2 e with ⟨k, A, y, B, rfl, hy, rfl⟩ | ⟨k, A, B, rfl, hA, hB, rfl⟩
      · exact Or.inl ⟨A.length + 1, x :: A, y, B, rfl, hy, rfl⟩
      · refine Or.inr ⟨A.length + 1, x :: A, B, rfl, fun a ha => ?_, hB, rfl⟩
        rcases List.mem_cons.1 ha with rfl | ha
        · exact h1
        · exact hA a ha
    | false =>
      cases h2 : klt e.key x.key with
      | true =>
        refine Or.inr ⟨0, [], x :: t, rfl, fun a ha => (by cases ha), fun b hb => ?_, rfl⟩
        rcases List.mem_cons.1 hb with rfl | hb
        · exact h2
        · exact klt_trans h2 (ht.1 b hb)
      | false => exact Or.inl ⟨0, [], x, t, rfl, klt_total h1 h2, rfl⟩

end Go.Proofs.Qxb6603483a
