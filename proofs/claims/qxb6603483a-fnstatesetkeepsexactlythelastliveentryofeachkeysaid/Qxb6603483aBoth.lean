/-
  The state and the model side by side.
-/
import Derived.Test.Qxb6603483aSteps
import Derived.Test.Qxb6603483aMake8
import Derived.Test.Qxb6603483aEnts
namespace Go.Proofs.Qxb6603483a
open Go.RowKit
set_option linter.unusedSimpArgs false

theorem put_mem {e y : Ent} {X : List Ent} (h : y ∈ put e X) : y = e ∨ y ∈ X := by
  unfold put at h
  split at h
  · exact Or.inr (List.mem_filter.1 h).1
  · unfold ins at h
    rcases List.mem_append.1 h with h | h
    · exact Or.inr (List.mem_filter.1 h).1
    · rcases List.mem_cons.1 h with h | h
      · exact Or.inl h
      · exact Or.inr (List.mem_filter.1 h).1

theorem put_asc {e : Ent} {X : List Ent} (h : Asc X) : Asc (put e X) := by
  unfold put
  split
  · exact h.del
  · exact h.ins

theorem two_filters {α : Type} {p q : α → Bool} (l : List α) (h : ∀ a, p a = true → q a = false) : (l.filter p).length + (l.filter q).length ≤ l.length := by
  induction l with
  | nil => simp
  | cons x t ih =>
    simp only [List.filter_cons]
    cases hp : p x with
    | true =>
      rw [h x hp]
      simp
      omega
    | false =>
      cases hq : q x with
      | true => simp; omega
      | false => simp; omega

theorem put_len {e : Ent} {X : List Ent} : (put e X).length ≤ X.length + 1 := by
  unfold put
  split
  · exact Nat.le_succ_of_le (List.length_filter_le ..)
  · unfold ins
    have h := two_filters (p := fun x : Ent => klt x.key e.key) (q := fun x : Ent => klt e.key x.key) X (fun a ha => by
      cases hb : klt e.key a.key with
      | false => rfl
      | true => exact absurd (klt_trans ha hb) (by rw [klt_irrefl]; simp))
    rw [List.length_append, List.length_cons]
    omega

/-- The state st holds X, the row mv holds Y; nothing of either lies among w0's blocks; none is shared. -/
structure Both (w0 w : World) (st : Nat) (mv : Value) (X Y : List Ent) (F : Nat → Nat) : Prop where
  sta : Sta w st X F
  row : RowS w mv Y
  apart : ∀ k, F k + ob mv k ≤ 1
  low : ∀ k, k < w0.heap.size → F k = 0 ∧ ob mv k = 0
  bel : Below w0.heap.size w0 w

theorem Both.zz {w0 w w1 w2 : World} {st : Nat} {mv : Value} {X Y X' : List Ent} {F F' : Nat → Nat} (h : Both w0 w st mv X Y F) (hc : Chg0 w w1) (hs : Sta w2 st X' F') (hS : Stp F w1 w2 F') : Both w0 w2 st mv X' Y F' := by
  have h1 : Below w0.heap.size w0 w1 := h.bel.trans (hc.below h.bel.size (fun _ _ => rfl))
  have r1 : RowS w1 mv Y := h.row.grew hc
  have r2 : RowS w2 mv Y := r1.same (fun k hk => hS.chg.same k (r1.lt hk) (by have := h.apart k; omega))
  refine ⟨hs, r2, fun k => ?_, fun k hk => ⟨?_, (h.low k hk).2⟩, h1.trans (hS.chg.below h1.size (fun k hk => (h.low k hk).1))⟩
  · by_cases hk : k < w1.heap.size
    · have := hS.le k hk
      have := h.apart k
      omega
    · have h0 : ob mv k = 0 := by
        have := ob_le mv k
        by_cases e : 1 ≤ ob mv k
        · exact absurd (r1.lt e) hk
        · omega
      have := hS.uniq k
      omega
  · have := hS.le k (Nat.lt_of_lt_of_le hk h1.size)
    have := (h.low k hk).1
    omega

theorem RowS.not {w : World} {v : Value} {es : List Ent} (h : RowS w v es) {b : Nat} {o : Obj} (hb : w.heap[b]? = some o) (ho : ∀ cs, o ≠ .cells cs 31 (0, 0)) : ob v b = 0 := by
  rcases h.form with ⟨rfl, _⟩ | ⟨g, cap, rfl⟩
  · exact ob_nil b
  · rw [ob_slice]
    by_cases e : b = g
    · subst e
      obtain ⟨sp, hrow, _⟩ := h.open'
      rw [hb] at hrow
      injection hrow with hrow
      exact absurd hrow (ho _)
    · exact one_other e

theorem Both.model {w0 w w' : World} {st : Nat} {mv mv' : Value} {X Y Y' : List Ent} {F : Nat → Nat} (h : Both w0 w st mv X Y F) (hr : RowS w' mv' Y') (hS : Stp (ob mv) w w' (ob mv')) : Both w0 w' st mv' X Y' F := by
  obtain ⟨t, mb, clk, cs, hb, h0, h28, hm, B, hf1, hf2⟩ := h.sta
  have n1 : ob mv st = 0 := h.row.not hb (fun cs e => by injection e with _ e; cases e)
  have n2 : ob mv mb = 0 := h.row.not hm (fun cs e => by cases e)
  have s1 : w'.heap[st]? = _ := (hS.chg.same st (heap_lt' hb) n1).trans hb
  have s2 : w'.heap[mb]? = _ := (hS.chg.same mb (heap_lt' hm) n2).trans hm
  have B' : Bt w' t X F := B.same (fun k hk => hS.chg.same k (B.lt k hk) (by have := h.apart k; omega))
  refine ⟨⟨t, mb, clk, cs, s1, h0, h28, s2, B', hf1, hf2⟩, hr, fun k => ?_, fun k hk => ⟨(h.low k hk).1, ?_⟩, h.bel.trans (hS.chg.below h.bel.size (fun k hk => (h.low k hk).2))⟩
  · by_cases hk : k < w.heap.size
    · have := hS.le k hk
      have := h.apart k
      omega
    · have e0 : F k = 0 := by
        by_cases e : 1 ≤ F k
        · exact absurd (B.lt k e) hk
        · omega
      have := hS.uniq k
      omega
  · have := hS.le k (Nat.lt_of_lt_of_le hk h.bel.size)
    have := (h.low k hk).2
    omega

/-- The start: a fresh state, a nil model. -/
theorem both_start {w0 w : World} {st : Nat} {F : Nat → Nat} (hc : Chg0 w0 w) (hs : Sta w st [] F) (h0 : ∀ k, k < w0.heap.size → F k = 0) : Both w0 w st (.slice none 0 0) [] [] F := by
  have hu : ∀ k, F k ≤ 1 := by
    obtain ⟨t, mb, clk, cs, hb, _, h28, hm, B, hf1, hf2⟩ := hs
    exact B.uniq
  exact ⟨hs, ⟨rfl, Or.inl ⟨rfl, rfl⟩⟩, fun k => by rw [ob_nil]; exact hu k, fun k hk => ⟨h0 k hk, ob_nil k⟩, hc.below (Nat.le_refl _) (fun _ _ => rfl)⟩

theorem row3_base {w : World} {b n : Nat} {v : Value} {xs : List Value} (h : w.ownsRow b 33 3 v n xs) : w.ownsRow 0 33 3 v n xs := by
  obtain ⟨h1, h2⟩ := h
  refine ⟨h1, ?_⟩
  rcases h2 with h2 | ⟨g, cap, cur, hv, _, r⟩
  · exact Or.inl h2
  · exact Or.inr ⟨g, cap, cur, hv, Nat.zero_le _, r⟩

theorem ValsAt.grew {w w' : World} {L : List Ent} (h : ValsAt w L) (hb : Below w.heap.size w w') : ValsAt w' L := fun e he => (h e he).grew (fun g _ _ hh => (hb.block g (heap_lt' hh)).trans hh)

end Go.Proofs.Qxb6603483a
