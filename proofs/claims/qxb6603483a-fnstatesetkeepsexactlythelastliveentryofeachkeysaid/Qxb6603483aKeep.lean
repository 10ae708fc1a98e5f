/-
  What a round of the caller's loop keeps: all cells but the box B and the row that it holds.
-/
import Derived.Test.Qxb6603483aSet
namespace Go.Proofs.Qxb6603483a
open Go.RowKit
set_option linter.unusedSimpArgs false

/-- The row that the slice in box B lies in. -/
def outRow (W : World) (B : Nat) : Option Nat := (W.cell? ⟨B, 0, none⟩).bind Value.ownBlock

structure Keep (B : Nat) (W W' : World) : Prop where
  size : W.heap.size ≤ W'.heap.size
  same : ∀ k cs t fr, W.heap[k]? = some (.cells cs t fr) → k ≠ B → some k ≠ outRow W B → W'.heap[k]? = some (.cells cs t fr)
  row : ∀ g, outRow W' B = some g → outRow W B = some g ∨ (W.heap.size ≤ g ∧ g < W'.heap.size)

theorem Keep.refl (B : Nat) (W : World) : Keep B W W := ⟨Nat.le_refl _, fun _ _ _ _ h _ _ => h, fun _ h => Or.inl h⟩
theorem heap_lt {W : World} {k : Nat} {o : Obj} (h : W.heap[k]? = some o) : k < W.heap.size := (Array.getElem?_eq_some_iff.1 h).1
theorem Keep.trans {B : Nat} {a b c : World} (h : Keep B a b) (k : Keep B b c) : Keep B a c :=
  ⟨Nat.le_trans h.size k.size, fun i cs t fr hi hB hr => k.same i cs t fr (h.same i cs t fr hi hB hr) hB (fun e => by
    rcases h.row i e.symm with e1 | e1
    · exact hr e1.symm
    · have := heap_lt hi; omega), fun g hg => by
    rcases k.row g hg with e | ⟨e, e2⟩
    · rcases h.row g e with e3 | ⟨e3, e4⟩
      · exact Or.inl e3
      · exact Or.inr ⟨e3, Nat.lt_of_lt_of_le e4 k.size⟩
    · exact Or.inr ⟨Nat.le_trans h.size e, e2⟩⟩
theorem outRow_same {W W' : World} {B : Nat} (h : W'.heap[B]? = W.heap[B]?) : outRow W' B = outRow W B := by
  unfold outRow
  rw [World.cell?_of_block (a := ⟨B, 0, none⟩) h]
theorem Keep.chg0 {B : Nat} {W W' : World} (hc : Chg0 W W') (hB : B < W.heap.size) : Keep B W W' :=
  ⟨hc.size, fun k cs t fr hk _ _ => hc.blk hk, fun g hg => Or.inl (by rw [← outRow_same (hc.same B hB rfl)]; exact hg)⟩
theorem Keep.drew {B : Nat} {W W' : World} (h : Keep B W W') : Keep B W W'.drew := ⟨h.size, h.same, h.row⟩

/-- Blocks that a round lets be. -/
def Apart (B : Nat) (W : World) (F : Nat → Nat) : Prop := ∀ k, 1 ≤ F k → k ≠ B ∧ some k ≠ outRow W B ∧ k < W.heap.size
theorem Apart.keep {B : Nat} {W W' : World} {F : Nat → Nat} (h : Apart B W F) (hk : Keep B W W') : Apart B W' F := fun k h1 => by
  obtain ⟨a, b, c⟩ := h k h1
  refine ⟨a, fun e => ?_, Nat.lt_of_lt_of_le c hk.size⟩
  rcases hk.row k e.symm with e1 | e1
  · exact b e1.symm
  · omega
theorem Apart.mono {B : Nat} {W : World} {F F' : Nat → Nat} (h : Apart B W F) (hF : ∀ k, 1 ≤ F' k → 1 ≤ F k) : Apart B W F' := fun k hk => h k (hF k hk)

theorem ownsRow_cells {w : World} {base : Nat} {e : TypeId} {size n : Nat} {v : Value} {xs : List Value} (h : w.ownsRow base e size v n xs) {k : Nat} (hk : v.ownBlock = some k) : ∃ cs t fr, w.heap[k]? = some (.cells cs t fr) := by
  rcases h.2 with ⟨hv, _⟩ | ⟨g', cap, cur, hv, hb, hh, r⟩
  · rw [hv] at hk; cases hk
  · rw [hv] at hk
    have e : g' = k := by simpa [Value.ownBlock] using hk
    rw [← e]
    exact ⟨_, _, _, hh⟩
theorem NodeAt.cells {w : World} {p : Nat} {iv cv cp : Value} {its : List Ent} {cps : List Value} (h : NodeAt w p iv cv cp its cps) {k : Nat} (hk : 1 ≤ nodeF p iv cv k) : ∃ cs t fr, w.heap[k]? = some (.cells cs t fr) := by
  unfold nodeF at hk
  by_cases h1 : 1 ≤ one p k
  · rw [one_pos h1]; exact ⟨_, _, _, h.blk⟩
  by_cases h2 : 1 ≤ ob iv k
  · exact ownsRow_cells h.ri (ob_pos h2)
  · exact ownsRow_cells h.rc (ob_pos (by omega))
theorem IsT.cells {w : World} {c : Nat} : ∀ {h : Nat} {s : Sub}, IsT w c h s → ∀ {k}, 1 ≤ s.F k → ∃ cs t fr, w.heap[k]? = some (.cells cs t fr)
  | 0, s, H, k, hk => by obtain ⟨iv, cv, hN, _, hF⟩ := H; rw [hF] at hk; exact hN.cells hk
  | h + 1, s, H, k, hk => by
    obtain ⟨iv, cv, its, subs, hN, _, _, hs, _, hF, _⟩ := H
    rw [hF] at hk
    by_cases h1 : 1 ≤ nodeF s.p iv cv k
    · exact hN.cells h1
    · obtain ⟨t, ht, h2⟩ := sumF_pos (ss := subs) (k := k) (by omega)
      exact IsT.cells (hs t ht).1 h2
theorem Keep.at {B : Nat} {W W' : World} (hk : Keep B W W') {k : Nat} (hc : ∃ cs t fr, W.heap[k]? = some (.cells cs t fr)) (h1 : k ≠ B) (h2 : some k ≠ outRow W B) : W'.heap[k]? = W.heap[k]? := by
  obtain ⟨cs, t, fr, h⟩ := hc
  rw [h]
  exact hk.same k cs t fr h h1 h2
theorem IsT.kept {B : Nat} {W W' : World} {c h : Nat} {s : Sub} (H : IsT W c h s) (hk : Keep B W W') (ha : Apart B W s.F) : IsT W' c h s := H.same (fun k h1 => hk.at (H.cells h1) (ha k h1).1 (ha k h1).2.1)
theorem NodeAt.kept {B : Nat} {W W' : World} {p : Nat} {iv cv cp : Value} {its : List Ent} {cps : List Value} (H : NodeAt W p iv cv cp its cps) (hk : Keep B W W') (ha : Apart B W (nodeF p iv cv)) : NodeAt W' p iv cv cp its cps := H.same (fun k h1 => hk.at (H.cells h1) (ha k h1).1 (ha k h1).2.1)

/-- A block laid now is none of those that a round may turn. -/
theorem fresh_apart {B : Nat} {W W' : World} (hc : Chg0 W W') (hB : B < W.heap.size) (hr : ∀ g, outRow W B = some g → g < W.heap.size) {k : Nat} (hk : W.heap.size ≤ k) : k ≠ B ∧ some k ≠ outRow W' B := by
  refine ⟨by omega, fun e => ?_⟩
  rw [outRow_same (hc.same B hB rfl)] at e
  have := hr k e.symm
  omega

/-- The box is there, and what it holds. -/
def Okay (B : Nat) (W : World) : Prop := B < W.heap.size ∧ ∀ g, outRow W B = some g → g < W.heap.size
theorem Okay.keep {B : Nat} {W W' : World} (h : Okay B W) (hk : Keep B W W') : Okay B W' := ⟨Nat.lt_of_lt_of_le h.1 hk.size, fun g hg => by
  rcases hk.row g hg with e | ⟨_, e⟩
  · exact Nat.lt_of_lt_of_le (h.2 g e) hk.size
  · exact e⟩

/-- Nothing comes ahead of the empty key. -/
theorem klt_empty (a : ByteArray) : klt a ⟨#[]⟩ = false := by
  unfold klt
  have e : (⟨#[]⟩ : ByteArray).toList = [] := by rw [ByteArray.toList_eq]
  rw [e]
  cases a.toList <;> simp [Op.bytesLess]

/-- The place of the empty key: the first. -/
theorem find_start {w : World} {iv : Value} {its : List Ent} (h : Row3 w iv its) (hs : Asc its) (hn : its.length ≤ 100000) :
    Calls Try.prog 43 #[iv, ent0.v, lessV] w fun r w' => (∃ b, r = .returned (.tuple #[.int .i64 0, .bool b])) ∧ Chg0 w w' := by
  refine (find43 h hs hn ent0).mono ?_
  rintro r w' ⟨hf, hc⟩
  refine ⟨?_, hc⟩
  rcases hf with ⟨A, x, B, h1, h2, rfl⟩ | ⟨A, B, h1, h2, h3, rfl⟩
  · cases A with
    | nil => exact ⟨true, rfl⟩
    | cons a A =>
      rw [h1] at hs
      have := (List.pairwise_cons.1 hs).1 x (by simp)
      rw [h2] at this
      have e : klt a.key ent0.key = false := klt_empty a.key
      rw [e] at this
      cases this
  · cases A with
    | nil => exact ⟨false, rfl⟩
    | cons a A =>
      have := h2 a (by simp)
      have e : klt a.key ent0.key = false := klt_empty a.key
      rw [e] at this
      cases this

end Go.Proofs.Qxb6603483a
