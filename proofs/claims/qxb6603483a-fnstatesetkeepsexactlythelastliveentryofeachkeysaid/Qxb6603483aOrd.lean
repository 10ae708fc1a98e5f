/-
  The order of strings.
-/
import Derived.Test.Qxb6603483aBase
namespace Go.Proofs.Qxb6603483a
open Go.RowKit

/-- Go's order of strings: by bytes. -/
def klt (a b : ByteArray) : Bool := Op.bytesLess a.toList b.toList

theorem bl_irrefl : ∀ a : List UInt8, Op.bytesLess a a = false
  | [] => rfl
  | x :: t => by
    unfold Op.bytesLess
    rw [bl_irrefl t]
    simp
theorem bl_cons (x y : UInt8) (s t : List UInt8) : Op.bytesLess (x :: s) (y :: t) = true ↔ x < y ∨ (x = y ∧ Op.bytesLess s t = true) := by
  rw [Op.bytesLess]; simp
theorem bl_trans : ∀ a b c : List UInt8, Op.bytesLess a b = true → Op.bytesLess b c = true → Op.bytesLess a c = true
  | _, [], [] => fun _ h => by simp [Op.bytesLess] at h
  | _, _ :: _, [] => fun _ h => by simp [Op.bytesLess] at h
  | [], _, _ :: _ => fun _ _ => rfl
  | x :: s, [], _ :: _ => fun h _ => by simp [Op.bytesLess] at h
  | x :: s, y :: t, z :: u => fun h1 h2 => by
    rw [bl_cons] at *
    rcases h1 with h1 | ⟨rfl, h1⟩ <;> rcases h2 with h2 | ⟨rfl, h2⟩
    · exact Or.inl (UInt8.lt_trans h1 h2)
    · exact Or.inl h1
    · exact Or.inl h2
    · exact Or.inr ⟨rfl, bl_trans s t u h1 h2⟩
theorem bl_total : ∀ a b : List UInt8, Op.bytesLess a b = false → Op.bytesLess b a = false → a = b
  | [], [] => fun _ _ => rfl
  | [], _ :: _ => fun h _ => by simp [Op.bytesLess] at h
  | _ :: _, [] => fun _ h => by simp [Op.bytesLess] at h
  | x :: s, y :: t => fun h1 h2 => by
    have n1 : ¬ (x < y ∨ (x = y ∧ Op.bytesLess s t = true)) := fun h => by rw [(bl_cons x y s t).2 h] at h1; cases h1
    have n2 : ¬ (y < x ∨ (y = x ∧ Op.bytesLess t s = true)) := fun h => by rw [(bl_cons y x t s).2 h] at h2; cases h2
    have e : x = y := by
      rcases Classical.em (x = y) with h | h
      · exact h
      · rcases UInt8.lt_or_lt_of_ne h with h | h
        · exact absurd (Or.inl h) n1
        · exact absurd (Or.inl h) n2
    subst e
    rw [bl_total s t (by cases h : Op.bytesLess s t with | false => rfl | true => exact absurd (Or.inr ⟨rfl, h⟩) n1) (by cases h : Op.bytesLess t s with | false => rfl | true => exact absurd (Or.inr ⟨rfl, h⟩) n2)]

theorem klt_irrefl (a : ByteArray) : klt a a = false := bl_irrefl _
theorem klt_trans {a b c : ByteArray} (h1 : klt a b = true) (h2 : klt b c = true) : klt a c = true := bl_trans _ _ _ h1 h2
theorem klt_total {a b : ByteArray} (h1 : klt a b = false) (h2 : klt b a = false) : a = b := by
  have h := bl_total _ _ h1 h2
  rw [ByteArray.toList_eq, ByteArray.toList_eq] at h
  exact ByteArray.ext (Array.ext' h)
theorem klt_asymm {a b : ByteArray} (h : klt a b = true) : klt b a = false := by
  cases h2 : klt b a with
  | false => rfl
  | true => have := klt_trans h h2; rw [klt_irrefl] at this; cases this

end Go.Proofs.Qxb6603483a
