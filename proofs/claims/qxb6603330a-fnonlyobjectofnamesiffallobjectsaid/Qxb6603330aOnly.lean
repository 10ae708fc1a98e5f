/-
  onlyObject: walked; its plain law.
-/
import Derived.Test.Qxb6603330aMaps
namespace Go.Proofs.Qxb6603330a
open Go.RowKit Go.Maps Go.WideMaps

/-- "object". -/
def objB : List UInt8 := [111, 98, 106, 101, 99, 116]
def objL : Lit := .string [111, 98, 106, 101, 99, 116]

/-- Is every key of D "object"? -/
def ooB {H : Type} (D : DataW H) : Bool := match D with | .map es => es.all (fun p => p.1.sameKey objL) | _ => true

theorem ooB_true {H : Type} {D : DataW H} (h : ∀ kl, WideAt.IsKeyLit kl → Maps.has D kl = true → kl = objL) (hk : ∀ es, D = .map es → ∀ p ∈ es, WideAt.IsKeyLit p.1) : ooB D = true := by
  cases D <;> try rfl
  rename_i es
  simp only [ooB, List.all_eq_true]
  intro p hp
  have hkp := hk es rfl p hp
  have := h p.1 hkp (List.any_eq_true.2 ⟨p, hp, WideAt.sameKey_self hkp⟩)
  rw [this]
  exact WideAt.sameKey_self (a := objL) trivial

theorem ooB_false {H : Type} {D : DataW H} {kl : Lit} (h : Maps.has D kl = true) (hne : kl ≠ objL) : ooB D = false := by
  cases D <;> try (cases h; done)
  rename_i es
  obtain ⟨p, hp, hs⟩ := List.any_eq_true.1 h
  simp only [ooB, List.all_eq_false]
  refine ⟨p, hp, ?_⟩
  rw [WideAt.sameKey_eq hs, sameKey_ne hne]
  simp

set_option maxRecDepth 100000 in
set_option maxHeartbeats 400000 in
theorem onlyObject_some {H : Type} (b n : Nat) (D : DataW H) (w : World) (hown : w.ownsMap Try.prog 9 (plainElem Try.prog 4) b n D) :
    Calls Try.prog 16 #[.map (some b)] w fun e w' => e = .returned (.bool (ooB D)) ∧ Below w.heap.size w w' := by
  go_enter Try.func16, Try.ntmps16
  go_wp2_with (first
    | (at_range; refine wpList_range_own _ rfl _ 22 rfl 9 4 law9 Try.underlying22 _ b n _ rfl hown ?_; intro w0 hrg0 hg0 hs0)
    | go_in)
  go_frame
  have hb0 : Below w.heap.size w w0 := (Below.refl _ w).grown hg0 (Nat.le_refl _) (fun k hk => by cases hk)
  clear hg0 hs0
  go_loopw [3] (fun _ wr => ∃ (left : Lit → Bool) (cnt : Nat), wr.ranges Try.prog 9 (plainElem Try.prog 4) b w.heap.size n D left cnt ∧ Below w.heap.size w wr ∧ ∀ kl, Maps.has D kl = true → left kl = false → kl = objL)
    (fun _ wr => wr.rangeLeft b w.heap.size)
  case atStart => exact ⟨_, _, hrg0, hb0, fun kl h1 h2 => by rw [h1] at h2; cases h2⟩
  case round =>
    obtain ⟨left, cnt, hrg, hbw, hall⟩ := hrel
    go_wp2_with (first
      | (at_next; refine wpList_next_sb _ rfl _ rfl b w.heap.size n _ _ _ rfl hrg (fun _ hl0 => ?_) (fun s c w1 cnt1 hs hlx hat hrg1 hlt hg1 hs1 hen => ?_))
      | go_in)
    · -- NOTHING IS LEFT
      go_ret
      obtain ⟨es0, he0, _, hkeys⟩ := hown.canon law9
      exact ⟨by simp [ooB_true (fun kl _ hh => hall kl hh (hl0 kl)) (fun es he p hp => by rw [he0] at he; cases he; exact hkeys p hp)], hbw⟩
    · -- ANOTHER KEY
      have hne : (!s.toList == [111, 98, 106, 101, 99, 116]) = true := by assumption
      have hne' : Lit.string s.data.toList ≠ objL := fun e => by
        injection e with e
        rw [ByteArray.toList_eq, e] at hne
        simp at hne
      go_ret
      exact ⟨by simp [ooB_false (has_true_of_atKey hat) hne'], hbw.grown hg1 hbw.size (fun k hk => by cases hk; exact Nat.le_refl _)⟩
    · -- "object"
      have hne : (!s.toList == [111, 98, 106, 101, 99, 116]) = false := by assumption
      have he : Lit.string s.data.toList = objL := by
        rw [ByteArray.toList_eq] at hne
        simp at hne
        rw [hne]; rfl
      refine ⟨⟨_, cnt1, hrg1, hbw.grown hg1 hbw.size (fun k hk => by cases hk; exact Nat.le_refl _), fun kl h1 h2 => ?_⟩, by rw [hrg1.left_eq, hrg.left_eq]; exact hlt⟩
      by_cases e : kl = objL
      · exact e
      · rw [he] at h2
        simp only [sameKey_ne e, Bool.not_false, Bool.and_true] at h2
        exact hall kl h1 h2

set_option maxHeartbeats 400000 in
/-- A nil map: the loop has no round. -/
theorem onlyObject_nil (w : World) : Calls Try.prog 16 #[.map none] w fun e w' => e = .returned (.bool true) ∧ Below w.heap.size w w' := by
  have hrg := run_range_nilMap (P := Try.prog) w 22 9 4 Try.underlying22
  have hnx : ∀ ty, (Instr.next (.pointer (some ⟨w.heap.size, 0, none⟩)) false ty).run Try.prog (w.alloc (.mapIter none 0 #[] 0)) = _ := fun ty => run_next_nilMap w ty 0 0 #[]
  go_enter Try.func16, Try.ntmps16
  go_wp2
  refine wp_loop_rounds 1 ?_
  rw [rounds_succ]
  go_wp2
  go_ret
  exact ⟨rfl, (Below.refl _ _).alloc (Nat.le_refl _) _⟩

theorem onlyObject_any {H : Type} (r : Option Nat) (D : DataW H) (w : World) (h : MapIn w r D) :
    Calls Try.prog 16 #[.map r] w fun e w' => e = .returned (.bool (ooB D)) ∧ Below w.heap.size w w' := by
  cases r with
  | none =>
    have : D = .nil := h
    subst this
    exact onlyObject_nil w
  | some b =>
    obtain ⟨n, h⟩ := h
    exact onlyObject_some b n D w h

set_option maxHeartbeats 400000 in
theorem zzOnlyObject_any {H : Type} (r : Option Nat) (D : DataW H) (w : World) (h : MapIn w r D) :
    Calls Try.prog 9 #[.map r] w fun e w' => e = .returned (.bool (ooB D)) ∧ Below w.heap.size w w' := by
  go_enter Try.func9, Try.ntmps9
  go_wp2_with (go_at_call 16; refine (onlyObject_any r D _ h).mono ?_; rintro e w' ⟨rfl, hb⟩)
  go_ret
  exact ⟨rfl, hb⟩

/-- The closed form. -/
theorem ooB_closed {H : Type} {w : World} {r : Option Nat} {D : DataW H} (h : MapIn w r D) : ooB D = (((Maps.size D : Int) == 0) || (((Maps.size D : Int) == 1) && Maps.has D objL)) := by
  cases r with
  | none =>
    have : D = .nil := h
    subst this
    rfl
  | some b =>
    obtain ⟨n, h⟩ := h
    obtain ⟨es, rfl, hp⟩ := h.tidy law9
    match es with
    | [] => rfl
    | [x] =>
      simp [ooB, Maps.size, Maps.has]
    | x :: y :: t =>
      have hne : ((Maps.size (DataW.map (x :: y :: t)) : Int) == 0) = false := by simp [Maps.size]; omega
      have hne1 : ((Maps.size (DataW.map (x :: y :: t)) : Int) == 1) = false := by simp [Maps.size]; omega
      rw [hne, hne1]
      simp only [ooB, List.all_cons]
      have hxy : x.1 ≠ y.1 := (List.pairwise_cons.1 hp).1 y (by simp)
      cases hx : x.1.sameKey objL
      · rfl
      · cases hy : y.1.sameKey objL
        · rfl
        · exact absurd ((WideAt.sameKey_eq hx).trans (WideAt.sameKey_eq hy).symm) hxy

end Go.Proofs.Qxb6603330a
