/-
  ZZcallTimeout: walked (callTimeout walked into); the two laws' walks.
-/
import Derived.Test.Qxb6603490aRows
import Derived.WalkKit
import Derived.WalkSpells
import Derived.WalkLawsBesides
namespace Go.Proofs.Qxb6603490a
open Go.RowKit

set_option maxHeartbeats 1000000 in
theorem zz_small (x : Int) (h1 : 1 ≤ x) (h2 : x < 3) (w : World) :
    Calls Try.prog 9 #[.int .i64 x] w fun e w' => e = .returned (.int .i64 1) ∧ Grown w w' := by
  go_enter Try.func9, Try.ntmps9
  go_wp2
  go_ret
  exact ⟨rfl, (Grown.refl w).alloc _ _⟩

set_option maxHeartbeats 1000000 in
theorem zz_third (x : Int) (h1 : 3 ≤ x) (h2 : x ≤ 9223372036854775807) (w : World) :
    Calls Try.prog 9 #[.int .i64 x] w fun e w' => e = .returned (.int .i64 (x / 3)) ∧ Grown w w' := by
  go_enter Try.func9, Try.ntmps9
  go_wp2
  go_ret
  exact ⟨rfl, (Grown.refl w).alloc _ _⟩

/-- .. with the third under a name. -/
theorem zz_big (x t : Int) (h1 : 3 ≤ x) (h2 : x ≤ 9223372036854775807) (ht1 : 3 * t ≤ x) (ht2 : x ≤ 3 * t + 2) (w : World) :
    Calls Try.prog 9 #[.int .i64 x] w fun e w' => e = .returned (.int .i64 t) ∧ Grown w w' := by
  have e : x / 3 = t := by omega
  have := zz_third x h1 h2 w
  rw [e] at this
  exact this

theorem grown_trans {a b c : World} (h : Grown a b) (k : Grown b c) : Grown a c :=
  ⟨World.keptBut_trans h.1 (World.keptBut_mono (fun _ f => f.elim) k.1), fun x => (k.2.1 x).trans (h.2.1 x), Nat.le_trans h.2.2 k.2.2⟩

theorem ret_b {a : Bool} (h : a = true) : Ending.returned (.bool a) = .returned (.bool true) := by rw [h]

set_option maxHeartbeats 1000000 in
theorem third_walk (x : Int) (h0 : -9223372036854775808 ≤ x) (h2 : x ≤ 9223372036854775807) (w : World) :
    Calls Try.prog 5 #[.int .i64 x] w fun e w' => e = .returned (.bool true) ∧ Grown w w' := by
  by_cases hx1 : x < 1
  · go_enter Try.func5, Try.ntmps5
    go_wp2
    go_ret
    exact ⟨rfl, Grown.refl w⟩
  by_cases hx3 : x < 3
  · go_enter Try.func5, Try.ntmps5
    go_wp2_with fail
    refine (zz_small x (by omega) hx3 w).mono ?_
    rintro e w' ⟨rfl, hg⟩
    go_wp2
    go_ret
    exact ⟨rfl, hg⟩
  · obtain ⟨t, ht1, ht2⟩ : ∃ t : Int, 3 * t ≤ x ∧ x ≤ 3 * t + 2 := ⟨x / 3, by omega, by omega⟩
    have ht3 : 1 ≤ t := by omega
    have ht4 : t ≤ 3074457345618258602 := by omega
    go_enter Try.func5, Try.ntmps5
    go_wp2_with fail
    refine (zz_big x t (by omega) h2 ht1 ht2 w).mono ?_
    rintro e w' ⟨rfl, hg⟩
    go_wp2
    go_ret
    exact ⟨ret_b (by simp; omega), hg⟩

set_option maxHeartbeats 1000000 in
theorem grows_walk (x : Int) (h0 : -9223372036854775808 ≤ x) (h2 : x ≤ 9223372036854775807) (w : World) :
    Calls Try.prog 6 #[.int .i64 x] w fun e w' => e = .returned (.bool true) ∧ Grown w w' := by
  by_cases hx1 : x < 1
  · go_enter Try.func6, Try.ntmps6
    go_wp2
    go_ret
    exact ⟨rfl, Grown.refl w⟩
  by_cases hx9 : 9223372036854775804 < x
  · go_enter Try.func6, Try.ntmps6
    go_wp2
    go_ret
    exact ⟨rfl, Grown.refl w⟩
  by_cases hx3 : x < 3
  · have hx12 : x = 1 ∨ x = 2 := by omega
    rcases hx12 with rfl | rfl
    · go_enter Try.func6, Try.ntmps6
      go_wp2_with fail
      refine (zz_small 1 (by omega) (by omega) w).mono ?_
      rintro e w1 ⟨rfl, hg1⟩
      go_wp2_with fail
      refine (zz_big 4 1 (by omega) (by omega) (by omega) (by omega) w1).mono ?_
      rintro e w2 ⟨rfl, hg2⟩
      go_wp2_with fail
      refine (zz_small 2 (by omega) (by omega) w2).mono ?_
      rintro e w3 ⟨rfl, hg3⟩
      go_wp2
      go_ret
      exact ⟨rfl, grown_trans hg1 (grown_trans hg2 hg3)⟩
    · go_enter Try.func6, Try.ntmps6
      go_wp2_with fail
      refine (zz_small 2 (by omega) (by omega) w).mono ?_
      rintro e w1 ⟨rfl, hg1⟩
      go_wp2_with fail
      refine (zz_big 5 1 (by omega) (by omega) (by omega) (by omega) w1).mono ?_
      rintro e w2 ⟨rfl, hg2⟩
      go_wp2_with fail
      refine (zz_big 3 1 (by omega) (by omega) (by omega) (by omega) w2).mono ?_
      rintro e w3 ⟨rfl, hg3⟩
      go_wp2
      go_ret
      exact ⟨rfl, grown_trans hg1 (grown_trans hg2 hg3)⟩
  · obtain ⟨t, ht1, ht2⟩ : ∃ t : Int, 3 * t ≤ x ∧ x ≤ 3 * t + 2 := ⟨x / 3, by omega, by omega⟩
    have ht3 : 1 ≤ t := by omega
    have ht4 : t ≤ 3074457345618258602 := by omega
    by_cases hc : x ≤ 3 * t + 1
    · go_enter Try.func6, Try.ntmps6
      go_wp2_with fail
      refine (zz_big x t (by omega) h2 ht1 ht2 w).mono ?_
      rintro e w1 ⟨rfl, hg1⟩
      go_wp2_with fail
      refine (zz_big (x + 3) (t + 1) (by omega) (by omega) (by omega) (by omega) w1).mono ?_
      rintro e w2 ⟨rfl, hg2⟩
      go_wp2_with fail
      refine (zz_big (x + 1) t (by omega) (by omega) (by omega) (by omega) w2).mono ?_
      rintro e w3 ⟨rfl, hg3⟩
      go_wp2
      go_ret
      exact ⟨ret_b (by simp), grown_trans hg1 (grown_trans hg2 hg3)⟩
    · go_enter Try.func6, Try.ntmps6
      go_wp2_with fail
      refine (zz_big x t (by omega) h2 ht1 ht2 w).mono ?_
      rintro e w1 ⟨rfl, hg1⟩
      go_wp2_with fail
      refine (zz_big (x + 3) (t + 1) (by omega) (by omega) (by omega) (by omega) w1).mono ?_
      rintro e w2 ⟨rfl, hg2⟩
      go_wp2_with fail
      refine (zz_big (x + 1) (t + 1) (by omega) (by omega) (by omega) (by omega) w2).mono ?_
      rintro e w3 ⟨rfl, hg3⟩
      have hne : ((t + 1 : Int) == t) = false := beq_eq_false_iff_ne.2 (by omega)
      go_wp2
      go_ret
      exact ⟨ret_b (by simp), grown_trans hg1 (grown_trans hg2 hg3)⟩

end Go.Proofs.Qxb6603490a
