/-
  The values: rows of bytes of their own; bytesEqual of one with itself.
-/
import Derived.Test.Qxb6603483aModel
namespace Go.Proofs.Qxb6603483a
open Go.RowKit
set_option linter.unusedSimpArgs false
attribute [local go_sem ↓] Go.wp_at_zero Go.wp_at_succ

/-- The bytes of a value lie in a block of their own, or there are none. -/
def ValAt (w : World) (va : Option Addr) (vn vc : Nat) : Prop :=
  (va = none ∧ vn = 0 ∧ vc = 0) ∨ ∃ (g : Nat) (bs : List Int), va = some ⟨g, 0, none⟩ ∧ vn = bs.length ∧ vn ≤ 2000000 ∧ w.heap[g]? = some (.cells (bs.map (Value.int .u8)).toArray 5 (0, 0))

theorem ValAt.grew {w w' : World} {va : Option Addr} {vn vc : Nat} (h : ValAt w va vn vc) (hk : ∀ g cs, va = some ⟨g, 0, none⟩ → w.heap[g]? = some (.cells cs 5 (0, 0)) → w'.heap[g]? = some (.cells cs 5 (0, 0))) : ValAt w' va vn vc := by
  rcases h with h | ⟨g, bs, h1, h2, h3, h4⟩
  · exact Or.inl h
  · exact Or.inr ⟨g, bs, h1, h2, h3, hk g _ h1 h4⟩

set_option maxRecDepth 100000 in
set_option maxHeartbeats 1000000 in
theorem beq12 {w : World} {va : Option Addr} {vn vc : Nat} (h : ValAt w va vn vc) :
    Calls Try.prog 12 #[.slice va vn vc, .slice va vn vc] w fun r w' => r = .returned (.bool true) ∧ Chg0 w w' := by
  have Hv := hide h
  have hvn : vn ≤ 2000000 := by
    rcases h with ⟨_, h, _⟩ | ⟨_, _, _, _, h, _⟩
    · omega
    · exact h
  clear h
  go_enter Try.func12, Try.ntmps12
  go_wp2
  go_loopg [5] vn (fun kx s5 wr => ∃ i : Nat, s5 = .int .i64 i ∧ i ≤ vn ∧ vn - i ≤ kx ∧ Chg0 w wr)
  case atStart => exact ⟨0, rfl, Nat.zero_le _, by omega, Chg.refl _ _⟩
  case round =>
    obtain ⟨i, rfl, hin, hkx, hcr⟩ := hrel
    by_cases hlt : i < vn
    · have hlt' : (i : Int) < (vn : Int) := by omega
      obtain ⟨g, hg, x, hx⟩ : ∃ g, va = some ⟨g, 0, none⟩ ∧ ∃ x, wr.cell? ⟨g, i, none⟩ = some (.int .u8 x) := by
        rcases Hv.out with ⟨_, h, _⟩ | ⟨g, bs, h1, h2, h3, h4⟩
        · omega
        · refine ⟨g, h1, bs[i]'(by omega), ?_⟩
          rw [cell_blk (hcr.blk h4) i]
          simp [h2 ▸ hlt]
      subst hg
      have hix : ∀ w', (Instr.indexAt 29 (.slice (some ⟨g, 0, none⟩) vn vc) (.int .i64 (i : Int))).run Try.prog w' = .ok (.pointer (some ⟨g, i, none⟩)) w' :=
        fun w' => by have := run_ix (P := Try.prog) 29 1 g vn vc i (i : Int) rfl hlt Try.underlying29 (fun _ => by kernel_rfl) w'; rw [Nat.mul_one] at this; exact this
      go_wp2
      go_region_held3 (fun w' => w'.cell? ⟨g, i, none⟩ = some (.int .u8 x)) (exact hx) (fail)
      go_wp2
      go_roundg (vn - (i + 1))
      case measure => omega
      case rel => exact ⟨i + 1, rfl, by omega, Nat.le_refl _, hcr.drew⟩
    · have hlt' : ¬ (i : Int) < (vn : Int) := by omega
      go_wp2
      go_ret
      exact ⟨rfl, hcr⟩

end Go.Proofs.Qxb6603483a
