/-
  The comparison of entries; sort.Search; find: walked.
-/
import Derived.Test.Qxb6603483aPool
import Derived.Test.Qxb6603483aOrd
import Derived.Deep.LoopGhost
import Derived.Deep.RegionHeld3
import Derived.Deep.RegionLaw
import Derived.Deep.DeepCutAuto
import Derived.Deep.DrawnRows
import Derived.Deep.QuietTactic
import Derived.BigQuiet
namespace Go.Proofs.Qxb6603483a
open Go.RowKit
set_option linter.unusedSimpArgs false
attribute [local go_sem ↓] Go.wp_at_zero Go.wp_at_succ

/-- Nothing of old has turned. -/
abbrev Chg0 (w w' : World) : Prop := Chg (fun _ => 0) w w'

theorem Chg0.cell {w w' : World} (h : Chg0 w w') {a : Addr} {v : Value} (hc : w.cell? a = some v) : w'.cell? a = some v := by
  have hb := World.block_lt_of_cell? _ _ hc
  rw [World.cell?_of_block (h.same a.block hb rfl)]
  exact hc
theorem Chg0.blk {w w' : World} (h : Chg0 w w') {k : Nat} {o : Obj} (hc : w.heap[k]? = some o) : w'.heap[k]? = some o :=
  (h.same k (Array.getElem?_eq_some_iff.1 hc).1 rfl).trans hc

theorem less29 (w : World) (a b : Ent) :
    Calls Try.prog 29 #[a.v, b.v] w fun r w' => r = .returned (.bool (klt a.key b.key)) ∧ Chg0 w w' := by
  unfold Ent.v klt
  go_enter Try.func29, Try.ntmps29
  go_wp2
  go_ret
  exact ⟨rfl, ((Chg.refl _ w).alloc _).alloc _⟩

set_option maxRecDepth 100000 in
set_option maxHeartbeats 1000000 in
theorem find1 {W : World} {bl be bi g n cap i : Nat} {e x : Ent} (hl : W.cell? ⟨bl, 0, none⟩ = some lessV) (he : W.heap[be]? = some (.cells #[.string e.key, .int .u64 e.ver, .slice e.va e.vn e.vc] 33 (0, 0)))
    (hi : W.cell? ⟨bi, 0, none⟩ = some (.slice (some ⟨g, 0, none⟩) n cap)) (x0 : W.cell? ⟨g, i * 3, none⟩ = some (.string x.key)) (x1 : W.cell? ⟨g, i * 3 + 1, none⟩ = some (.int .u64 x.ver)) (x2 : W.cell? ⟨g, i * 3 + 2, none⟩ = some (.slice x.va x.vn x.vc)) (hin : i < n) :
    Calls Try.prog 54 (#[.int .i64 i] ++ #[.pointer (some ⟨bl, 0, none⟩), .pointer (some ⟨be, 0, none⟩), .pointer (some ⟨bi, 0, none⟩)]) W fun r w' => r = .returned (.bool (klt e.key x.key)) ∧ Chg0 W w' := by
  have e0 : W.cell? ⟨be, 0, none⟩ = some (.string e.key) := cell_blk he 0
  have e1 : W.cell? ⟨be, 1, none⟩ = some (.int .u64 e.ver) := cell_blk he 1
  have e2 : W.cell? ⟨be, 2, none⟩ = some (.slice e.va e.vn e.vc) := cell_blk he 2
  have hix : ∀ w', (Instr.indexAt 102 (.slice (some ⟨g, 0, none⟩) n cap) (.int .i64 (i : Int))).run Try.prog w' = .ok (.pointer (some ⟨g, i * 3, none⟩)) w' :=
    fun w' => run_ix (P := Try.prog) 102 3 g n cap i (i : Int) rfl hin Try.underlying102 (fun _ => by kernel_rfl) w'
  clear he hin
  unfold lessV at hl
  go_enter Try.func54, Try.ntmps54
  go_wp2
  go_region_held3 (fun w' => w'.cell? ⟨bl, 0, none⟩ = some (.func (.func 29) #[] #[]) ∧ w'.cell? ⟨be, 0, none⟩ = some (.string e.key) ∧ w'.cell? ⟨be, 1, none⟩ = some (.int .u64 e.ver) ∧ w'.cell? ⟨be, 2, none⟩ = some (.slice e.va e.vn e.vc) ∧
      w'.cell? ⟨bi, 0, none⟩ = some (.slice (some ⟨g, 0, none⟩) n cap) ∧ w'.cell? ⟨g, i * 3, none⟩ = some (.string x.key) ∧ w'.cell? ⟨g, i * 3 + 1, none⟩ = some (.int .u64 x.ver) ∧ w'.cell? ⟨g, i * 3 + 2, none⟩ = some (.slice x.va x.vn x.vc))
    (first | exact ⟨hl, e0, e1, e2, hi, x0, x1, x2⟩ | exact ⟨Chg0.cell hc hl, Chg0.cell hc e0, Chg0.cell hc e1, Chg0.cell hc e2, Chg0.cell hc hi, Chg0.cell hc x0, Chg0.cell hc x1, Chg0.cell hc x2⟩)
    ((go_at_call 29; refine (less29 _ e x).mono ?_; rintro _ w' ⟨rfl, hc⟩))
  all_goals go_wp2
  all_goals go_ret
  all_goals exact ⟨rfl, (Chg.refl _ W).drew.trans hc⟩

set_option maxRecDepth 100000 in
set_option maxHeartbeats 1000000 in
/-- sort.Search at the closure of find. -/
theorem search53 (cb : Array Value) (n : Nat) (p : Nat → Bool) (w : World) (hn : n ≤ 100000)
    (hf : ∀ i w', i < n → Chg0 w w' → Calls Try.prog 54 (#[.int .i64 i] ++ cb) w' fun r w'' => r = .returned (.bool (p i)) ∧ Chg0 w' w'')
    (hmono : ∀ a b, a ≤ b → b < n → p a = true → p b = true) :
    Calls Try.prog 53 #[.int .i64 n, .func (.func 54) #[] cb] w fun r w' => ∃ k : Nat, r = .returned (.int .i64 k) ∧ k ≤ n ∧ (∀ t, t < k → p t = false) ∧ (∀ t, k ≤ t → t < n → p t = true) ∧ Chg0 w w' := by
  have HF := hide hf
  have M := hide hmono
  clear hf hmono
  go_enter Try.func53, Try.ntmps53
  go_wp2
  go_loopg [5, 6] n (fun kx s5 s6 wr => ∃ (lo hi : Nat), s5 = .int .i64 lo ∧ s6 = .int .i64 hi ∧ lo ≤ hi ∧ hi ≤ n ∧ hi - lo ≤ kx ∧ Chg0 w wr ∧
    Hid ((∀ t, t < lo → p t = false) ∧ (∀ t, hi ≤ t → t < n → p t = true)))
  case atStart => exact ⟨0, n, rfl, rfl, Nat.zero_le _, Nat.le_refl _, by omega, Chg.refl _ _, (⟨fun t ht => absurd ht (Nat.not_lt_zero _), fun t h1 h2 => by omega⟩ : (∀ t, t < 0 → p t = false) ∧ (∀ t, n ≤ t → t < n → p t = true))⟩
  case round =>
    obtain ⟨lo, hi, rfl, rfl, hlh, hin, hg, hch, I⟩ := hrel
    by_cases hlt : lo < hi
    · have hc := HF.out ((lo + hi) / 2) wr (by omega) hch
      rw [show (((lo + hi) / 2 : Nat) : Int) = ((lo : Int) + (hi : Int)) / 2 by omega] at hc
      cases hp : p ((lo + hi) / 2) <;> rw [hp] at hc
      · have HP := hide hp
        clear hp
        go_wp2_with (go_at_call 54; refine hc.mono ?_; rintro e w' ⟨rfl, hc2⟩)
        go_roundg (hi - ((lo + hi) / 2 + 1))
        case measure => omega
        case rel =>
          have I2 : Hid ((∀ t, t < (lo + hi) / 2 + 1 → p t = false) ∧ (∀ t, hi ≤ t → t < n → p t = true)) := ⟨fun t ht => (by
            cases h : p t with
            | false => rfl
            | true => have := M.out t ((lo + hi) / 2) (by omega) (by omega) h; rw [HP.out] at this; cases this), I.out.2⟩
          exact ⟨(lo + hi) / 2 + 1, hi, by rw [show ((lo : Int) + (hi : Int)) / 2 + 1 = (((lo + hi) / 2 + 1 : Nat) : Int) by omega], rfl, by omega, hin, Nat.le_refl _, hch.trans hc2, I2⟩
      · have HP := hide hp
        clear hp
        go_wp2_with (go_at_call 54; refine hc.mono ?_; rintro e w' ⟨rfl, hc2⟩)
        go_roundg ((lo + hi) / 2 - lo)
        case measure => omega
        case rel =>
          have I2 : Hid ((∀ t, t < lo → p t = false) ∧ (∀ t, (lo + hi) / 2 ≤ t → t < n → p t = true)) := ⟨I.out.1, fun t ht htn => M.out ((lo + hi) / 2) t ht htn HP.out⟩
          exact ⟨lo, (lo + hi) / 2, rfl, by rw [show ((lo : Int) + (hi : Int)) / 2 = (((lo + hi) / 2 : Nat) : Int) by omega], by omega, by omega, Nat.le_refl _, hch.trans hc2, I2⟩
    · have e : hi = lo := by omega
      subst e
      go_wp2
      go_ret
      exact ⟨hi, rfl, hin, I.out.1, I.out.2, hch⟩

end Go.Proofs.Qxb6603483a
