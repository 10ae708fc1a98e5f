/-
  scalarType: walked.
-/
import Derived.Test.Qxb6603330aMaps
namespace Go.Proofs.Qxb6603330a
open Go.RowKit Go.Maps Go.WideMaps

/-- "string", "number", "integer", "boolean". -/
def sS : List UInt8 := [115, 116, 114, 105, 110, 103]
def sN : List UInt8 := [110, 117, 109, 98, 101, 114]
def sI : List UInt8 := [105, 110, 116, 101, 103, 101, 114]
def sB : List UInt8 := [98, 111, 111, 108, 101, 97, 110]

theorem look_alloc {H : Type} {r : Option Nat} {D : DataW H} {w : World} (h : MapIn w r D) (l : List UInt8) (hl : l.length ≤ maxLen) {b : Bool} (hb : bget D l = b) (cs : Array Value) (t : TypeId) :
    (Instr.lookup 22 (.map r) (.string ⟨l.toArray⟩) false).run Try.prog (w.alloc (.cells cs t)) = .ok (.bool b) (w.alloc (.cells cs t)) := by
  have := (h.later ((Below.refl _ w).alloc (Nat.le_refl _) (.cells cs t))).look ⟨l.toArray⟩ (by simpa [ByteArray.size] using hl)
  rw [this]
  simp [hb]

set_option maxHeartbeats 400000 in
theorem scalar_S {H : Type} (r : Option Nat) (D : DataW H) (w : World) (h : MapIn w r D) (b1 : bget D sS = true) :
    Calls Try.prog 18 #[.map r] w fun e w' => e = .returned (.string ⟨#[115, 116, 114, 105, 110, 103]⟩) ∧ Below w.heap.size w w' := by
  have l1 : ∀ cs t, (Instr.lookup 22 (.map r) (.string ⟨#[115, 116, 114, 105, 110, 103]⟩) false).run Try.prog (w.alloc (.cells cs t)) = .ok (.bool true) (w.alloc (.cells cs t)) := look_alloc h sS (by decide) b1
  clear b1
  go_enter Try.func18, Try.ntmps18
  go_wp2
  refine wp_loop_rounds 1 ?_
  rw [rounds_succ]
  go_wp2
  go_ret
  exact ⟨rfl, (Below.refl _ _).alloc (Nat.le_refl _) _⟩

set_option maxHeartbeats 400000 in
theorem scalar_N {H : Type} (r : Option Nat) (D : DataW H) (w : World) (h : MapIn w r D) (b1 : bget D sS = false) (b2 : bget D sN = true) :
    Calls Try.prog 18 #[.map r] w fun e w' => e = .returned (.string ⟨#[110, 117, 109, 98, 101, 114]⟩) ∧ Below w.heap.size w w' := by
  have l1 : ∀ cs t, (Instr.lookup 22 (.map r) (.string ⟨#[115, 116, 114, 105, 110, 103]⟩) false).run Try.prog (w.alloc (.cells cs t)) = .ok (.bool false) (w.alloc (.cells cs t)) := look_alloc h sS (by decide) b1
  have l2 : ∀ cs t, (Instr.lookup 22 (.map r) (.string ⟨#[110, 117, 109, 98, 101, 114]⟩) false).run Try.prog (w.alloc (.cells cs t)) = .ok (.bool true) (w.alloc (.cells cs t)) := look_alloc h sN (by decide) b2
  clear b1 b2
  go_enter Try.func18, Try.ntmps18
  go_wp2
  refine wp_loop_rounds 2 ?_
  rw [rounds_succ]
  go_wp2
  rw [rounds_succ]
  go_wp2
  go_ret
  exact ⟨rfl, (Below.refl _ _).alloc (Nat.le_refl _) _⟩

set_option maxHeartbeats 400000 in
theorem scalar_I {H : Type} (r : Option Nat) (D : DataW H) (w : World) (h : MapIn w r D) (b1 : bget D sS = false) (b2 : bget D sN = false) (b3 : bget D sI = true) :
    Calls Try.prog 18 #[.map r] w fun e w' => e = .returned (.string ⟨#[105, 110, 116, 101, 103, 101, 114]⟩) ∧ Below w.heap.size w w' := by
  have l1 : ∀ cs t, (Instr.lookup 22 (.map r) (.string ⟨#[115, 116, 114, 105, 110, 103]⟩) false).run Try.prog (w.alloc (.cells cs t)) = .ok (.bool false) (w.alloc (.cells cs t)) := look_alloc h sS (by decide) b1
  have l2 : ∀ cs t, (Instr.lookup 22 (.map r) (.string ⟨#[110, 117, 109, 98, 101, 114]⟩) false).run Try.prog (w.alloc (.cells cs t)) = .ok (.bool false) (w.alloc (.cells cs t)) := look_alloc h sN (by decide) b2
  have l3 : ∀ cs t, (Instr.lookup 22 (.map r) (.string ⟨#[105, 110, 116, 101, 103, 101, 114]⟩) false).run Try.prog (w.alloc (.cells cs t)) = .ok (.bool true) (w.alloc (.cells cs t)) := look_alloc h sI (by decide) b3
  clear b1 b2 b3
  go_enter Try.func18, Try.ntmps18
  go_wp2
  refine wp_loop_rounds 3 ?_
  rw [rounds_succ]
  go_wp2
  rw [rounds_succ]
  go_wp2
  rw [rounds_succ]
  go_wp2
  go_ret
  exact ⟨rfl, (Below.refl _ _).alloc (Nat.le_refl _) _⟩

set_option maxHeartbeats 400000 in
theorem scalar_B {H : Type} (r : Option Nat) (D : DataW H) (w : World) (h : MapIn w r D) (b1 : bget D sS = false) (b2 : bget D sN = false) (b3 : bget D sI = false) (b4 : bget D sB = true) :
    Calls Try.prog 18 #[.map r] w fun e w' => e = .returned (.string ⟨#[98, 111, 111, 108, 101, 97, 110]⟩) ∧ Below w.heap.size w w' := by
  have l1 : ∀ cs t, (Instr.lookup 22 (.map r) (.string ⟨#[115, 116, 114, 105, 110, 103]⟩) false).run Try.prog (w.alloc (.cells cs t)) = .ok (.bool false) (w.alloc (.cells cs t)) := look_alloc h sS (by decide) b1
  have l2 : ∀ cs t, (Instr.lookup 22 (.map r) (.string ⟨#[110, 117, 109, 98, 101, 114]⟩) false).run Try.prog (w.alloc (.cells cs t)) = .ok (.bool false) (w.alloc (.cells cs t)) := look_alloc h sN (by decide) b2
  have l3 : ∀ cs t, (Instr.lookup 22 (.map r) (.string ⟨#[105, 110, 116, 101, 103, 101, 114]⟩) false).run Try.prog (w.alloc (.cells cs t)) = .ok (.bool false) (w.alloc (.cells cs t)) := look_alloc h sI (by decide) b3
  have l4 : ∀ cs t, (Instr.lookup 22 (.map r) (.string ⟨#[98, 111, 111, 108, 101, 97, 110]⟩) false).run Try.prog (w.alloc (.cells cs t)) = .ok (.bool true) (w.alloc (.cells cs t)) := look_alloc h sB (by decide) b4
  clear b1 b2 b3 b4
  go_enter Try.func18, Try.ntmps18
  go_wp2
  refine wp_loop_rounds 4 ?_
  rw [rounds_succ]
  go_wp2
  rw [rounds_succ]
  go_wp2
  rw [rounds_succ]
  go_wp2
  rw [rounds_succ]
  go_wp2
  go_ret
  exact ⟨rfl, (Below.refl _ _).alloc (Nat.le_refl _) _⟩

set_option maxHeartbeats 400000 in
theorem scalar_none {H : Type} (r : Option Nat) (D : DataW H) (w : World) (h : MapIn w r D) (b1 : bget D sS = false) (b2 : bget D sN = false) (b3 : bget D sI = false) (b4 : bget D sB = false) :
    Calls Try.prog 18 #[.map r] w fun e w' => e = .returned (.string ⟨#[]⟩) ∧ Below w.heap.size w w' := by
  have l1 : ∀ cs t, (Instr.lookup 22 (.map r) (.string ⟨#[115, 116, 114, 105, 110, 103]⟩) false).run Try.prog (w.alloc (.cells cs t)) = .ok (.bool false) (w.alloc (.cells cs t)) := look_alloc h sS (by decide) b1
  have l2 : ∀ cs t, (Instr.lookup 22 (.map r) (.string ⟨#[110, 117, 109, 98, 101, 114]⟩) false).run Try.prog (w.alloc (.cells cs t)) = .ok (.bool false) (w.alloc (.cells cs t)) := look_alloc h sN (by decide) b2
  have l3 : ∀ cs t, (Instr.lookup 22 (.map r) (.string ⟨#[105, 110, 116, 101, 103, 101, 114]⟩) false).run Try.prog (w.alloc (.cells cs t)) = .ok (.bool false) (w.alloc (.cells cs t)) := look_alloc h sI (by decide) b3
  have l4 : ∀ cs t, (Instr.lookup 22 (.map r) (.string ⟨#[98, 111, 111, 108, 101, 97, 110]⟩) false).run Try.prog (w.alloc (.cells cs t)) = .ok (.bool false) (w.alloc (.cells cs t)) := look_alloc h sB (by decide) b4
  clear b1 b2 b3 b4
  go_enter Try.func18, Try.ntmps18
  go_wp2
  refine wp_loop_rounds 5 ?_
  rw [rounds_succ]
  go_wp2
  rw [rounds_succ]
  go_wp2
  rw [rounds_succ]
  go_wp2
  rw [rounds_succ]
  go_wp2
  rw [rounds_succ]
  go_wp2
  go_ret
  exact ⟨rfl, (Below.refl _ _).alloc (Nat.le_refl _) _⟩

end Go.Proofs.Qxb6603330a
