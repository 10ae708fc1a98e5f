/-
  FnScalarTypeMostGeneral: walked, one walk a value of scalarType; the row.
-/
import Derived.Test.Qxb6603330aScalar
import Derived.Test.Qxb6603330aOpen
namespace Go.Proofs.Qxb6603330a
open Go.RowKit Go.Maps Go.WideMaps
open Go.ChangeShapes Go.WideShapes Go.ChangeAt Go.WideElems

theorem bcell {W w1 : World} (hb : Below W.heap.size W w1) : (∀ b o, b < W.heap.size → w1.cell? ⟨b, o, none⟩ = W.cell? ⟨b, o, none⟩) ∧ (∀ b o, b < W.heap.size → w1.frozen? ⟨b, o, none⟩ = W.frozen? ⟨b, o, none⟩) :=
  ⟨fun b o h => hb.cell (p := ⟨b, o, none⟩) h, fun b o h => hb.frozen (p := ⟨b, o, none⟩) h⟩

theorem look_any {H : Type} {r : Option Nat} {D : DataW H} {w : World} (h : MapIn w r D) (l : List UInt8) (hl : l.length ≤ maxLen) {b : Bool} (hb : bget D l = b) :
    (Instr.lookup 22 (.map r) (.string ⟨l.toArray⟩) false).run Try.prog w = .ok (.bool b) w := by
  have := h.look ⟨l.toArray⟩ (by simpa [ByteArray.size] using hl)
  rw [this]
  simp [hb]

theorem below_one {w w1 : World} {o : Obj} (hb : Below (w.alloc o).heap.size (w.alloc o) w1) : Below w.heap.size w w1 :=
  ((Below.refl _ w).alloc (Nat.le_refl _) o).trans (hb.mono (by simp))

set_option maxHeartbeats 400000 in
theorem zzScalar_S {H : Type} (r : Option Nat) (D : DataW H) (w : World) (h : MapIn w r D) (b1 : bget D sS = true) :
    Calls Try.prog 14 #[.map r] w fun e w' => e = .returned (.string ⟨#[115, 116, 114, 105, 110, 103]⟩) ∧ Below w.heap.size w w' := by
  go_enter Try.func14, Try.ntmps14
  go_wp2_with (go_at_call 18; refine (scalar_S r D _ h b1).mono ?_; rintro e w' ⟨rfl, hb⟩)
  go_ret
  exact ⟨rfl, hb⟩

set_option maxHeartbeats 400000 in
theorem zzScalar_N {H : Type} (r : Option Nat) (D : DataW H) (w : World) (h : MapIn w r D) (b1 : bget D sS = false) (b2 : bget D sN = true) :
    Calls Try.prog 14 #[.map r] w fun e w' => e = .returned (.string ⟨#[110, 117, 109, 98, 101, 114]⟩) ∧ Below w.heap.size w w' := by
  go_enter Try.func14, Try.ntmps14
  go_wp2_with (go_at_call 18; refine (scalar_N r D _ h b1 b2).mono ?_; rintro e w' ⟨rfl, hb⟩)
  go_ret
  exact ⟨rfl, hb⟩

set_option maxHeartbeats 400000 in
theorem zzScalar_I {H : Type} (r : Option Nat) (D : DataW H) (w : World) (h : MapIn w r D) (b1 : bget D sS = false) (b2 : bget D sN = false) (b3 : bget D sI = true) :
    Calls Try.prog 14 #[.map r] w fun e w' => e = .returned (.string ⟨#[105, 110, 116, 101, 103, 101, 114]⟩) ∧ Below w.heap.size w w' := by
  go_enter Try.func14, Try.ntmps14
  go_wp2_with (go_at_call 18; refine (scalar_I r D _ h b1 b2 b3).mono ?_; rintro e w' ⟨rfl, hb⟩)
  go_ret
  exact ⟨rfl, hb⟩

set_option maxHeartbeats 400000 in
theorem zzScalar_B {H : Type} (r : Option Nat) (D : DataW H) (w : World) (h : MapIn w r D) (b1 : bget D sS = false) (b2 : bget D sN = false) (b3 : bget D sI = false) (b4 : bget D sB = true) :
    Calls Try.prog 14 #[.map r] w fun e w' => e = .returned (.string ⟨#[98, 111, 111, 108, 101, 97, 110]⟩) ∧ Below w.heap.size w w' := by
  go_enter Try.func14, Try.ntmps14
  go_wp2_with (go_at_call 18; refine (scalar_B r D _ h b1 b2 b3 b4).mono ?_; rintro e w' ⟨rfl, hb⟩)
  go_ret
  exact ⟨rfl, hb⟩

set_option maxHeartbeats 400000 in
theorem zzScalar_none {H : Type} (r : Option Nat) (D : DataW H) (w : World) (h : MapIn w r D) (b1 : bget D sS = false) (b2 : bget D sN = false) (b3 : bget D sI = false) (b4 : bget D sB = false) :
    Calls Try.prog 14 #[.map r] w fun e w' => e = .returned (.string ⟨#[]⟩) ∧ Below w.heap.size w w' := by
  go_enter Try.func14, Try.ntmps14
  go_wp2_with (go_at_call 18; refine (scalar_none r D _ h b1 b2 b3 b4).mono ?_; rintro e w' ⟨rfl, hb⟩)
  go_ret
  exact ⟨rfl, hb⟩

set_option maxHeartbeats 1000000 in
theorem most_S {H : Type} (r : Option Nat) (D : DataW H) (w : World) (h : MapIn w r D) (hn : (Maps.size D : Int) ≤ 65536) (b1 : bget D sS = true) :
    Calls Try.prog 7 #[.map r] w fun e w' => e = .returned (.bool true) ∧ Below w.heap.size w w' := by
  have hlen := h.len
  go_enter Try.func7, Try.ntmps7
  go_wp2_with fail
  refine (zzScalar_S r D _ (h.later ((Below.refl _ w).alloc (Nat.le_refl _) _)) b1).mono ?_
  rintro e w1 ⟨rfl, hb⟩
  have hm1 := h.later (below_one hb)
  have l1 : (Instr.lookup 22 (.map r) (.string ⟨#[115, 116, 114, 105, 110, 103]⟩) false).run Try.prog w1 = .ok (.bool true) w1 := look_any hm1 sS (by decide) b1
  have hfin := below_one hb
  obtain ⟨hc, hf⟩ := bcell hb
  clear b1 hb hm1 hlen
  go_wp2
  refine wp_loop_rounds 5 ?_
  rw [rounds_succ]
  go_wp2
  rw [rounds_succ]
  go_wp2
  rw [rounds_succ]
  go_wp2
  rw [rounds_succ]
  go_wp2
  rw [rounds_succ]
  go_wp2
  go_ret
  exact ⟨rfl, hfin⟩

set_option maxHeartbeats 1000000 in
theorem most_N {H : Type} (r : Option Nat) (D : DataW H) (w : World) (h : MapIn w r D) (hn : (Maps.size D : Int) ≤ 65536) (b1 : bget D sS = false) (b2 : bget D sN = true) :
    Calls Try.prog 7 #[.map r] w fun e w' => e = .returned (.bool true) ∧ Below w.heap.size w w' := by
  have hlen := h.len
  go_enter Try.func7, Try.ntmps7
  go_wp2_with fail
  refine (zzScalar_N r D _ (h.later ((Below.refl _ w).alloc (Nat.le_refl _) _)) b1 b2).mono ?_
  rintro e w1 ⟨rfl, hb⟩
  have hm1 := h.later (below_one hb)
  have l1 : (Instr.lookup 22 (.map r) (.string ⟨#[115, 116, 114, 105, 110, 103]⟩) false).run Try.prog w1 = .ok (.bool false) w1 := look_any hm1 sS (by decide) b1
  have l2 : (Instr.lookup 22 (.map r) (.string ⟨#[110, 117, 109, 98, 101, 114]⟩) false).run Try.prog w1 = .ok (.bool true) w1 := look_any hm1 sN (by decide) b2
  have hfin := below_one hb
  obtain ⟨hc, hf⟩ := bcell hb
  clear b1 b2 hb hm1 hlen
  go_wp2
  refine wp_loop_rounds 5 ?_
  rw [rounds_succ]
  go_wp2
  rw [rounds_succ]
  go_wp2
  rw [rounds_succ]
  go_wp2
  rw [rounds_succ]
  go_wp2
  rw [rounds_succ]
  go_wp2
  go_ret
  exact ⟨rfl, hfin⟩

set_option maxHeartbeats 1000000 in
theorem most_I {H : Type} (r : Option Nat) (D : DataW H) (w : World) (h : MapIn w r D) (hn : (Maps.size D : Int) ≤ 65536) (b1 : bget D sS = false) (b2 : bget D sN = false) (b3 : bget D sI = true) :
    Calls Try.prog 7 #[.map r] w fun e w' => e = .returned (.bool true) ∧ Below w.heap.size w w' := by
  have hlen := h.len
  go_enter Try.func7, Try.ntmps7
  go_wp2_with fail
  refine (zzScalar_I r D _ (h.later ((Below.refl _ w).alloc (Nat.le_refl _) _)) b1 b2 b3).mono ?_
  rintro e w1 ⟨rfl, hb⟩
  have hm1 := h.later (below_one hb)
  have l1 : (Instr.lookup 22 (.map r) (.string ⟨#[115, 116, 114, 105, 110, 103]⟩) false).run Try.prog w1 = .ok (.bool false) w1 := look_any hm1 sS (by decide) b1
  have l2 : (Instr.lookup 22 (.map r) (.string ⟨#[110, 117, 109, 98, 101, 114]⟩) false).run Try.prog w1 = .ok (.bool false) w1 := look_any hm1 sN (by decide) b2
  have l3 : (Instr.lookup 22 (.map r) (.string ⟨#[105, 110, 116, 101, 103, 101, 114]⟩) false).run Try.prog w1 = .ok (.bool true) w1 := look_any hm1 sI (by decide) b3
  have hfin := below_one hb
  obtain ⟨hc, hf⟩ := bcell hb
  clear b1 b2 b3 hb hm1 hlen
  go_wp2
  refine wp_loop_rounds 5 ?_
  rw [rounds_succ]
  go_wp2
  rw [rounds_succ]
  go_wp2
  rw [rounds_succ]
  go_wp2
  rw [rounds_succ]
  go_wp2
  rw [rounds_succ]
  go_wp2
  go_ret
  exact ⟨rfl, hfin⟩

set_option maxHeartbeats 1000000 in
theorem most_B {H : Type} (r : Option Nat) (D : DataW H) (w : World) (h : MapIn w r D) (hn : (Maps.size D : Int) ≤ 65536) (b1 : bget D sS = false) (b2 : bget D sN = false) (b3 : bget D sI = false) (b4 : bget D sB = true) :
    Calls Try.prog 7 #[.map r] w fun e w' => e = .returned (.bool true) ∧ Below w.heap.size w w' := by
  have hlen := h.len
  go_enter Try.func7, Try.ntmps7
  go_wp2_with fail
  refine (zzScalar_B r D _ (h.later ((Below.refl _ w).alloc (Nat.le_refl _) _)) b1 b2 b3 b4).mono ?_
  rintro e w1 ⟨rfl, hb⟩
  have hm1 := h.later (below_one hb)
  have l1 : (Instr.lookup 22 (.map r) (.string ⟨#[115, 116, 114, 105, 110, 103]⟩) false).run Try.prog w1 = .ok (.bool false) w1 := look_any hm1 sS (by decide) b1
  have l2 : (Instr.lookup 22 (.map r) (.string ⟨#[110, 117, 109, 98, 101, 114]⟩) false).run Try.prog w1 = .ok (.bool false) w1 := look_any hm1 sN (by decide) b2
  have l3 : (Instr.lookup 22 (.map r) (.string ⟨#[105, 110, 116, 101, 103, 101, 114]⟩) false).run Try.prog w1 = .ok (.bool false) w1 := look_any hm1 sI (by decide) b3
  have l4 : (Instr.lookup 22 (.map r) (.string ⟨#[98, 111, 111, 108, 101, 97, 110]⟩) false).run Try.prog w1 = .ok (.bool true) w1 := look_any hm1 sB (by decide) b4
  have hfin := below_one hb
  obtain ⟨hc, hf⟩ := bcell hb
  clear b1 b2 b3 b4 hb hm1 hlen
  go_wp2
  refine wp_loop_rounds 5 ?_
  rw [rounds_succ]
  go_wp2
  rw [rounds_succ]
  go_wp2
  rw [rounds_succ]
  go_wp2
  rw [rounds_succ]
  go_wp2
  rw [rounds_succ]
  go_wp2
  go_ret
  exact ⟨rfl, hfin⟩

set_option maxHeartbeats 1000000 in
theorem most_none {H : Type} (r : Option Nat) (D : DataW H) (w : World) (h : MapIn w r D) (hn : (Maps.size D : Int) ≤ 65536) (b1 : bget D sS = false) (b2 : bget D sN = false) (b3 : bget D sI = false) (b4 : bget D sB = false) :
    Calls Try.prog 7 #[.map r] w fun e w' => e = .returned (.bool true) ∧ Below w.heap.size w w' := by
  have hlen := h.len
  go_enter Try.func7, Try.ntmps7
  go_wp2_with fail
  refine (zzScalar_none r D _ (h.later ((Below.refl _ w).alloc (Nat.le_refl _) _)) b1 b2 b3 b4).mono ?_
  rintro e w1 ⟨rfl, hb⟩
  have hm1 := h.later (below_one hb)
  have l1 : (Instr.lookup 22 (.map r) (.string ⟨#[115, 116, 114, 105, 110, 103]⟩) false).run Try.prog w1 = .ok (.bool false) w1 := look_any hm1 sS (by decide) b1
  have l2 : (Instr.lookup 22 (.map r) (.string ⟨#[110, 117, 109, 98, 101, 114]⟩) false).run Try.prog w1 = .ok (.bool false) w1 := look_any hm1 sN (by decide) b2
  have l3 : (Instr.lookup 22 (.map r) (.string ⟨#[105, 110, 116, 101, 103, 101, 114]⟩) false).run Try.prog w1 = .ok (.bool false) w1 := look_any hm1 sI (by decide) b3
  have l4 : (Instr.lookup 22 (.map r) (.string ⟨#[98, 111, 111, 108, 101, 97, 110]⟩) false).run Try.prog w1 = .ok (.bool false) w1 := look_any hm1 sB (by decide) b4
  have hfin := below_one hb
  obtain ⟨hc, hf⟩ := bcell hb
  clear b1 b2 b3 b4 hb hm1 hlen
  go_wp2
  refine wp_loop_rounds 5 ?_
  rw [rounds_succ]
  go_wp2
  rw [rounds_succ]
  go_wp2
  rw [rounds_succ]
  go_wp2
  rw [rounds_succ]
  go_wp2
  rw [rounds_succ]
  go_wp2
  go_ret
  exact ⟨rfl, hfin⟩

end Go.Proofs.Qxb6603330a
