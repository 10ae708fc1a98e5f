/-
  maxItems, minItems, mutableFor, mutableChild: walked.
-/
import Derived.Test.Qxb6603483aPool
import Derived.Deep.RegionHeld3
import Derived.Deep.RegionLaw
import Derived.Deep.DeepCutAuto
import Derived.Deep.DrawnRows
import Derived.Deep.QuietTactic
import Derived.BigQuiet
namespace Go.Proofs.Qxb6603483a
open Go.RowKit
set_option linter.unusedSimpArgs false
attribute [local go_sem ↓] Go.wp_at_zero Go.wp_at_succ

theorem maxItems {w : World} {t : Nat} (h : w.cell? ⟨t, 0, none⟩ = some (.int .i64 32)) :
    Calls Try.prog 40 #[.pointer (some ⟨t, 0, none⟩)] w fun r w' => r = .returned (.int .i64 63) ∧ w' = w := by
  go_enter Try.func40, Try.ntmps40
  go_wp2
  go_ret
  exact ⟨rfl, rfl⟩

theorem minItems {w : World} {t : Nat} (h : w.cell? ⟨t, 0, none⟩ = some (.int .i64 32)) :
    Calls Try.prog 45 #[.pointer (some ⟨t, 0, none⟩)] w fun r w' => r = .returned (.int .i64 31) ∧ w' = w := by
  go_enter Try.func45, Try.ntmps45
  go_wp2
  go_ret
  exact ⟨rfl, rfl⟩

theorem mutableFor {w : World} {p c : Nat} (h : w.cell? ⟨p, 2, none⟩ = some (.pointer (some ⟨c, 0, none⟩))) :
    Calls Try.prog 39 #[.pointer (some ⟨p, 0, none⟩), .pointer (some ⟨c, 0, none⟩)] w fun r w' => r = .returned (.pointer (some ⟨p, 0, none⟩)) ∧ w' = w := by
  have hq : ∀ w', (binOp .eql 85 (.pointer (some ⟨c, 0, none⟩)) (.pointer (some ⟨c, 0, none⟩))).run Try.prog w' = .ok (.bool true) w' := cow_eql _
  go_enter Try.func39, Try.ntmps39
  go_wp2
  go_ret
  exact ⟨rfl, rfl⟩

set_option maxRecDepth 100000 in
set_option maxHeartbeats 1000000 in
theorem mutableChild {w : World} {p c i q : Nat} {iv cv : Value} {its : List Ent} {cps : List Value} (hN : NodeAt w p iv cv (ptr c) its cps) (hq : cps[i]? = some (ptr q)) (hc : w.cell? ⟨q, 2, none⟩ = some (.pointer (some ⟨c, 0, none⟩))) :
    Calls Try.prog 52 #[.pointer (some ⟨p, 0, none⟩), .int .i64 i] w fun r w' => r = .returned (ptr q) ∧ NodeAt w' p iv cv (ptr c) its cps ∧ Stp (nodeF p iv cv) w w' (nodeF p iv cv) := by
  have hi : i < cps.length := (List.getElem?_eq_some_iff.1 hq).1
  obtain ⟨n, hn⟩ : ∃ n, n = cps.length := ⟨_, rfl⟩
  obtain ⟨g, cap, hiv⟩ : ∃ g cap, cv = .slice (some ⟨g, 0, none⟩) n cap := by
    rcases hN.rc.form with ⟨_, h1⟩ | ⟨g, cap, h1⟩
    · rw [h1] at hi; simp at hi
    · exact ⟨g, cap, by rw [h1, hn]⟩
  subst hiv
  obtain ⟨sp, hrow⟩ := hN.rc.blkOf
  have t0 : w.cell? ⟨g, i, none⟩ = some (.pointer (some ⟨q, 0, none⟩)) := ptr_at hrow hq
  have g0 := frozen_blk hrow i
  have c1 : w.cell? ⟨p, 1, none⟩ = some (.slice (some ⟨g, 0, none⟩) n cap) := cell_blk hN.blk 1
  have c2 : w.cell? ⟨p, 2, none⟩ = some (.pointer (some ⟨c, 0, none⟩)) := cell_blk hN.blk 2
  have hin : i < n := by omega
  have hix : ∀ w', (Instr.indexAt 104 (.slice (some ⟨g, 0, none⟩) n cap) (.int .i64 (i : Int))).run Try.prog w' = .ok (.pointer (some ⟨g, i, none⟩)) w' :=
    fun w' => by have := run_ix (P := Try.prog) 104 1 g n cap i (i : Int) rfl hin Try.underlying104 (fun _ => by kernel_rfl) w'; rw [Nat.mul_one] at this; exact this
  have Hn := hide hn
  have Hi := hide hi
  have Hq := hide hq
  clear hn hi hq hin
  unfold ptr
  go_enter Try.func52, Try.ntmps52
  go_wp2
  go_quiet ((go_at_call 39; exact Calls.quiet_of_same (mutableFor hc)))
  go_wp2
  go_ret
  obtain ⟨r1, r2, _⟩ := store1 hN i Hi.out (ptr q)
  have e1 : cps.set i (ptr q) = cps := by
    obtain ⟨h1, h2⟩ := List.getElem?_eq_some_iff.1 Hq.out
    rw [← h2]
    exact List.set_getElem_self h1
  rw [e1] at r1
  exact ⟨rfl, ⟨r1.blk, r1.ri, r1.rc, r1.uniq⟩, ⟨⟨r2.chg.os, r2.chg.tape, r2.chg.output, r2.chg.size, r2.chg.same⟩, r2.le, r2.uniq, r2.lt⟩⟩

end Go.Proofs.Qxb6603483a
