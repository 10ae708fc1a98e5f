/-
  FnScalarTypeOfIntersectWithNumber: walked.
-/
import Derived.Test.Qxb6603330aInter2
import Derived.Test.Qxb6603330aMost
namespace Go.Proofs.Qxb6603330a
open Go.RowKit Go.Maps Go.WideMaps

section
variable {H : Type} {w : World} {a : Option Addr} {len cap : Nat} {ss : List ByteArray} {adr : Nat → Addr} {r : Option Nat} {D : DataW H}

theorem hold_lit (h : StrsIn w a len cap ss adr) (l : List UInt8) {b : Bool} (hb : holdB ss l = b) :
    Calls Try.prog 13 #[.slice a len cap, .string ⟨l.toArray⟩] w fun e w' => e = .returned (.bool b) ∧ w' = w :=
  (hold_any h ⟨l.toArray⟩).mono fun e w' ⟨he, hw⟩ => ⟨by rw [he]; show Ending.returned (.bool (holdB ss l)) = _; rw [hb], hw⟩

set_option maxHeartbeats 400000 in
theorem with_big (hm : MapIn w r D) (hsz : 65536 < (Maps.size D : Int)) :
    Calls Try.prog 8 #[.map r, .slice a len cap] w fun e w' => e = .returned (.bool true) ∧ Below w.heap.size w w' := by
  have hlen := hm.len
  go_enter Try.func8, Try.ntmps8
  go_wp2
  go_ret
  exact ⟨rfl, Below.refl _ _⟩

set_option maxHeartbeats 400000 in
theorem with_long (hm : MapIn w r D) (hsz : (Maps.size D : Int) ≤ 65536) (hle : 65536 < (len : Int)) :
    Calls Try.prog 8 #[.map r, .slice a len cap] w fun e w' => e = .returned (.bool true) ∧ Below w.heap.size w w' := by
  have hlen := hm.len
  go_enter Try.func8, Try.ntmps8
  go_wp2
  go_ret
  exact ⟨rfl, Below.refl _ _⟩

set_option maxHeartbeats 1000000 in
theorem with_no (h : StrsIn w a len cap ss adr) (hm : MapIn w r D) (hsz : (Maps.size D : Int) ≤ 65536) (hle : (len : Int) ≤ 65536)
    (hno : holdB ss sN = false ∨ (holdB ss sN = true ∧ r.isNone = false ∧ bget D sN = false)) :
    Calls Try.prog 8 #[.map r, .slice a len cap] w fun e w' => e = .returned (.bool true) ∧ Below w.heap.size w w' := by
  have hlen := hm.len
  have hneq : ∀ w', (binOp .neq 22 (.map r) (.map none)).run Try.prog w' = .ok (.bool (!r.isNone)) w' := fun w' => run_neq_map_nil w' 22 9 4 r Try.underlying22
  have hcallN : ∀ b, holdB ss sN = b → Calls Try.prog 13 #[.slice a len cap, .string ⟨#[110, 117, 109, 98, 101, 114]⟩] w fun e w' => e = .returned (.bool b) ∧ w' = w :=
    fun b hb => (hold_any h ⟨#[110, 117, 109, 98, 101, 114]⟩).mono fun e w' ⟨he, hw⟩ => ⟨by rw [he]; show Ending.returned (.bool (holdB ss sN)) = _; rw [hb], hw⟩
  have HcN := hide hcallN
  clear hcallN
  rcases hno with h1 | ⟨h1, h2, h3⟩
  · have HN := hide (unhide HcN _ h1)
    clear HcN h1
    go_enter Try.func8, Try.ntmps8
    go_wp2_with fail
    refine (within_any h).mono ?_
    rintro e w' ⟨⟨b, rfl⟩, rfl⟩
    cases b
    · go_wp2
      go_ret
      exact ⟨rfl, Below.refl _ _⟩
    · go_wp2_with fail
      refine (unhide HN).mono ?_
      rintro e w' ⟨rfl, rfl⟩
      go_wp2
      go_ret
      exact ⟨rfl, Below.refl _ _⟩
  · have HN := hide (unhide HcN _ h1)
    have hlk : (Instr.lookup 22 (.map r) (.string ⟨#[110, 117, 109, 98, 101, 114]⟩) false).run Try.prog w = .ok (.bool false) w := look_at hm sN (by decide) h3
    clear HcN h1 h3
    go_enter Try.func8, Try.ntmps8
    go_wp2_with fail
    refine (within_any h).mono ?_
    rintro e w' ⟨⟨b, rfl⟩, rfl⟩
    cases b
    · go_wp2
      go_ret
      exact ⟨rfl, Below.refl _ _⟩
    · go_wp2_with fail
      refine (unhide HN).mono ?_
      rintro e w' ⟨rfl, rfl⟩
      go_wp2
      go_ret
      exact ⟨rfl, Below.refl _ _⟩

set_option maxHeartbeats 1000000 in
theorem with_a (h : StrsIn w a len cap ss adr) (hm : MapIn w r D) (hsz : (Maps.size D : Int) ≤ 65536) (hle : (len : Int) ≤ 65536) (hr : r.isNone = true) (hN : holdB ss sN = true) (hS : holdB ss sS = true) :
    Calls Try.prog 8 #[.map r, .slice a len cap] w fun e w' => e = .returned (.bool true) ∧ Below w.heap.size w w' := by
  have hlen := hm.len
  have hneq : ∀ w', (binOp .neq 22 (.map r) (.map none)).run Try.prog w' = .ok (.bool (!r.isNone)) w' := fun w' => run_neq_map_nil w' 22 9 4 r Try.underlying22
  have heql : ∀ w', (binOp .eql 22 (.map r) (.map none)).run Try.prog w' = .ok (.bool (r.isNone)) w' := fun w' => run_eql_map_nil w' 22 9 4 r Try.underlying22
  have HN := hide (hold_lit h sN hN)
  have HS := hide (hold_lit h sS hS)
  have gN : Hid ((candB ss sN && allowB r D sN) = true) := by show (candB ss sN && allowB r D sN) = true; simp [candB, allowB, hN, hr]
  have gS : Hid ((candB ss sS && allowB r D sS) = true) := by show (candB ss sS && allowB r D sS) = true; simp [candB, allowB, hS, hr]
  clear hN hS
  go_enter Try.func8, Try.ntmps8
  go_wp2_with fail
  refine (within_any h).mono ?_
  rintro e w' ⟨⟨b, rfl⟩, hw'⟩
  subst hw'
  cases b
  · go_wp2
    go_ret
    exact ⟨rfl, Below.refl _ _⟩
  · go_wp2_with fail
    refine (unhide HN).mono ?_
    rintro e w' ⟨rfl, hw'⟩
    subst hw'
    go_wp2_with fail
    refine (unhide HS).mono ?_
    rintro e w' ⟨rfl, hw'⟩
    subst hw'
    go_wp2_with fail
    refine (zzInter_any h (by omega) r D hm).mono ?_
    rintro e w1 ⟨rfl, ⟨D1, hset, hm1⟩, hb1⟩
    go_wp2_with fail
    refine (zzScalar_S _ D1 w1 hm1 ((hset.bget sS).trans gS.out)).mono ?_
    rintro e w2 ⟨rfl, hb2⟩
    go_wp2
    go_ret
    exact ⟨rfl, hb1.trans (hb2.mono hb1.size)⟩

set_option maxHeartbeats 1000000 in
theorem with_b (h : StrsIn w a len cap ss adr) (hm : MapIn w r D) (hsz : (Maps.size D : Int) ≤ 65536) (hle : (len : Int) ≤ 65536) (hr : r.isNone = true) (hN : holdB ss sN = true) (hS : holdB ss sS = false) :
    Calls Try.prog 8 #[.map r, .slice a len cap] w fun e w' => e = .returned (.bool true) ∧ Below w.heap.size w w' := by
  have hlen := hm.len
  have hneq : ∀ w', (binOp .neq 22 (.map r) (.map none)).run Try.prog w' = .ok (.bool (!r.isNone)) w' := fun w' => run_neq_map_nil w' 22 9 4 r Try.underlying22
  have heql : ∀ w', (binOp .eql 22 (.map r) (.map none)).run Try.prog w' = .ok (.bool (r.isNone)) w' := fun w' => run_eql_map_nil w' 22 9 4 r Try.underlying22
  have HN := hide (hold_lit h sN hN)
  have HS := hide (hold_lit h sS hS)
  have gN : Hid ((candB ss sN && allowB r D sN) = true) := by show (candB ss sN && allowB r D sN) = true; simp [candB, allowB, hN, hr]
  have gS : Hid ((candB ss sS && allowB r D sS) = false) := by show (candB ss sS && allowB r D sS) = false; simp [candB, allowB, hS, hr, show (sS == sI) = false from by decide]
  clear hN hS
  go_enter Try.func8, Try.ntmps8
  go_wp2_with fail
  refine (within_any h).mono ?_
  rintro e w' ⟨⟨b, rfl⟩, hw'⟩
  subst hw'
  cases b
  · go_wp2
    go_ret
    exact ⟨rfl, Below.refl _ _⟩
  · go_wp2_with fail
    refine (unhide HN).mono ?_
    rintro e w' ⟨rfl, hw'⟩
    subst hw'
    go_wp2_with fail
    refine (unhide HS).mono ?_
    rintro e w' ⟨rfl, hw'⟩
    subst hw'
    go_wp2_with fail
    refine (zzInter_any h (by omega) r D hm).mono ?_
    rintro e w1 ⟨rfl, ⟨D1, hset, hm1⟩, hb1⟩
    go_wp2_with fail
    refine (zzScalar_N _ D1 w1 hm1 ((hset.bget sS).trans gS.out) ((hset.bget sN).trans gN.out)).mono ?_
    rintro e w2 ⟨rfl, hb2⟩
    go_wp2
    go_ret
    exact ⟨rfl, hb1.trans (hb2.mono hb1.size)⟩

set_option maxHeartbeats 1000000 in
theorem with_c (h : StrsIn w a len cap ss adr) (hm : MapIn w r D) (hsz : (Maps.size D : Int) ≤ 65536) (hle : (len : Int) ≤ 65536) (hr : r.isNone = false) (hN : holdB ss sN = true) (hS : holdB ss sS = true) (aN : bget D sN = true) (aS : bget D sS = true) :
    Calls Try.prog 8 #[.map r, .slice a len cap] w fun e w' => e = .returned (.bool true) ∧ Below w.heap.size w w' := by
  have hlen := hm.len
  have hneq : ∀ w', (binOp .neq 22 (.map r) (.map none)).run Try.prog w' = .ok (.bool (!r.isNone)) w' := fun w' => run_neq_map_nil w' 22 9 4 r Try.underlying22
  have heql : ∀ w', (binOp .eql 22 (.map r) (.map none)).run Try.prog w' = .ok (.bool (r.isNone)) w' := fun w' => run_eql_map_nil w' 22 9 4 r Try.underlying22
  have HN := hide (hold_lit h sN hN)
  have HS := hide (hold_lit h sS hS)
  have gN : Hid ((candB ss sN && allowB r D sN) = true) := by show (candB ss sN && allowB r D sN) = true; simp [candB, allowB, hN, hr, aN]
  have gS : Hid ((candB ss sS && allowB r D sS) = true) := by show (candB ss sS && allowB r D sS) = true; simp [candB, allowB, hS, hr, aS]
  have hlk : (Instr.lookup 22 (.map r) (.string ⟨#[110, 117, 109, 98, 101, 114]⟩) false).run Try.prog w = .ok (.bool true) w := look_at hm sN (by decide) aN
  have hlk2 : (Instr.lookup 22 (.map r) (.string ⟨#[115, 116, 114, 105, 110, 103]⟩) false).run Try.prog w = .ok (.bool true) w := look_at hm sS (by decide) aS
  clear hN hS aN aS
  go_enter Try.func8, Try.ntmps8
  go_wp2_with fail
  refine (within_any h).mono ?_
  rintro e w' ⟨⟨b, rfl⟩, hw'⟩
  subst hw'
  cases b
  · go_wp2
    go_ret
    exact ⟨rfl, Below.refl _ _⟩
  · go_wp2_with fail
    refine (unhide HN).mono ?_
    rintro e w' ⟨rfl, hw'⟩
    subst hw'
    go_wp2_with fail
    refine (unhide HS).mono ?_
    rintro e w' ⟨rfl, hw'⟩
    subst hw'
    go_wp2_with fail
    refine (zzInter_any h (by omega) r D hm).mono ?_
    rintro e w1 ⟨rfl, ⟨D1, hset, hm1⟩, hb1⟩
    go_wp2_with fail
    refine (zzScalar_S _ D1 w1 hm1 ((hset.bget sS).trans gS.out)).mono ?_
    rintro e w2 ⟨rfl, hb2⟩
    go_wp2
    go_ret
    exact ⟨rfl, hb1.trans (hb2.mono hb1.size)⟩

set_option maxHeartbeats 1000000 in
theorem with_d (h : StrsIn w a len cap ss adr) (hm : MapIn w r D) (hsz : (Maps.size D : Int) ≤ 65536) (hle : (len : Int) ≤ 65536) (hr : r.isNone = false) (hN : holdB ss sN = true) (hS : holdB ss sS = true) (aN : bget D sN = true) (aS : bget D sS = false) :
    Calls Try.prog 8 #[.map r, .slice a len cap] w fun e w' => e = .returned (.bool true) ∧ Below w.heap.size w w' := by
  have hlen := hm.len
  have hneq : ∀ w', (binOp .neq 22 (.map r) (.map none)).run Try.prog w' = .ok (.bool (!r.isNone)) w' := fun w' => run_neq_map_nil w' 22 9 4 r Try.underlying22
  have heql : ∀ w', (binOp .eql 22 (.map r) (.map none)).run Try.prog w' = .ok (.bool (r.isNone)) w' := fun w' => run_eql_map_nil w' 22 9 4 r Try.underlying22
  have HN := hide (hold_lit h sN hN)
  have HS := hide (hold_lit h sS hS)
  have gN : Hid ((candB ss sN && allowB r D sN) = true) := by show (candB ss sN && allowB r D sN) = true; simp [candB, allowB, hN, hr, aN]
  have gS : Hid ((candB ss sS && allowB r D sS) = false) := by show (candB ss sS && allowB r D sS) = false; simp [candB, allowB, hS, hr, aS]
  have hlk : (Instr.lookup 22 (.map r) (.string ⟨#[110, 117, 109, 98, 101, 114]⟩) false).run Try.prog w = .ok (.bool true) w := look_at hm sN (by decide) aN
  have hlk2 : (Instr.lookup 22 (.map r) (.string ⟨#[115, 116, 114, 105, 110, 103]⟩) false).run Try.prog w = .ok (.bool false) w := look_at hm sS (by decide) aS
  clear hN hS aN aS
  go_enter Try.func8, Try.ntmps8
  go_wp2_with fail
  refine (within_any h).mono ?_
  rintro e w' ⟨⟨b, rfl⟩, hw'⟩
  subst hw'
  cases b
  · go_wp2
    go_ret
    exact ⟨rfl, Below.refl _ _⟩
  · go_wp2_with fail
    refine (unhide HN).mono ?_
    rintro e w' ⟨rfl, hw'⟩
    subst hw'
    go_wp2_with fail
    refine (unhide HS).mono ?_
    rintro e w' ⟨rfl, hw'⟩
    subst hw'
    go_wp2_with fail
    refine (zzInter_any h (by omega) r D hm).mono ?_
    rintro e w1 ⟨rfl, ⟨D1, hset, hm1⟩, hb1⟩
    go_wp2_with fail
    refine (zzScalar_N _ D1 w1 hm1 ((hset.bget sS).trans gS.out) ((hset.bget sN).trans gN.out)).mono ?_
    rintro e w2 ⟨rfl, hb2⟩
    go_wp2
    go_ret
    exact ⟨rfl, hb1.trans (hb2.mono hb1.size)⟩

set_option maxHeartbeats 1000000 in
theorem with_e (h : StrsIn w a len cap ss adr) (hm : MapIn w r D) (hsz : (Maps.size D : Int) ≤ 65536) (hle : (len : Int) ≤ 65536) (hr : r.isNone = false) (hN : holdB ss sN = true) (hS : holdB ss sS = false) (aN : bget D sN = true) :
    Calls Try.prog 8 #[.map r, .slice a len cap] w fun e w' => e = .returned (.bool true) ∧ Below w.heap.size w w' := by
  have hlen := hm.len
  have hneq : ∀ w', (binOp .neq 22 (.map r) (.map none)).run Try.prog w' = .ok (.bool (!r.isNone)) w' := fun w' => run_neq_map_nil w' 22 9 4 r Try.underlying22
  have heql : ∀ w', (binOp .eql 22 (.map r) (.map none)).run Try.prog w' = .ok (.bool (r.isNone)) w' := fun w' => run_eql_map_nil w' 22 9 4 r Try.underlying22
  have HN := hide (hold_lit h sN hN)
  have HS := hide (hold_lit h sS hS)
  have gN : Hid ((candB ss sN && allowB r D sN) = true) := by show (candB ss sN && allowB r D sN) = true; simp [candB, allowB, hN, hr, aN]
  have gS : Hid ((candB ss sS && allowB r D sS) = false) := by show (candB ss sS && allowB r D sS) = false; simp [candB, allowB, hS, hr, show (sS == sI) = false from by decide]
  have hlk : (Instr.lookup 22 (.map r) (.string ⟨#[110, 117, 109, 98, 101, 114]⟩) false).run Try.prog w = .ok (.bool true) w := look_at hm sN (by decide) aN
  clear hN hS aN
  go_enter Try.func8, Try.ntmps8
  go_wp2_with fail
  refine (within_any h).mono ?_
  rintro e w' ⟨⟨b, rfl⟩, hw'⟩
  subst hw'
  cases b
  · go_wp2
    go_ret
    exact ⟨rfl, Below.refl _ _⟩
  · go_wp2_with fail
    refine (unhide HN).mono ?_
    rintro e w' ⟨rfl, hw'⟩
    subst hw'
    go_wp2_with fail
    refine (unhide HS).mono ?_
    rintro e w' ⟨rfl, hw'⟩
    subst hw'
    go_wp2_with fail
    refine (zzInter_any h (by omega) r D hm).mono ?_
    rintro e w1 ⟨rfl, ⟨D1, hset, hm1⟩, hb1⟩
    go_wp2_with fail
    refine (zzScalar_N _ D1 w1 hm1 ((hset.bget sS).trans gS.out) ((hset.bget sN).trans gN.out)).mono ?_
    rintro e w2 ⟨rfl, hb2⟩
    go_wp2
    go_ret
    exact ⟨rfl, hb1.trans (hb2.mono hb1.size)⟩

theorem with_any (h : StrsIn w a len cap ss adr) (hm : MapIn w r D) :
    Calls Try.prog 8 #[.map r, .slice a len cap] w fun e w' => e = .returned (.bool true) ∧ Below w.heap.size w w' := by
  by_cases hsz : 65536 < (Maps.size D : Int)
  · exact with_big hm hsz
  have hsz : (Maps.size D : Int) ≤ 65536 := by omega
  by_cases hle : 65536 < (len : Int)
  · exact with_long hm hsz hle
  have hle : (len : Int) ≤ 65536 := by omega
  cases hN : holdB ss sN
  · exact with_no h hm hsz hle (Or.inl hN)
  cases hr : r.isNone
  · cases aN : bget D sN
    · exact with_no h hm hsz hle (Or.inr ⟨hN, hr, aN⟩)
    cases hS : holdB ss sS
    · exact with_e h hm hsz hle hr hN hS aN
    · cases aS : bget D sS
      · exact with_d h hm hsz hle hr hN hS aN aS
      · exact with_c h hm hsz hle hr hN hS aN aS
  · cases hS : holdB ss sS
    · exact with_b h hm hsz hle hr hN hS
    · exact with_a h hm hsz hle hr hN hS

end

end Go.Proofs.Qxb6603330a
