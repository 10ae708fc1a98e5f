/-
  iterate over a leaf.
-/
import Derived.Test.Qxb6603483aKeep
import Derived.RangeFuncNested
import Derived.RangeFuncBound
import Derived.RangeFuncCalls
import Derived.RangeFuncLeaves
import Derived.OwnWalkIn
import Derived.TacticsInMore
import Derived.LoopNIn
import Derived.LoopIn
namespace Go.Proofs.Qxb6603483a
open Go.RowKit
set_option linter.unusedSimpArgs false
attribute [local go_sem ↓] Go.wp_at_zero Go.wp_at_succ

def startV : Value := .agg #[.string ⟨#[]⟩, .int .u64 0, .slice none 0 0, .bool true]
def stopV : Value := .agg #[.string ⟨#[]⟩, .int .u64 0, .slice none 0 0, .bool false]

/-- The caller's rounds, as the iterator is handed them. -/
structure Rnds (l B N : Nat) (J Jx : List Ent → World → Prop) : Prop where
  abide : ∀ pre W W', J pre W → Chg0 W W' → J pre W'
  yield : ∀ m pre x W, J pre W → pre.length < N → YieldAt Fence.wide m Try.prog l #[.agg #[.string x.key, .int .u64 x.ver, .slice x.va x.vn x.vc]] W fun e W' => (e = .returned (.bool true) ∧ J (pre ++ [x]) W' ∧ Keep B W W') ∨ (e = .returned (.bool false) ∧ Jx (pre ++ [x]) W')

/-- What iterate leaves: all have come; or some, a round having said 'no more'. -/
def IterLeft (B : Nat) (J Jx : List Ent → World → Prop) (pre xs : List Ent) (w : World) (r : Ending) (w' : World) : Prop :=
  (∃ hit' : Bool, r = .returned (.tuple #[.bool hit', .bool true]) ∧ J (pre ++ xs) w' ∧ Keep B w w') ∨ (∃ (hit' : Bool) (q : List Ent), r = .returned (.tuple #[.bool hit', .bool false]) ∧ q <+: xs ∧ Jx (pre ++ q) w')

def IterOK (l B N : Nat) (J Jx : List Ent → World → Prop) (h : Nat) : Prop := ∀ (w : World) (c f : Nat) (s : Sub) (pre : List Ent) (hit : Bool), IsT w c h s → w.heap[c]? = some (.cells #[ptr f, lessV] 115 (0, 0)) → c ≠ B → some c ≠ outRow w B → Apart B w s.F → Okay B w → Asc s.xs → s.n ≤ 1000 → J pre w → pre.length + s.xs.length ≤ N →
  Calls Try.prog 32 #[ptr s.p, .int .i64 1, startV, stopV, .bool true, .bool hit, .func (.yield l) #[] #[]] w fun r w' => IterLeft B J Jx pre s.xs w r w'

theorem take_succ_of {xs : List Ent} {i : Nat} {x : Ent} (h : xs[i]? = some x) : xs.take (i + 1) = xs.take i ++ [x] := by
  rw [List.take_add_one, h]
  rfl

set_option maxRecDepth 100000 in
set_option maxHeartbeats 4000000 in
theorem iter_leaf {l B N : Nat} {J Jx : List Ent → World → Prop} (RR : Rnds l B N J Jx) : IterOK l B N J Jx 0 := by
  intro w c f s pre hit H hcow hcB hcr hAp hOk hAsc hn hJ hN
  obtain ⟨iv, cv, hNo, hnl, hF⟩ := H
  obtain ⟨n, hn1⟩ : ∃ n, n = s.xs.length := ⟨_, rfl⟩
  obtain ⟨ia, ic, hiv⟩ : ∃ a cap, iv = .slice a n cap := by obtain ⟨a, cap, h1⟩ := hNo.iform; exact ⟨a, cap, by rw [h1, hn1]⟩
  subst hiv
  obtain ⟨ca, cc, hcv⟩ : ∃ a cap, cv = .slice a 0 cap := hNo.cform
  subst hcv
  obtain ⟨W, hW, ⟨hbox, hzero⟩, hchg⟩ : ∃ W, W = (w.alloc (Obj.cells #[Value.string { data := #[] }, Value.int IntKind.u64 0, Value.slice none 0 0, Value.bool true] 92)).alloc (Obj.cells #[Value.string { data := #[] }, Value.int IntKind.u64 0, Value.slice none 0 0, Value.bool false] 92) ∧
      (W.heap[w.heap.size]? = some (.cells #[Value.string { data := #[] }, Value.int IntKind.u64 0, Value.slice none 0 0, Value.bool true] 92 (0, 0)) ∧
      W.heap[w.heap.size + 1]? = some (.cells #[Value.string { data := #[] }, Value.int IntKind.u64 0, Value.slice none 0 0, Value.bool false] 92 (0, 0))) ∧ Chg0 w W :=
    ⟨_, rfl, two_boxes w _ _ _ _, ((Chg.refl _ w).alloc _).alloc _⟩
  have hNW := hchg.node hNo (fun _ _ => rfl)
  have hkW := Keep.chg0 hchg hOk.1
  have hApW : Apart B W (nodeF s.p (.slice ia n ic) (.slice ca 0 cc)) := (hAp.keep hkW).mono (fun k hk => by rw [hF]; exact hk)
  have hOkW := hOk.keep hkW
  have hJW := RR.abide _ _ _ hJ hchg
  have hcowW := hchg.blk hcow
  have hfr0 := fresh_apart (B := B) hchg hOk.1 hOk.2 (k := w.heap.size) (Nat.le_refl _)
  have hfr1 := fresh_apart (B := B) hchg hOk.1 hOk.2 (k := w.heap.size + 1) (by omega)
  have c0 : W.cell? ⟨s.p, 0, none⟩ = some (.slice ia n ic) := cell_blk hNW.blk 0
  have c2 : W.cell? ⟨s.p, 2, none⟩ = some (.pointer (some ⟨c, 0, none⟩)) := cell_blk hNW.blk 2
  have l1 : W.cell? ⟨c, 1, none⟩ = some (.func (.func 29) #[] #[]) := cell_blk hcowW 1
  have b0 : W.cell? ⟨w.heap.size, 0, none⟩ = some (.string ⟨#[]⟩) := cell_blk hbox 0
  have b1 : W.cell? ⟨w.heap.size, 1, none⟩ = some (.int .u64 0) := cell_blk hbox 1
  have b2 : W.cell? ⟨w.heap.size, 2, none⟩ = some (.slice none 0 0) := cell_blk hbox 2
  have b3 : W.cell? ⟨w.heap.size, 3, none⟩ = some (.bool true) := cell_blk hbox 3
  have hfind := find_start (w := W.drew) (hNW.ri.drew) (by exact hAsc) (by omega)
  have Hall := hide (And.intro hAsc (And.intro hn (And.intro hN (And.intro hn1 (And.intro hnl (And.intro hF (And.intro hAp hOk)))))))
  have hW' := hW.symm
  clear hW hAsc hn hN hnl hF hAp hOk hcow hcB hcr hNo hJ
  unfold ptr startV stopV
  unfold lessV ent0 Ent.v at hfind
  go_enter Try.func32, Try.ntmps32
  go_wp2
  clear hW'
  generalize hbb : w.heap.size = b at *
  have Hb := hide hbb
  clear hbb hn1
  go_region_held3 (fun w' => w'.cell? ⟨s.p, 0, none⟩ = some (.slice ia n ic) ∧ w'.cell? ⟨s.p, 2, none⟩ = some (.pointer (some ⟨c, 0, none⟩)) ∧ w'.cell? ⟨c, 1, none⟩ = some (.func (.func 29) #[] #[]) ∧ w'.cell? ⟨b, 0, none⟩ = some (.string ⟨#[]⟩) ∧ w'.cell? ⟨b, 1, none⟩ = some (.int .u64 0) ∧ w'.cell? ⟨b, 2, none⟩ = some (.slice none 0 0))
    (first | exact ⟨c0, c2, l1, b0, b1, b2⟩ | exact ⟨Chg0.cell hc c0, Chg0.cell hc c2, Chg0.cell hc l1, Chg0.cell hc b0, Chg0.cell hc b1, Chg0.cell hc b2⟩)
    ((go_at_call 43; refine hfind.mono ?_; rintro _ w1 ⟨⟨fb, rfl⟩, hc⟩))
  have hc' : Chg0 W w1 := ((Chg.refl (fun _ => 0) W).drew).trans hc
  have hkw1 := Keep.chg0 hc' hOkW.1
  have hJ1 := RR.abide _ _ _ hJW hc'
  clear hc c0 c2 l1 b0 b1 b2 b3 hfind hJW hc'
  go_wp2
  go_loopg [5, 14, 15, 16, 19] n (fun kx s5 s14 s15 s16 s19 wr => ∃ (i : Nat) (ht ok : Bool), s5 = .bool ht ∧ s14 = .bool false ∧ s15 = .bool false ∧ s16 = .bool ok ∧ s19 = .int .i64 i ∧ i ≤ n ∧ n - i ≤ kx ∧ J (pre ++ s.xs.take i) wr ∧ Keep B W wr)
  case atStart => exact ⟨0, hit, false, rfl, rfl, rfl, rfl, rfl, Nat.zero_le _, by omega, by simpa using hJ1, hkw1⟩
  case round =>
    obtain ⟨i, ht, ok, rfl, rfl, rfl, rfl, rfl, hin, hkx, hJr, hkr⟩ := hrel
    have hNr := hNW.kept hkr hApW
    have hbr := hkr.same _ _ _ _ hbox hfr0.1 hfr0.2
    have hzr := hkr.same _ _ _ _ hzero hfr1.1 hfr1.2
    have c0 : wr.cell? ⟨s.p, 0, none⟩ = some (.slice ia n ic) := cell_blk hNr.blk 0
    have c1 : wr.cell? ⟨s.p, 1, none⟩ = some (.slice ca 0 cc) := cell_blk hNr.blk 1
    have z3 : wr.cell? ⟨b + 1, 3, none⟩ = some (.bool false) := cell_blk hzr 3
    by_cases hlt : i < n
    · have hlt' : (i : Int) < (n : Int) := by omega
      obtain ⟨x, hx⟩ : ∃ x, s.xs[i]? = some x := ⟨s.xs[i]'(by have := Hall.out.2.2.2.1; omega), by simp⟩
      obtain ⟨g, hg⟩ : ∃ g, ia = some ⟨g, 0, none⟩ := by
        rcases hNr.ri.form with ⟨h1, h2⟩ | ⟨g, cap, h1⟩
        · rw [h2] at hx; simp at hx
        · injection h1 with h1; exact ⟨g, h1⟩
      subst hg
      have hix : ∀ w', (Instr.indexAt 102 (.slice (some ⟨g, 0, none⟩) n ic) (.int .i64 (i : Int))).run Try.prog w' = .ok (.pointer (some ⟨g, i * 3, none⟩)) w' :=
        fun w' => run_ix (P := Try.prog) 102 3 g n ic i (i : Int) rfl hlt Try.underlying102 (fun _ => by kernel_rfl) w'
      obtain ⟨sp, hrow⟩ := hNr.ri.blkOf
      obtain ⟨e0, e1, e2⟩ := ent_at hrow hx
      have Hx := hide hx
      clear hx hrow
      go_wp2
      go_quiet (fail)
      obtain ⟨w2, hw2, hc2⟩ : ∃ w2, wr.drewN nq = w2 ∧ Chg0 wr w2 := ⟨_, rfl, ⟨rfl, rfl, rfl, Nat.le_refl _, fun _ _ _ => rfl⟩⟩
      rw [hw2]
      clear hw2
      have c0 := Chg0.cell hc2 c0
      have z3 := Chg0.cell hc2 z3
      go_wp2
      go_quiet (fail)
      obtain ⟨w3, hw3, hc3⟩ : ∃ w3, w2.drewN nq = w3 ∧ Chg0 w2 w3 := ⟨_, rfl, ⟨rfl, rfl, rfl, Nat.le_refl _, fun _ _ _ => rfl⟩⟩
      rw [hw3]
      clear hw3
      have hc4 := hc2.trans hc3
      have c0 := Chg0.cell hc3 c0
      have e0 := Chg0.cell hc4 e0
      have e1 := Chg0.cell hc4 e1
      have e2 := Chg0.cell hc4 e2
      have hk4 := Keep.chg0 hc4 (hOkW.keep hkr).1
      have hJ4 := RR.abide _ _ _ hJr hc4
      go_upto_region 19 with (fail)
      have hlen : (pre ++ s.xs.take i).length < N := by
        have h1 := Hall.out.2.2.1
        have h2 := Hall.out.2.2.2.1
        rw [List.length_append, List.length_take]
        omega
      obtain ⟨fn, tmps, assign, body, hy, hR⟩ := RR.yield 2 (pre ++ s.xs.take i) x w3 hJ4 hlen
      have hdd : ∀ k : Nat, (Fence.wide.depth.isSome = true → 1 ≤ k) := fun k h => by cases h
      refine (wpIn_wide (n := 3)).1 ?_
      clear z3 c1 hlen
      gi_wp2_with ((try refine ⟨hdd _, ?_⟩); refine hR.mono ?_; clear hR; rintro e W3 (⟨rfl, hJ3, hk3⟩ | ⟨rfl, hJx3⟩))
      · have hi1 : (i : Int) ≤ 1000 := by have h1 := Hall.out.2.1; have h2 := Hall.out.2.2.2.1; have h3 := Hall.out.2.2.2.2.1; omega
        have hi0 : (0 : Int) ≤ (i : Int) := Int.natCast_nonneg _
        clear hk4 hJ4 c0 e0 e1 e2
        go_wp2
        go_roundg (n - (i + 1))
        case measure => omega
        case rel =>
          refine ⟨i + 1, true, ok, rfl, rfl, rfl, rfl, rfl, by omega, Nat.le_refl _, ?_, hkr.trans ((Keep.chg0 hc4 (hOkW.keep hkr).1).trans hk3)⟩
          rw [take_succ_of Hx.out, ← List.append_assoc]
          exact hJ3
      · go_wp2
        refine bodyPost_ret (v := .tuple #[.bool true, .bool false]) (by simp [results, Try.results32, go_sem]) rfl ?_
        refine Or.inr ⟨true, s.xs.take (i + 1), rfl, List.take_prefix _ _, ?_⟩
        rw [take_succ_of Hx.out, ← List.append_assoc]
        exact hJx3
    · have hlt' : ¬ (i : Int) < (n : Int) := by omega
      have e : i = n := by omega
      subst e
      clear hlt
      have Hn1 : Hid (i = s.xs.length) := Hall.out.2.2.2.1
      clear hkx hin
      go_wp2
      refine bodyPost_ret (v := .tuple #[.bool ht, .bool true]) (by simp [results, Try.results32, go_sem]) rfl ?_
      refine Or.inl ⟨ht, rfl, ?_, hkW.trans hkr⟩
      rw [Hn1.out, List.take_length] at hJr
      exact hJr

end Go.Proofs.Qxb6603483a
