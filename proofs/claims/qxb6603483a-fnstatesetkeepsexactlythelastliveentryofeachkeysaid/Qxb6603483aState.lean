/-
  The state: its block, the key map, no watcher; set.
-/
import Derived.Test.Qxb6603483aSet
import Derived.Laws.IdiomRangeMap
namespace Go.Proofs.Qxb6603483a
open Go.RowKit
set_option linter.unusedSimpArgs false
attribute [local go_sem ↓] Go.wp_at_zero Go.wp_at_succ

theorem next_none {P : Program} {w : World} {r mb clk : Nat} (ty : TypeId) (hr : w.heap[r]? = some (.mapIter (some mb) clk #[] clk)) (hb : w.heap[mb]? = some (.map #[] clk)) :
    (Instr.next (.pointer (some ⟨r, 0, none⟩)) false ty).run P w = .ok (.tuple #[.bool false]) w := by
  simp [Instr.next, getObj, Sem.run_bind, Sem.run, hr, hb, Result.andThen, Question.forced]

set_option maxRecDepth 100000 in
set_option maxHeartbeats 1000000 in
theorem changed25 {w : World} {st mb clk : Nat} {k : ByteArray} {cs : Array Value} (hb : w.heap[st]? = some (.cells cs 63 (0, 0))) (h23 : cs[28]? = some (.map (some mb))) (hm : w.heap[mb]? = some (.map #[] clk)) :
    Calls Try.prog 25 #[.pointer (some ⟨st, 0, none⟩), .string k] w fun r w' => r = .returned (.tuple #[]) ∧ Chg0 w w' := by
  have c0 : w.cell? ⟨st, 28, none⟩ = some (.map (some mb)) := (cell_blk hb 28).trans h23
  have hrg := run_range_map (P := Try.prog) w 61 _ _ mb #[] clk Try.underlying61 hm
  have hch : Chg0 w (w.alloc (.mapIter (some mb) clk #[] clk)) := (Chg.refl _ w).alloc _
  have hnx := next_none (P := Try.prog) (w := w.alloc (.mapIter (some mb) clk #[] clk)) (r := w.heap.size) 0 (heap_alloc_new w _) (hch.blk hm)
  go_enter Try.func25, Try.ntmps25
  go_wp2
  refine wp_loop_rounds 1 ?_
  rw [rounds_succ]
  go_wp2
  go_end0
  exact ⟨rfl, hch⟩

/-- The state st holds X. -/
def Sta (w : World) (st : Nat) (X : List Ent) (F : Nat → Nat) : Prop :=
  ∃ t mb clk cs, w.heap[st]? = some (.cells cs 63 (0, 0)) ∧ cs[0]? = some (.pointer (some ⟨t, 0, none⟩)) ∧ cs[28]? = some (.map (some mb)) ∧ w.heap[mb]? = some (.map #[] clk) ∧ Bt w t X F ∧ F st = 0 ∧ F mb = 0

set_option maxRecDepth 100000 in
set_option maxHeartbeats 1000000 in
theorem set21 {w : World} {st : Nat} {X : List Ent} {F : Nat → Nat} {e : Ent} (H : Sta w st X F) :
    Calls Try.prog 21 #[.pointer (some ⟨st, 0, none⟩), e.v] w fun r w' => r = .returned (.tuple #[]) ∧ ∃ F', Sta w' st (put e X) F' ∧ Stp F w w' F' := by
  obtain ⟨t, mb, clk, cs, hb, h0, h28, hm, B, hf1, hf2⟩ := H
  obtain ⟨W, hW, hbox, hchg⟩ : ∃ W, W = w.alloc (Obj.cells #[Value.string e.key, Value.int IntKind.u64 e.ver, Value.slice e.va e.vn e.vc] 33) ∧
      W.heap[w.heap.size]? = some (.cells #[Value.string e.key, Value.int IntKind.u64 e.ver, Value.slice e.va e.vn e.vc] 33 (0, 0)) ∧ Chg0 w W :=
    ⟨_, rfl, heap_alloc_new w _, (Chg.refl _ w).alloc _⟩
  have BW := B.grew hchg
  have hbW := hchg.blk hb
  have hmW := hchg.blk hm
  have HB : Hid (F w.heap.size = 0) := by
    have : ¬ 1 ≤ F w.heap.size := fun h => by have := B.lt _ h; omega
    show _ = _; omega
  have hW' := hW.symm
  clear hW B
  obtain ⟨b0, b1, b2⟩ := box_cells hbox
  have s0 : W.cell? ⟨st, 0, none⟩ = some (.pointer (some ⟨t, 0, none⟩)) := (cell_blk hbW 0).trans h0
  have Hchg := hide hchg
  clear hchg
  unfold Ent.v
  go_enter Try.func21, Try.ntmps21
  go_wp2
  clear hW'
  generalize w.heap.size = b at *
  go_region_held3 (fun w' => w'.cell? ⟨st, 0, none⟩ = some (.pointer (some ⟨t, 0, none⟩)) ∧ w'.cell? ⟨b, 0, none⟩ = some (.string e.key) ∧ w'.cell? ⟨b, 1, none⟩ = some (.int .u64 e.ver) ∧ w'.cell? ⟨b, 2, none⟩ = some (.slice e.va e.vn e.vc))
    (first | exact ⟨s0, b0, b1, b2⟩ | exact ⟨(cell_blk (hS1.blk hbW hf1) 0).trans h0, box_cells (hS1.blk hbox HB.out)⟩)
    ((go_at_call 24; refine (set24 (w := W.drew) (e := e) (BW.same (fun _ _ => rfl))).mono ?_; rintro _ w1 ⟨rfl, F', B1, hS1⟩))
  have hb1 := hS1.blk (w := W.drew) hbox HB.out
  have hbs := hS1.blk (w := W.drew) hbW hf1
  have hms := hS1.blk (w := W.drew) hmW hf2
  have k0 := cell_blk hb1 0
  clear b0 b1 b2 s0
  go_wp2_with (fail)
  refine (changed25 (k := e.key) hbs h28 hms).mono ?_
  rintro _ w2 ⟨rfl, hc2⟩
  go_wp2
  go_end0
  exact ⟨rfl, F', ⟨t, mb, clk, cs, hc2.blk hbs, h0, h28, hc2.blk hms, B1.grew hc2, hS1.zero (w := W.drew) hbW hf1, hS1.zero (w := W.drew) hmW hf2⟩, (hS1.predrew.pre Hchg.out).post hc2⟩

set_option maxRecDepth 100000 in
set_option maxHeartbeats 1000000 in
theorem zzset {w : World} {st : Nat} {X : List Ent} {F : Nat → Nat} {e : Ent} (H : Sta w st X F) :
    Calls Try.prog 9 #[.pointer (some ⟨st, 0, none⟩), e.v] w fun r w' => r = .returned (.tuple #[]) ∧ ∃ F', Sta w' st (put e X) F' ∧ Stp F w w' F' := by
  obtain ⟨W, hW, hbox, hchg⟩ : ∃ W, W = w.alloc (Obj.cells #[Value.string e.key, Value.int IntKind.u64 e.ver, Value.slice e.va e.vn e.vc] 33) ∧
      W.heap[w.heap.size]? = some (.cells #[Value.string e.key, Value.int IntKind.u64 e.ver, Value.slice e.va e.vn e.vc] 33 (0, 0)) ∧ Chg0 w W :=
    ⟨_, rfl, heap_alloc_new w _, (Chg.refl _ w).alloc _⟩
  have HW : Sta W st X F := by
    obtain ⟨t, mb, clk, cs, hb, h0, h28, hm, B, hf1, hf2⟩ := H
    exact ⟨t, mb, clk, cs, hchg.blk hb, h0, h28, hchg.blk hm, B.grew hchg, hf1, hf2⟩
  have hW' := hW.symm
  clear hW H
  obtain ⟨b0, b1, b2⟩ := box_cells hbox
  have HC := set21 (e := e) HW
  have Hchg := hide hchg
  clear hchg
  unfold Ent.v at HC ⊢
  go_enter Try.func9, Try.ntmps9
  go_wp2_with (fail)
  clear hW'
  refine HC.mono ?_
  rintro _ w1 ⟨rfl, F', H1, hS1⟩
  go_wp2
  go_end0
  exact ⟨rfl, F', H1, hS1.pre Hchg.out⟩

end Go.Proofs.Qxb6603483a
