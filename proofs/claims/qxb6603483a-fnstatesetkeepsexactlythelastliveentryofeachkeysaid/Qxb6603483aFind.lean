/-
  find: walked.
-/
import Derived.Test.Qxb6603483aLess
namespace Go.Proofs.Qxb6603483a
open Go.RowKit
set_option linter.unusedSimpArgs false
attribute [local go_sem ↓] Go.wp_at_zero Go.wp_at_succ

/-- Ascending by key. -/
def Asc (its : List Ent) : Prop := its.Pairwise (fun a b => klt a.key b.key = true)

theorem three_boxes (w : World) (a b c : Array Value) (ta tb tc : TypeId) : (((w.alloc (.cells a ta)).alloc (.cells b tb)).alloc (.cells c tc)).heap[w.heap.size]? = some (.cells a ta (0, 0)) ∧
    (((w.alloc (.cells a ta)).alloc (.cells b tb)).alloc (.cells c tc)).heap[w.heap.size + 1]? = some (.cells b tb (0, 0)) ∧ (((w.alloc (.cells a ta)).alloc (.cells b tb)).alloc (.cells c tc)).heap[w.heap.size + 2]? = some (.cells c tc (0, 0)) := by
  obtain ⟨h1, h2⟩ := two_boxes w a b ta tb
  refine ⟨(Below.heap_alloc _ _ _ (by simp; omega)).trans h1, (Below.heap_alloc _ _ _ (by simp)).trans h2, ?_⟩
  have := (MapKept.heap_alloc ((w.alloc (.cells a ta)).alloc (.cells b tb)) (.cells c tc)).1
  simpa using this

theorem split_at {α : Type} (l : List α) (m : Nat) (h : m < l.length) : l = l.take m ++ l[m] :: l.drop (m + 1) := by
  rw [List.getElem_cons_drop h, List.take_append_drop]

/-- What the closure says at i. -/
def pOf (its : List Ent) (e : Ent) (i : Nat) : Bool := match its[i]? with | some x => klt e.key x.key | none => true

theorem pOf_mono {its : List Ent} (hs : Asc its) (e : Ent) (a b : Nat) (hab : a ≤ b) (hb : b < its.length) (h : pOf its e a = true) : pOf its e b = true := by
  unfold pOf at *
  rw [List.getElem?_eq_getElem (by omega)] at h
  rw [List.getElem?_eq_getElem hb]
  simp only at *
  rcases Nat.eq_or_lt_of_le hab with rfl | hlt
  · exact h
  · exact klt_trans h (List.pairwise_iff_getElem.1 hs a b (by omega) hb hlt)

/-- What find says of a list. -/
def Found (its : List Ent) (e : Ent) (r : Ending) : Prop :=
  (∃ A x B, its = A ++ x :: B ∧ x.key = e.key ∧ r = .returned (.tuple #[.int .i64 A.length, .bool true])) ∨
  (∃ A B, its = A ++ B ∧ (∀ a ∈ A, klt a.key e.key = true) ∧ (∀ b ∈ B, klt e.key b.key = true) ∧ r = .returned (.tuple #[.int .i64 A.length, .bool false]))

set_option maxRecDepth 100000 in
set_option maxHeartbeats 1000000 in
theorem find43_some {w : World} {g n cap : Nat} {its : List Ent} (h : Row3 w (.slice (some ⟨g, 0, none⟩) n cap) its) (hnl : n = its.length) (hs : Asc its) (hn : its.length ≤ 100000) (e : Ent) :
    Calls Try.prog 43 #[.slice (some ⟨g, 0, none⟩) n cap, e.v, lessV] w fun r w' => Found its e r ∧ Chg0 w w' := by
  obtain ⟨sp, hrow⟩ := h.blkOf
  have hn2 : n ≤ 100000 := by omega
  obtain ⟨W0, hW0, hbi, hbe, hbl, hch⟩ : ∃ W0, W0 = ((w.alloc (.cells #[.slice (some ⟨g, 0, none⟩) n cap] 102)).alloc (.cells #[.string e.key, .int .u64 e.ver, .slice e.va e.vn e.vc] 33)).alloc (.cells #[lessV] 80) ∧
      W0.heap[w.heap.size]? = some (.cells #[.slice (some ⟨g, 0, none⟩) n cap] 102 (0, 0)) ∧ W0.heap[w.heap.size + 1]? = some (.cells #[.string e.key, .int .u64 e.ver, .slice e.va e.vn e.vc] 33 (0, 0)) ∧ W0.heap[w.heap.size + 2]? = some (.cells #[lessV] 80 (0, 0)) ∧ Chg0 w W0 :=
    ⟨_, rfl, (three_boxes w _ _ _ _ _ _).1, (three_boxes w _ _ _ _ _ _).2.1, (three_boxes w _ _ _ _ _ _).2.2, (((Chg.refl _ w).alloc _).alloc _).alloc _⟩
  have hrow0 := hch.blk hrow
  have hS := search53 #[.pointer (some ⟨w.heap.size + 2, 0, none⟩), .pointer (some ⟨w.heap.size + 1, 0, none⟩), .pointer (some ⟨w.heap.size, 0, none⟩)] n (pOf its e) W0 hn2 (fun i w' hi hc => by
      have hx : its[i]? = some its[i] := List.getElem?_eq_getElem (by omega)
      obtain ⟨t0, t1, t2⟩ := ent_at (hc.blk hrow0) hx
      have hp : pOf its e i = klt e.key its[i].key := by unfold pOf; rw [hx]
      rw [hp]
      exact find1 (cell_blk (hc.blk hbl) 0) (hc.blk hbe) (cell_blk (hc.blk hbi) 0) t0 t1 t2 hi)
    (fun a b hab hb => pOf_mono hs e a b hab (by omega))
  have b0 : W0.cell? ⟨w.heap.size, 0, none⟩ = some (.slice (some ⟨g, 0, none⟩) n cap) := cell_blk hbi 0
  have b1 : W0.cell? ⟨w.heap.size + 1, 0, none⟩ = some (.string e.key) := cell_blk hbe 0
  have b2 : W0.cell? ⟨w.heap.size + 1, 1, none⟩ = some (.int .u64 e.ver) := cell_blk hbe 1
  have b3 : W0.cell? ⟨w.heap.size + 1, 2, none⟩ = some (.slice e.va e.vn e.vc) := cell_blk hbe 2
  have b4 : W0.cell? ⟨w.heap.size + 2, 0, none⟩ = some lessV := cell_blk hbl 0
  have HS := hide hS
  have Hch := hide hch
  clear hch
  have Hnl := hide hnl
  clear hS hnl hn
  unfold Ent.v
  unfold lessV at *
  go_enter Try.func43, Try.ntmps43
  go_wp2_with (go_at_call 53; rw [← hW0]; refine HS.out.mono ?_; rintro _ w1 ⟨k, rfl, hk, hk1, hk2, hc1⟩)
  have Hk1 := hide hk1
  have Hk2 := hide hk2
  have HW0 := hide hW0
  clear hk1 hk2 hW0 HS hbi hbe hbl
  cases k with
  | zero =>
    have hd : decide ((0 : Int) < 0) = false := rfl
    go_quiet (fail)
    go_wp2
    refine bodyPost_ret (v := .tuple #[.int .i64 0, .bool false]) (by simp [results, Try.results43, go_sem]) rfl ?_
    refine ⟨Or.inr ⟨[], its, rfl, fun a ha => (by cases ha), fun b hb => ?_, rfl⟩, ?_⟩
    · obtain ⟨i, hi, rfl⟩ := List.getElem_of_mem hb
      have := Hk2.out i (Nat.zero_le _) (by have := Hnl.out; omega)
      unfold pOf at this
      rw [List.getElem?_eq_getElem hi] at this
      exact this
    · exact Hch.out.trans ⟨hc1.os, hc1.tape, hc1.output, hc1.size, hc1.same⟩
  | succ m =>
    have hml : m < its.length := by have := Hnl.out; omega
    have hmn : m < n := by omega
    have hx : its[m]? = some its[m] := List.getElem?_eq_getElem hml
    obtain ⟨t0, t1, t2⟩ := ent_at (hc1.blk hrow0) hx
    have HX := hide hx
    have Hml := hide hml
    clear hx
    have hpm := Hk1.out m (by omega)
    have Hpm : Hid (klt e.key its[m].key = false) := by unfold pOf at hpm; rw [HX.out] at hpm; exact hpm
    clear hpm
    generalize hxx : its[m] = x at *
    have HXX := hide hxx
    clear hxx
    have hix : ∀ w', (Instr.indexAt 102 (.slice (some ⟨g, 0, none⟩) n cap) (.int .i64 (m : Int))).run Try.prog w' = .ok (.pointer (some ⟨g, m * 3, none⟩)) w' :=
      fun w' => run_ix (P := Try.prog) 102 3 g n cap m (m : Int) rfl hmn Try.underlying102 (fun _ => by kernel_rfl) w'
    have m0 : (0 : Int) ≤ (m : Int) := Int.natCast_nonneg _
    have m1 : (m : Int) ≤ 100000 := by omega
    have d0 := Chg0.cell hc1 b0
    have d1 := Chg0.cell hc1 b1
    have d2 := Chg0.cell hc1 b2
    have d3 := Chg0.cell hc1 b3
    have d4 := Chg0.cell hc1 b4
    clear hmn hk hml b0 b1 b2 b3 b4 hn2
    rw [show ((m + 1 : Nat) : Int) = (m : Int) + 1 from rfl]
    have hgt : (0 : Int) < (m : Int) + 1 := by omega
    have hw1 : IntKind.i64.wrap (m : Int) = (m : Int) := by rw [IntKind.wrap_i64]; omega
    have hmz : (m : Int) < (n : Int) := by have := Hml.out; have := Hnl.out; omega
    go_region_held3 (fun w' => w'.cell? ⟨w.heap.size, 0, none⟩ = some (.slice (some ⟨g, 0, none⟩) n cap) ∧ w'.cell? ⟨w.heap.size + 1, 0, none⟩ = some (.string e.key) ∧ w'.cell? ⟨w.heap.size + 1, 1, none⟩ = some (.int .u64 e.ver) ∧ w'.cell? ⟨w.heap.size + 1, 2, none⟩ = some (.slice e.va e.vn e.vc) ∧
        w'.cell? ⟨w.heap.size + 2, 0, none⟩ = some (.func (.func 29) #[] #[]) ∧ w'.cell? ⟨g, m * 3, none⟩ = some (.string x.key) ∧ w'.cell? ⟨g, m * 3 + 1, none⟩ = some (.int .u64 x.ver) ∧ w'.cell? ⟨g, m * 3 + 2, none⟩ = some (.slice x.va x.vn x.vc))
      (first | exact ⟨d0, d1, d2, d3, d4, t0, t1, t2⟩ | exact ⟨Chg0.cell hc d0, Chg0.cell hc d1, Chg0.cell hc d2, Chg0.cell hc d3, Chg0.cell hc d4, Chg0.cell hc t0, Chg0.cell hc t1, Chg0.cell hc t2⟩)
      ((go_at_call 29; refine (less29 _ x e).mono ?_; rintro _ w' ⟨rfl, hc⟩))
    all_goals
      have hcc := Hch.out.trans (hc1.trans (((Chg.refl (fun _ => 0) w1).drew).trans hc))
      cases hb : klt x.key e.key
      · go_wp2
        refine bodyPost_ret (v := .tuple #[.int .i64 m, .bool true]) (by simp [results, Try.results43, go_sem]) rfl ?_
        refine ⟨Or.inl ⟨its.take m, x, its.drop (m + 1), ?_, klt_total hb Hpm.out, ?_⟩, hcc⟩
        · rw [← HXX.out]; exact split_at its m Hml.out
        · rw [List.length_take, Nat.min_eq_left (Nat.le_of_lt Hml.out)]
      · go_wp2
        refine bodyPost_ret (v := .tuple #[.int .i64 ((m + 1 : Nat) : Int), .bool false]) (by simp [results, Try.results43, go_sem]) rfl ?_
        refine ⟨Or.inr ⟨its.take (m + 1), its.drop (m + 1), (List.take_append_drop _ _).symm, fun a ha => ?_, fun b hb2 => ?_, ?_⟩, hcc⟩
        · obtain ⟨i, hi, rfl⟩ := List.getElem_of_mem ha
          rw [List.getElem_take]
          rw [List.length_take] at hi
          have hml := Hml.out
          rcases Nat.lt_or_ge i m with h1 | h1
          · have := List.pairwise_iff_getElem.1 hs i m (by omega) hml h1
            rw [show its[m] = x from HXX.out] at this
            exact klt_trans this hb
          · have e1 : i = m := by omega
            subst e1
            rw [show its[i] = x from HXX.out]
            exact hb
        · obtain ⟨i, hi, rfl⟩ := List.getElem_of_mem hb2
          rw [List.getElem_drop]
          rw [List.length_drop] at hi
          have := Hk2.out (m + 1 + i) (by omega) (by have := Hnl.out; omega)
          unfold pOf at this
          rw [List.getElem?_eq_getElem (by omega)] at this
          exact this
        · rw [List.length_take, Nat.min_eq_left Hml.out]

set_option maxRecDepth 100000 in
set_option maxHeartbeats 1000000 in
theorem find43_nil (w : World) (e : Ent) : Calls Try.prog 43 #[.slice none 0 0, e.v, lessV] w fun r w' => Found [] e r ∧ Chg0 w w' := by
  obtain ⟨W0, hW0, hch⟩ : ∃ W0, W0 = ((w.alloc (.cells #[.slice none 0 0] 102)).alloc (.cells #[.string e.key, .int .u64 e.ver, .slice e.va e.vn e.vc] 33)).alloc (.cells #[lessV] 80) ∧ Chg0 w W0 :=
    ⟨_, rfl, (((Chg.refl _ w).alloc _).alloc _).alloc _⟩
  have hS := search53 #[.pointer (some ⟨w.heap.size + 2, 0, none⟩), .pointer (some ⟨w.heap.size + 1, 0, none⟩), .pointer (some ⟨w.heap.size, 0, none⟩)] 0 (fun _ => true) W0 (by omega) (fun i w' hi hc => by omega) (fun a b hab hb => by omega)
  have HS := hide hS
  have Hch := hide hch
  clear hS hch
  unfold Ent.v
  unfold lessV at *
  go_enter Try.func43, Try.ntmps43
  go_wp2_with (go_at_call 53; rw [← hW0]; refine HS.out.mono ?_; rintro _ w1 ⟨k, rfl, hk, hk1, hk2, hc1⟩)
  obtain rfl : k = 0 := by omega
  have HW0 := hide hW0
  clear hW0 hk1 hk2 hk HS
  have hd : decide ((0 : Int) < 0) = false := rfl
  go_quiet (fail)
  go_wp2
  refine bodyPost_ret (v := .tuple #[.int .i64 0, .bool false]) (by simp [results, Try.results43, go_sem]) rfl ?_
  exact ⟨Or.inr ⟨[], [], rfl, fun a ha => (by cases ha), fun a ha => (by cases ha), rfl⟩, Hch.out.trans ⟨hc1.os, hc1.tape, hc1.output, hc1.size, hc1.same⟩⟩

theorem find43 {w : World} {iv : Value} {its : List Ent} (h : Row3 w iv its) (hs : Asc its) (hn : its.length ≤ 100000) (e : Ent) :
    Calls Try.prog 43 #[iv, e.v, lessV] w fun r w' => Found its e r ∧ Chg0 w w' := by
  rcases h.form with ⟨h1, h2⟩ | ⟨g, cap, h1⟩
  · subst h1; subst h2
    exact find43_nil w e
  · subst h1
    exact find43_some h rfl hs hn e

end Go.Proofs.Qxb6603483a
