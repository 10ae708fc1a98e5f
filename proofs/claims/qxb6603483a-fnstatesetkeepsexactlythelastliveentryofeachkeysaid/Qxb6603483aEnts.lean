/-
  ZZentries: all that the state holds, in order.
-/
import Derived.Test.Qxb6603483aFrom
import Derived.Shelf.Abstract
import Derived.Shelf.RegionOpen
namespace Go.Proofs.Qxb6603483a
open Go.RowKit Go.Shelf
set_option linter.unusedSimpArgs false
attribute [local go_sem] Oper.semAt_some

theorem grown_cells {W W' : World} {row : Option Nat} (hg : W.grownBy W' row) (hr : ∀ r, row = some r → ∃ o : Obj, W.heap[r]? = some o ∧ o.isCells = false) {k : Nat} {cs : Array Value} {t : TypeId} {fr : Nat × Nat} (hk : W.heap[k]? = some (.cells cs t fr)) : W'.heap[k]? = some (.cells cs t fr) := by
  refine (hg.block k (heap_lt hk) (fun e => ?_)).trans hk
  obtain ⟨o, ho, h0⟩ := hr k e.symm
  rw [hk] at ho
  cases ho
  cases h0

/-- What has been gathered: in the box B (of old n₀), in a row of its own. -/
def Gath (n₀ B : Nat) (pre : List Ent) (W : World) : Prop := ∃ v, W.heap[B]? = some (.cells #[v] 35 (0, 0)) ∧ W.ownsRow n₀ 33 3 v pre.length (cellsOf pre) ∧ v.ownBlock ≠ some B

theorem ownsRow_block {w : World} {base : Nat} {e : TypeId} {size n : Nat} {v : Value} {xs : List Value} (h : w.ownsRow base e size v n xs) {k : Nat} (hk : v.ownBlock = some k) : base ≤ k ∧ ∃ cs, w.heap[k]? = some (.cells cs e (0, 0)) := by
  rcases h.2 with ⟨hv, _⟩ | ⟨g', cap, cur, hv, hb, hh, r⟩
  · rw [hv] at hk; cases hk
  · rw [hv] at hk
    have e : g' = k := by simpa [Value.ownBlock] using hk
    rw [← e]
    exact ⟨hb, _, hh⟩

theorem gath_own (n₀ B : Nat) : Own (Gath n₀ B) := fun pre W W' row hs hg hr => by
  obtain ⟨v, h1, h2, h3⟩ := hs
  refine ⟨v, grown_cells hg hr h1, ownsRow_same h2 (fun g hgv => ?_), h3⟩
  obtain ⟨_, cs, hc⟩ := ownsRow_block h2 hgv
  rw [grown_cells hg hr hc, hc]

/-- append within a fence, and where the row lies. -/
theorem wpListIn_lies {F : Fence} {n : Nat} {P : Program} (w : World) {ops : Array Oper} {rest : List Oper} {o : Oper} {a : Act} {Q : Exit → Act → World → Prop}
    (hg : o.guard = none) (s x : Operand) (t : TypeId) (hop : o.op = Op.call { callee := Callee.builtin Builtin.append, args := #[s, x], argTypes := #[t, t] })
    (base : Nat) (e : TypeId) (i : TypeInfo) (z : Value) (size bytes : Nat) (h1 : P.underlying t = some (.slice e)) (h2 : P.info? e = some i) (h3 : i.zero = some z) (h4 : i.size = size) (h5 : i.bytes = bytes) (h6 : z.cells.size = size) (h7 : 0 < size)
    (v : Value) (k : Nat) (xs : List Value) (hs : a.eval s = v) (hown : w.ownsRow base e size v k xs) (ad : Addr) (m c : Nat) (news : List Value) (hx : a.eval x = .slice (some ad) m c) (hn : news.length = m * size)
    (hc : ∀ j u, news[j]? = some u → w.cell? (ad.add j) = some u) (h1c : ∀ u ∈ news, u.oneCell' = true) (hm : 0 < m) (b1 : k + m ≤ maxLen) (b2 : (k + m) * bytes ≤ 140737488355328) (b3 : base ≤ w.heap.size)
    (hK : ∀ g cap w', w'.ownsRow base e size (.slice (some ⟨g, 0, none⟩) (k + m) cap) (k + m) (xs ++ news) → w.grownBy w' v.ownBlock → (v.ownBlock = some g ∨ g = w.heap.size) → g < w'.heap.size → wpListIn F n P ops Q rest (a.put o.dst (.slice (some ⟨g, 0, none⟩) (k + m) cap)) w') :
    wpListIn F n P ops Q (o :: rest) a w := by
  refine wpListIn_plain hg fun K hK' => ?_
  obtain ⟨g, cap, w', hrun, r1, r2, r3, r4⟩ := run_append_lies (P := P) w t o.type base e i z size bytes h1 h2 h3 h4 h5 h6 h7 v k xs hown ad m c news hn hc h1c hm b1 b2 b3 _ rfl
  unfold Oper.wpIn
  refine ⟨?_, ?_⟩
  · simp [Oper.about, hop, resolve, Target.leads, Sem.run_pure]
  · rw [Oper.semAt_plain F _ _ (by rw [hop]; intro c hc'; cases hc')]
    simp [execOp, hop, resolve, invoke, builtin, hs, hx, hrun, Result.andThen]
    exact hK' _ _ (hK g cap w' r1 r2 r3 r4)

/-- One more gathered. -/
theorem gath_step {w W w1 : World} {n₀ C : Nat} {pre : List Ent} {x : Ent} {v : Value} {g cap : Nat} {Z : Obj} (hn : n₀ = w.heap.size) (hv1 : W.heap[n₀]? = some (.cells #[v] 35 (0, 0))) (hv2 : W.ownsRow n₀ 33 3 v pre.length (cellsOf pre)) (hv3 : v.ownBlock ≠ some n₀) (hB1 : Below n₀ w W)
    (hown : w1.ownsRow n₀ 33 3 (.slice (some ⟨g, 0, none⟩) (pre.length + 1) cap) (pre.length + 1) (cellsOf pre ++ [.string x.key, .int .u64 x.ver, .slice x.va x.vn x.vc])) (hgrow : (W.alloc Z).grownBy w1 v.ownBlock) (hat : v.ownBlock = some g ∨ g = (W.alloc Z).heap.size) (hlt : g < w1.heap.size) :
    w1.heap[n₀]? = some (.cells #[v] 35 (0, 0)) ∧ KeepsFrom C W (w1.setCell ⟨n₀, 0, none⟩ (.slice (some ⟨g, 0, none⟩) (pre.length + 1) cap)) ∧ Keep n₀ W (w1.setCell ⟨n₀, 0, none⟩ (.slice (some ⟨g, 0, none⟩) (pre.length + 1) cap)) ∧
      Gath n₀ n₀ (pre ++ [x]) (w1.setCell ⟨n₀, 0, none⟩ (.slice (some ⟨g, 0, none⟩) (pre.length + 1) cap)) ∧ Below n₀ w (w1.setCell ⟨n₀, 0, none⟩ (.slice (some ⟨g, 0, none⟩) (pre.length + 1) cap)) := by
  have hnl := heap_lt hv1
  have hal : ∀ k, k < W.heap.size → (W.alloc Z).heap[k]? = W.heap[k]? := fun k hk => Below.heap_alloc _ _ _ hk
  have hsz : (W.alloc Z).heap.size = W.heap.size + 1 := by simp
  have hs1 := hgrow.size
  have hkeep : ∀ k, k < W.heap.size → some k ≠ v.ownBlock → w1.heap[k]? = W.heap[k]? := fun k hk hne => (hgrow.block k (by omega) hne).trans (hal k hk)
  have hb1 : w1.heap[n₀]? = some (.cells #[v] 35 (0, 0)) := (hkeep n₀ hnl (fun e => hv3 e.symm)).trans hv1
  have hb2 := heap_setCell_blk hb1 0 (.slice (some ⟨g, 0, none⟩) (pre.length + 1) cap)
  have ho : ∀ k, k ≠ n₀ → (w1.setCell ⟨n₀, 0, none⟩ (.slice (some ⟨g, 0, none⟩) (pre.length + 1) cap)).heap[k]? = w1.heap[k]? := fun k hk => Below.heap_setCell _ _ _ _ hk
  have hsz2 : (w1.setCell ⟨n₀, 0, none⟩ (.slice (some ⟨g, 0, none⟩) (pre.length + 1) cap)).heap.size = w1.heap.size := by simp [World.setCell]
  have hvW : ∀ k, v.ownBlock = some k → n₀ ≤ k ∧ k < W.heap.size ∧ ∃ cs, W.heap[k]? = some (.cells cs 33 (0, 0)) := fun k hk => by
    obtain ⟨h1, cs, h2⟩ := ownsRow_block hv2 hk
    exact ⟨h1, heap_lt h2, cs, h2⟩
  have hgn : g ≠ n₀ := fun e => by
    rcases hat with h | h
    · exact hv3 (by rw [h, e])
    · omega
  have hout : outRow W n₀ = v.ownBlock := by unfold outRow; rw [cell_blk hv1 0]; rfl
  have hout2 : outRow (w1.setCell ⟨n₀, 0, none⟩ (.slice (some ⟨g, 0, none⟩) (pre.length + 1) cap)) n₀ = some g := by unfold outRow; rw [cell_blk hb2 0]; rfl
  refine ⟨hb1, ⟨by omega, fun k o _ hk hc => ?_⟩, ⟨by omega, fun k cs t fr hk h1 h2 => ?_, fun g' hg' => ?_⟩, ⟨_, hb2, ?_, ?_⟩, ⟨?_, ?_, ?_, by have := hB1.size; omega, fun k hk => ?_⟩⟩
  · have hne : some k ≠ v.ownBlock := fun e => by
      obtain ⟨_, _, cs, h3⟩ := hvW k e.symm
      rw [hk] at h3
      cases h3
      cases hc
    have hkn : k ≠ n₀ := fun e => by
      subst e
      rw [hk] at hv1
      cases hv1
      cases hc
    exact (ho k hkn).trans ((hkeep k (heap_lt hk) hne).trans hk)
  · rw [hout] at h2
    exact (ho k h1).trans ((hkeep k (heap_lt hk) h2).trans hk)
  · rw [hout2] at hg'
    cases hg'
    rw [hout]
    rcases hat with h | h
    · exact Or.inl h
    · exact Or.inr ⟨by omega, by omega⟩
  · have e1 : (pre ++ [x]).length = pre.length + 1 := by simp
    have e2 : cellsOf (pre ++ [x]) = cellsOf pre ++ [.string x.key, .int .u64 x.ver, .slice x.va x.vn x.vc] := by rw [cellsOf_append]; rfl
    rw [e1, e2]
    refine ownsRow_same hown (fun k hk => ho k (fun e => ?_))
    have : g = k := by simpa [Value.ownBlock] using hk
    omega
  · intro e
    have : g = n₀ := by simpa [Value.ownBlock] using e
    omega
  · exact hgrow.os.trans hB1.os
  · exact hgrow.tape.trans hB1.tape
  · exact hgrow.output.trans hB1.output
  · have hkW : k < W.heap.size := by have := hB1.size; omega
    exact (ho k (by omega)).trans ((hkeep k hkW (fun e => by have := (hvW k e.symm).1; omega)).trans (hB1.block k hk))

set_option maxRecDepth 100000 in
set_option maxHeartbeats 4000000 in
theorem ents11 {w : World} {st : Nat} {X : List Ent} {F : Nat → Nat} (H : Sta w st X F) (hN : X.length ≤ 100000) :
    Calls Try.prog 11 #[.pointer (some ⟨st, 0, none⟩)] w fun r w' => ∃ v, r = .returned v ∧ w'.ownsRow w.heap.size 33 3 v X.length (cellsOf X) ∧ Below w.heap.size w w' := by
  obtain ⟨t, mb, clk, cs, hb, h0, h28, hm, B, hf1, hf2⟩ := H
  obtain ⟨i0, hi0, hz0, hz1, hz2⟩ := info_parts info33
  refine (callsIn_wide (n := 3)).1 ?_
  refine callsIn_of_wp_marks Try.func11 rfl trivial ?_ rfl
  simp only [Try.ntmps11, List.size_toArray, List.length_cons, List.length_nil, Nat.reduceAdd, Nat.reduceSub, Array.replicate_succ, Array.replicate_zero, List.push_toArray, List.append_toArray, List.nil_append, List.cons_append]
  have hdd : ∀ k : Nat, (Fence.wide.depth.isSome = true → 1 ≤ k) := fun k h => by cases h
  have s0 : w.cell? ⟨st, 0, none⟩ = some (.pointer (some ⟨t, 0, none⟩)) := (cell_blk hb 0).trans h0
  have s0a : ∀ o, (w.alloc o).cell? ⟨st, 0, none⟩ = some (.pointer (some ⟨t, 0, none⟩)) := fun o => (World.cell?_alloc_some w _ o (by rw [s0]; rfl)).trans s0
  gi_wp2
  refine ⟨trivial, ?_⟩
  refine (callsIn_wide.2 from22).mono ?_
  rintro e w' ⟨rfl, rfl⟩
  gi_wp2
  obtain ⟨W0, hW0, hB0, h10, h20, hc0, hsz0⟩ : ∃ W0, ((w.alloc (.cells #[.slice none 0 0] 35)).alloc (.cells #[.pointer (some ⟨t, 0, none⟩)] 48)).alloc (.cells #[.string ⟨#[]⟩] 9) = W0 ∧ W0.heap[w.heap.size]? = some (.cells #[.slice none 0 0] 35 (0, 0)) ∧ W0.heap[w.heap.size + 1]? = some (.cells #[.pointer (some ⟨t, 0, none⟩)] 48 (0, 0)) ∧ W0.heap[w.heap.size + 1 + 1]? = some (.cells #[.string ⟨#[]⟩] 9 (0, 0)) ∧ Chg0 w W0 ∧ W0.heap.size = w.heap.size + 3 :=
    ⟨_, rfl, (three_boxes w _ _ _ _ _ _).1, (three_boxes w _ _ _ _ _ _).2.1, (three_boxes w _ _ _ _ _ _).2.2, (((Chg.refl _ w).alloc _).alloc _).alloc _, by simp⟩
  rw [hW0]
  clear hW0 s0 s0a
  have hOk : Okay w.heap.size W0 := ⟨by omega, fun g hg => by
    unfold outRow at hg
    rw [cell_blk hB0 0] at hg
    cases hg⟩
  have hAp : Apart w.heap.size W0 F := fun k hk => by
    have := B.lt k hk
    refine ⟨by omega, fun e => ?_, by omega⟩
    unfold outRow at e
    rw [cell_blk hB0 0] at e
    cases e
  have hbel : Below w.heap.size w W0 := ⟨hc0.os, hc0.tape, hc0.output, hc0.size, fun k hk => hc0.same k hk rfl⟩
  refine wpIn_rangeFunc_ownH rfl (by omega) (gf := 26) (lb := #[.pointer (some ⟨w.heap.size + 1, 0, none⟩), .pointer (some ⟨w.heap.size + 1 + 1, 0, none⟩)]) rfl trivial (enters_of Try.func26 (by kernel_rfl) rfl)
    (from_stops (n := 3 - 1) (B := w.heap.size) (N := X.length) (B.grew hc0) hAp hOk (Nat.le_refl _) h10 h20) (fun h k => h.trans k) (fun W l o o' hl ho hcl _ => ?kb) (Below.refl _ _) (fun _ => rfl)
    (fun pre W => Gath w.heap.size w.heap.size pre W ∧ Below w.heap.size w W)
    (fun _ _ _ => False)
    (OwnFrom.and (Own.from (gath_own _ _) _) (ownFrom_below (Nat.le_refl _) (by omega)))
    (fun _ _ _ _ _ hs _ _ => hs)
    ⟨⟨_, hB0, World.ownsRow_nil _ _ _ _, by simp [Value.ownBlock]⟩, hbel⟩
    (fun x a' W => ∃ Bx, w.heap.size < Bx ∧ W.heap[Bx]? = some (.cells #[.string x.key, .int .u64 x.ver, .slice x.va x.vn x.vc] 33 (0, 0)) ∧ (∃ v, W.heap[w.heap.size]? = some (.cells #[v] 35 (0, 0)) ∧ v.ownBlock ≠ some Bx) ∧
      a' = { tmps := #[.pointer (some ⟨st, 0, none⟩), undef, .slice none 0 0, .pointer (some ⟨w.heap.size, 0, none⟩), .pointer (some ⟨Bx, 0, none⟩), .pointer (some ⟨st, 0, none⟩), .pointer (some ⟨st, 0, none⟩), .pointer (some ⟨st, 0, none⟩), .agg #[.pointer (some ⟨t, 0, none⟩)], .func (.func 26) #[] #[.pointer (some ⟨w.heap.size + 1, 0, none⟩), .pointer (some ⟨w.heap.size + 1 + 1, 0, none⟩)], .agg #[.string x.key, .int .u64 x.ver, .slice x.va x.vn x.vc], undef, undef, undef, undef, undef], defers := [] })
    (fun x a' _ Y Z row hs hg hr => by obtain ⟨Bx, h1, h2, ⟨v, h3, h4⟩, h5⟩ := hs; exact ⟨Bx, h1, grown_cells hg (fun r e => (hr r e).2) h2, ⟨v, grown_cells hg (fun r e => (hr r e).2) h3, h4⟩, h5⟩)
    ?assign ?body ?done ?stop
  case kb =>
    have hne : ∀ k cs t fr, W.heap[k]? = some (.cells cs t fr) → k ≠ l := fun k cs t fr hk e => by subst e; rw [hk] at ho; cases ho; cases hcl
    exact ⟨by simp, fun k cs t fr hk _ _ => (World.putObj_heap_other (hne k cs t fr hk)).trans hk, fun g hg => Or.inl (by rw [← outRow_same (World.putObj_heap_other (r := l) (o := o') (by omega))]; exact hg)⟩
  case assign =>
    rintro l pre x W K ⟨hs, hB1⟩ hK
    obtain ⟨v, hv1, hv2, hv3⟩ := id hs
    have hfr : v.ownBlock ≠ some W.heap.size := fun e => by have := ownsRow_lt hv2 e; omega
    have hv1' : (W.alloc (Obj.cells #[.string x.key, .int .u64 x.ver, .slice x.va x.vn x.vc] 33)).heap[w.heap.size]? = some (.cells #[v] 35 (0, 0)) := (Below.heap_alloc _ _ _ (heap_lt hv1)).trans hv1
    have Hs := hide hs
    have Hlt := hide (heap_lt hv1)
    clear hs
    unfold encE
    gi_wp2
    exact hK _ _ ((KeepsOthers.alloc _ _).from _) (Keep.chg0 ((Chg.refl _ W).alloc _) Hlt.out) ⟨(gath_own _ _).alloc _ Hs.out, hB1.alloc hB1.size _⟩ ⟨W.heap.size, Hlt.out, heap_alloc_new W _, ⟨v, hv1', hfr⟩, rfl⟩
  case body =>
    rintro l pre x a' W hl ⟨r, hr⟩ ⟨⟨v, hv1, hv2, hv3⟩, hB1⟩ ⟨Bx, hBx, hx, ⟨v', hv', hvx⟩, rfl⟩ hlt
    have c0 : W.cell? ⟨w.heap.size, 0, none⟩ = some v := cell_blk hv1 0
    have e0 : W.cell? ⟨Bx, 0, none⟩ = some (.string x.key) := cell_blk hx 0
    have e1 : W.cell? ⟨Bx, 1, none⟩ = some (.int .u64 x.ver) := cell_blk hx 1
    have e2 : W.cell? ⟨Bx, 2, none⟩ = some (.slice x.va x.vn x.vc) := cell_blk hx 2
    have hbs := hB1.size
    gi_wp2_with (gi_at_builtin; refine wpListIn_lies _ rfl _ _ 35 rfl w.heap.size 33 i0 _ 3 48 Try.underlying35 hi0 hz0 hz1 hz2 rfl (by decide) v pre.length (cellsOf pre) rfl (hv2.alloc _) ⟨W.heap.size, 0, none⟩ 1 1 [.string x.key, .int .u64 x.ver, .slice x.va x.vn x.vc] rfl rfl (World.news_of_block (cs := #[.string x.key, .int .u64 x.ver, .slice x.va x.vn x.vc]) (t := 33) (fr := (0, 0)) (heap_alloc_new W _)) (by simp [Value.oneCell']) (by omega) (by unfold maxLen; omega) (by omega) (by simp; omega) ?_; intro g cap w1 hown hgrow hat hlt1; obtain ⟨hb1, hk1, hk2, hG1, hB2⟩ := gath_step (C := W0.heap.size) (x := x) rfl hv1 hv2 hv3 hB1 hown hgrow hat hlt1; have c1 : w1.cell? ⟨w.heap.size, 0, none⟩ = some v := cell_blk hb1 0; have f1 : w1.frozen? ⟨w.heap.size, 0, none⟩ = false := frozen_blk hb1 0)
    exact ⟨hk1, hk2, hG1, hB2⟩
  case done =>
    rintro D ys W hD rfl ⟨⟨v, hv1, hv2, hv3⟩, hB1⟩ hK
    have hv0 : W.cell? ⟨w.heap.size, 0, none⟩ = some v := cell_blk hv1 0
    gi_wp2
    refine ⟨by simp, .inl ⟨_, _, rfl, run_takeDeferred hK, ?_⟩⟩
    refine ⟨_, results_tmp rfl _ _ _, ?_⟩
    exact ⟨v, rfl, ownsRow_putObj hv2 _ hK rfl, hB1.trans ⟨rfl, rfl, rfl, by simp, fun k hk => World.putObj_heap_other (by omega)⟩⟩
  case stop =>
    rintro D c pre W _ _ h _
    exact h.elim

end Go.Proofs.Qxb6603483a
