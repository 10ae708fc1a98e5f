/-
  cloneSteps: the steps, in a row of their own, each value in a row of its own.
-/
import Derived.Test.Qxb6603483aCount
namespace Go.Proofs.Qxb6603483a
open Go.RowKit
set_option linter.unusedSimpArgs false
attribute [local go_sem ↓] Go.wp_at_zero Go.wp_at_succ

theorem made_ents (n : Nat) : madeCells (Value.agg #[.string ⟨#[]⟩, .int .u64 0, .slice none 0 0]).cells (n * 3) = (cellsOf (List.replicate n ent0)).toArray := by
  have hz : (Value.agg #[.string ⟨#[]⟩, .int .u64 0, .slice none 0 0]).cells = #[.string ⟨#[]⟩, .int .u64 0, .slice none 0 0] := by simp [Value.cells]
  rw [hz]
  apply Array.ext
  · rw [size_madeCells]; simp [cellsOf_length]
  · intro i h1 h2
    rw [size_madeCells] at h1
    have hq : i / 3 < n := by omega
    obtain ⟨g0, g1, g2⟩ := cellsOf_get (es := List.replicate n ent0) (i := i / 3) (e := ent0) (by rw [List.getElem?_replicate, if_pos hq])
    have h3 : i % 3 = 0 ∨ i % 3 = 1 ∨ i % 3 = 2 := by omega
    apply Option.some.inj
    rw [← Array.getElem?_eq_getElem, ← Array.getElem?_eq_getElem, show (cellsOf (List.replicate n ent0)).toArray[i]? = (cellsOf (List.replicate n ent0))[i]? from by simp]
    rcases h3 with h | h | h
    · rw [show (i / 3) * 3 = i by omega] at g0
      rw [g0]; simp [madeCells, h, h1]; rfl
    · rw [show (i / 3) * 3 + 1 = i by omega] at g1
      rw [g1]; simp [madeCells, h, h1]; rfl
    · rw [show (i / 3) * 3 + 2 = i by omega] at g2
      rw [g2]; simp [madeCells, h, h1]; exact ⟨rfl, rfl, rfl⟩

theorem make_ents (n : Nat) (hn : n ≤ 4096) (w : World) :
    (Instr.makeSlice 22 (.int .i64 (n : Int)) (.int .i64 (n : Int))).run Try.prog w = .ok (.slice (some ⟨w.heap.size, 0, none⟩) n n) (w.alloc (.cells (cellsOf (List.replicate n ent0)).toArray 31)) := by
  obtain ⟨i, hi, hzz⟩ := Option.map_eq_some_iff.1 info31
  simp only [Prod.mk.injEq] at hzz
  obtain ⟨hz, hs, hb⟩ := hzz
  have hr := run_make (P := Try.prog) w 22 31 i _ Try.underlying22 hi hz .i64 .i64 n n (by omega) (Int.le_refl _) (by rw [hb]; omega) (by omega)
  simp only [Int.toNat_natCast, hs, made_ents] at hr
  exact hr

/-- The values of the steps lie in rows of their own. -/
def ValsAt (w : World) (L : List Ent) : Prop := ∀ e ∈ L, ValAt w e.va e.vn e.vc

/-- While the copy goes on: the first i values are there, all behind g. -/
def Part (w : World) (g i n : Nat) (L : List Ent) : Prop :=
  L.length = n ∧ w.heap[g]? = some (.cells (cellsOf L).toArray 31 (0, 0)) ∧ ∀ k e, k < i → L[k]? = some e → ValAt w e.va e.vn e.vc ∧ ∀ b, e.va = some ⟨b, 0, none⟩ → g < b

theorem part_step {w0 W w3 : World} {g i n : Nat} {L : List Ent} {s : Ent} {va : Option Addr} {vn vc : Nat} (h : Part W g i n L) (hi : i < n) (hw0 : Below g w0 W)
    (hB : Below W.heap.size ((W.setCell ⟨g, i * 3, none⟩ (.string s.key)).setCell ⟨g, i * 3 + 1, none⟩ (.int .u64 s.ver)) w3) (hv : ValAt w3 va vn vc) (hg : ∀ b, va = some ⟨b, 0, none⟩ → W.heap.size ≤ b) :
    (∃ L', Part (w3.setCell ⟨g, i * 3 + 2, none⟩ (.slice va vn vc)) g (i + 1) n L') ∧ Below g w0 (w3.setCell ⟨g, i * 3 + 2, none⟩ (.slice va vn vc)) := by
  obtain ⟨hL, hrow, hvals⟩ := h
  have hgl : g < W.heap.size := heap_lt' hrow
  have hr2 := heap_setCell_blk (heap_setCell_blk hrow (i * 3) (.string s.key)) (i * 3 + 1) (.int .u64 s.ver)
  have hr3 : w3.heap[g]? = _ := (hB.block g hgl).trans hr2
  have hr4 := heap_setCell_blk hr3 (i * 3 + 2) (.slice va vn vc)
  simp only [List.setIfInBounds_toArray] at hr4
  have hcs := cellsOf_set L i ⟨s.key, s.ver, va, vn, vc⟩ (by omega)
  simp only at hcs
  rw [hcs] at hr4
  have hkeep : ∀ b o, b ≠ g → W.heap[b]? = some o → (w3.setCell ⟨g, i * 3 + 2, none⟩ (.slice va vn vc)).heap[b]? = some o := fun b o hb hh => by
    rw [Below.heap_setCell _ _ _ _ hb, hB.block b (heap_lt' hh), Below.heap_setCell _ _ _ _ hb, Below.heap_setCell _ _ _ _ hb]
    exact hh
  refine ⟨⟨L.set i ⟨s.key, s.ver, va, vn, vc⟩, by rw [List.length_set]; exact hL, hr4, fun k e hk he => ?_⟩, ?_⟩
  · by_cases hki : k = i
    · subst hki
      rw [List.getElem?_set_self (by omega)] at he
      injection he with he
      subst he
      refine ⟨hv.grew (fun b cs hb hh => ?_), fun b hb => Nat.lt_of_lt_of_le hgl (hg b hb)⟩
      have hbg : b ≠ g := by have := hg b hb; omega
      rw [Below.heap_setCell _ _ _ _ hbg]
      exact hh
    · rw [List.getElem?_set_ne (fun h => hki h.symm)] at he
      obtain ⟨h1, h2⟩ := hvals k e (by omega) he
      exact ⟨h1.grew (fun b cs hb hh => hkeep b _ (by have := h2 b hb; omega) hh), h2⟩
  · have hB2 : Below g w0 ((W.setCell ⟨g, i * 3, none⟩ (.string s.key)).setCell ⟨g, i * 3 + 1, none⟩ (.int .u64 s.ver)) := (hw0.setCell (p := ⟨g, i * 3, none⟩) (Nat.le_refl _) _).setCell (p := ⟨g, i * 3 + 1, none⟩) (Nat.le_refl _) _
    exact (hB2.trans (hB.mono (by omega))).setCell (p := ⟨g, i * 3 + 2, none⟩) (Nat.le_refl _) _

def Cloned (w : World) (r : Ending) (w' : World) : Prop := ∃ v L, r = .returned v ∧ RowS w' v L ∧ L.length ≤ 4096 ∧ ValsAt w' L ∧ Below w.heap.size w w'

set_option maxRecDepth 100000 in
set_option maxHeartbeats 1000000 in
theorem clone7 {w : World} {a : Option Addr} {n c : Nat} {S : Nat → Ent} {E : Nat → Addr} (h : StepsIn w a n c S E) (hn : n ≤ 4096) (ha : a = none → n = 0) (hvn : ∀ k, k < n → (S k).vn ≤ 1048576) :
    Calls Try.prog 7 #[.slice a n c] w fun r w' => Cloned w r w' := by
  have heq : ∀ (x : Option Addr) n c w', (binOp .eql 22 (.slice x n c) (.slice none 0 0)).run Try.prog w' = .ok (.bool x.isNone) w' := fun x n c w' => Lib.run_eql_slice_nil w' 22 31 x n c 0 0 Try.underlying22
  cases a with
  | none =>
    have h0 := ha rfl
    subst h0
    clear h ha hvn
    go_enter Try.func7, Try.ntmps7
    go_wp2
    go_ret
    exact ⟨_, [], rfl, ⟨rfl, Or.inl ⟨rfl, rfl⟩⟩, Nat.zero_le _, fun e he => (by cases he), Below.refl _ _⟩
  | some ad =>
    have hmk := make_ents n hn w
    obtain ⟨W, hW, hrow, hB⟩ : ∃ W, w.alloc (.cells (cellsOf (List.replicate n ent0)).toArray 31) = W ∧ W.heap[w.heap.size]? = some (.cells (cellsOf (List.replicate n ent0)).toArray 31 (0, 0)) ∧ Below w.heap.size w W := ⟨_, rfl, heap_alloc_new w _, (Below.refl _ w).alloc (Nat.le_refl _) _⟩
    rw [hW] at hmk
    have Hs := hide h
    have Hvn := hide hvn
    clear hW h hvn ha
    go_enter Try.func7, Try.ntmps7
    go_wp2
    clear hmk
    go_loopg [4] n (fun kx s4 wr => ∃ (i : Nat) (L : List Ent), s4 = .int .i64 i ∧ i ≤ n ∧ n - i ≤ kx ∧ Part wr w.heap.size i n L ∧ Below w.heap.size w wr)
    case atStart => exact ⟨0, _, rfl, Nat.zero_le _, by omega, ⟨List.length_replicate .., hrow, fun k e hk => by omega⟩, hB⟩
    case round =>
      obtain ⟨i, L, rfl, hin, hkx, hP, hBk⟩ := hrel
      have HP := hide hP
      obtain ⟨hL, hrk, -⟩ := hP
      by_cases hlt : i < n
      · have hlt' : (i : Int) < (n : Int) := by omega
        have hix := fun w' => Hs.out.ix i w' hlt
        have hiy : ∀ w', (Instr.indexAt 22 (.slice (some ⟨w.heap.size, 0, none⟩) n n) (.int .i64 (i : Int))).run Try.prog w' = .ok (.pointer (some ⟨w.heap.size, i * 3, none⟩)) w' := fun w' => run_ix (P := Try.prog) 22 3 w.heap.size n n i (i : Int) rfl hlt Try.underlying22 (fun _ => by kernel_rfl) w'
        have HS := Hs.out.grew hBk
        have c0 := HS.c0 i hlt
        have c1 := HS.c1 i hlt
        have c2 := HS.c2 i hlt
        have hEb : (E i).block < w.heap.size := Hs.out.blk i hlt
        have hEg : (E i).block ≠ w.heap.size := by omega
        have HSs := hide HS
        have HL := hide hL
        obtain ⟨hi0, hi1, hi2⟩ : i * 3 < (cellsOf L).length ∧ i * 3 + 1 < (cellsOf L).length ∧ i * 3 + 2 < (cellsOf L).length := by rw [cellsOf_length, hL]; omega
        clear HS hL
        have d0 : ∃ y, wr.cell? ⟨w.heap.size, i * 3, none⟩ = some y := ⟨_, by rw [cell_blk hrk]; simp [hi0]; rfl⟩
        have d1 : ∃ y, wr.cell? ⟨w.heap.size, i * 3 + 1, none⟩ = some y := ⟨_, by rw [cell_blk hrk]; simp [hi1]; rfl⟩
        have d2 : ∃ y, wr.cell? ⟨w.heap.size, i * 3 + 2, none⟩ = some y := ⟨_, by rw [cell_blk hrk]; simp [hi2]; rfl⟩
        obtain ⟨y0, d0⟩ := d0
        obtain ⟨y1, d1⟩ := d1
        obtain ⟨y2, d2⟩ := d2
        have f0 := frozen_blk hrk (i * 3)
        have f1 := frozen_blk hrk (i * 3 + 1)
        have f2 := frozen_blk hrk (i * 3 + 2)
        clear hi0 hi1
        go_wp2_with fail
        obtain ⟨W2, hW2⟩ : ∃ W2, W2 = (wr.setCell ⟨w.heap.size, i * 3, none⟩ (.string (S i).key)).setCell ⟨w.heap.size, i * 3 + 1, none⟩ (.int .u64 (S i).ver) := ⟨_, rfl⟩
        have hsz : W2.heap.size = wr.heap.size := by rw [hW2]; simp [World.setCell]
        have hB2 : Below w.heap.size w W2 := by rw [hW2]; exact (hBk.setCell (p := ⟨w.heap.size, i * 3, none⟩) (Nat.le_refl _) _).setCell (p := ⟨w.heap.size, i * 3 + 1, none⟩) (Nat.le_refl _) _
        have hr2 := heap_setCell_blk (heap_setCell_blk hrk (i * 3) (.string (S i).key)) (i * 3 + 1) (.int .u64 (S i).ver)
        rw [← hW2] at hr2 ⊢
        have HW2 := hide hW2
        clear hW2
        refine (clone19 ((Hs.out.grew hB2).val i hlt) (Nat.le_trans (Hvn.out i hlt) (by decide))).mono ?_
        rintro r w3 ⟨va, vc, rfl, hv, hg, hB3⟩
        have hr3 := (hB3.block _ (heap_lt' hr2)).trans hr2
        have e2 : ∃ y, w3.cell? ⟨w.heap.size, i * 3 + 2, none⟩ = some y := ⟨_, by rw [cell_blk hr3]; simp [hi2]; rfl⟩
        obtain ⟨z2, e2⟩ := e2
        have f3 := frozen_blk hr3 (i * 3 + 2)
        have hst := part_step (va := va) (vn := (S i).vn) (vc := vc) (s := S i) HP.out hlt hBk (by rw [← HW2.out, ← hsz]; exact hB3) hv (fun b hb => by rw [← hsz]; exact hg b hb)
        have Hst := hide hst
        clear hst hr2 hr3 hv hg hi2
        go_wp2
        go_roundg (n - (i + 1))
        case measure => omega
        case rel =>
          obtain ⟨⟨L', hL'⟩, hBz⟩ := Hst.out
          exact ⟨i + 1, L', by simp, by omega, Nat.le_refl _, hL', hBz⟩
      · have hlt' : ¬ (i : Int) < (n : Int) := by omega
        have hie : i = n := by omega
        have HL := hide hL
        clear hL
        go_wp2
        go_ret
        refine ⟨_, L, rfl, ?_, by rw [HL.out]; exact hn, fun e he => ?_, hBk⟩
        · exact RowS.shut (sp := []) (by rw [List.append_nil]; exact hrk) (by rw [List.append_nil, cellsOf_length, HL.out]) HL.out.symm (Nat.le_refl _) (Nat.le_trans hn (by decide))
        · obtain ⟨k, hk⟩ := List.getElem?_of_mem he
          have hkl := (List.getElem?_eq_some_iff.1 hk).1
          exact (HP.out.2.2 k e (by rw [HL.out] at hkl; omega) hk).1

end Go.Proofs.Qxb6603483a
