/-
  The law: every set on the state and on the model; then the two are compared.
-/
import Derived.Test.Qxb6603483aBoth
namespace Go.Proofs.Qxb6603483a
open Go.RowKit
set_option linter.unusedSimpArgs false
attribute [local go_sem ↓] Go.wp_at_zero Go.wp_at_succ

theorem Sta.grew {w w' : World} {st : Nat} {X : List Ent} {F : Nat → Nat} (h : Sta w st X F) (hc : Chg0 w w') : Sta w' st X F := by
  obtain ⟨t, mb, clk, cs, hb, h0, h28, hm, B, hf1, hf2⟩ := h
  exact ⟨t, mb, clk, cs, hc.blk hb, h0, h28, hc.blk hm, B.grew hc, hf1, hf2⟩
theorem Sta.lt {w : World} {st : Nat} {X : List Ent} {F : Nat → Nat} (h : Sta w st X F) {k : Nat} (hk : w.heap.size ≤ k) : F k = 0 := by
  obtain ⟨t, mb, clk, cs, hb, h0, h28, hm, B, hf1, hf2⟩ := h
  by_cases e : 1 ≤ F k
  · have := B.lt k e; omega
  · omega
theorem Sta.asc {w : World} {st : Nat} {X : List Ent} {F : Nat → Nat} (h : Sta w st X F) : Asc X := by
  obtain ⟨t, mb, clk, cs, hb, h0, h28, hm, B, hf1, hf2⟩ := h
  exact B.1

def LawOK (w : World) (r : Ending) (w' : World) : Prop := r = .returned (.bool true) ∧ Below w.heap.size w w'

set_option maxRecDepth 100000 in
set_option maxHeartbeats 1000000 in
theorem law3 {w : World} {a : Option Addr} {n c : Nat} {S : Nat → Ent} {E : Nat → Addr} (h : StepsIn w a n c S E) (ha : a = none → n = 0) :
    Calls Try.prog 3 #[.slice a n c] w fun r w' => LawOK w r w' := by
  have Hs := hide h
  have Ha := hide ha
  clear h ha
  go_enter Try.func3, Try.ntmps3
  go_wp2_with fail
  refine (zzbytes5 Hs.out).mono ?_
  rintro r w' ⟨hw', b, rfl, hvn⟩
  have hw2 := hw'.symm
  clear hw'
  subst hw2
  cases b with
  | false =>
    clear hvn
    go_wp2
    go_ret
    exact ⟨rfl, Below.refl _ _⟩
  | true =>
    have Hvn := hide (hvn rfl)
    clear hvn
    by_cases hn : n ≤ 4096
    · have hn' : (n : Int) ≤ 4096 := by omega
      go_wp2_with fail
      refine (stepbytes6 Hs.out hn).mono ?_
      rintro r w1 ⟨hB1, z, rfl⟩
      by_cases hz : z ≤ 1048576
      · have hz' : ¬ 1048576 < z := by omega
        go_wp2_with fail
        refine (clone7 (Hs.out.grew hB1) hn Ha.out Hvn.out).mono ?_
        rintro r w2 ⟨sv, L, rfl, hrow, hL, hvals, hB2⟩
        go_wp2_with fail
        refine (new8 (w := w2)).mono ?_
        rintro r w3 ⟨st, F, rfl, hc3, hsta, hF0, -⟩
        have hBoth0 := both_start hc3 hsta hF0
        have hB02 : Below w.heap.size w w2 := hB1.trans (hB2.mono hB1.size)
        obtain ⟨sa, m, sc, rfl, hm⟩ : ∃ sa m sc, sv = .slice sa m sc ∧ m = L.length := by
          rcases hrow.form with ⟨h1, h2⟩ | ⟨g, cap, h1⟩
          · exact ⟨none, 0, 0, h1, by rw [h2]; rfl⟩
          · exact ⟨_, _, _, h1, rfl⟩
        have Hm := hide hm
        have hm4 : m ≤ 4096 := by omega
        have Hrow := hide hrow
        have Hvals := hide hvals
        unfold ptr
        clear hrow hvals hm hL hsta hF0 hc3
        go_wp2
        go_loopg [4, 5] m (fun kx s4 s5 wr => ∃ (i : Nat) (X : List Ent) (F : Nat → Nat), s5 = .int .i64 i ∧ i ≤ m ∧ m - i ≤ kx ∧ X.length ≤ i ∧ (∀ e ∈ X, e ∈ L) ∧ Both w2 wr st s4 X X F)
        case atStart => exact ⟨0, [], F, rfl, Nat.zero_le _, by omega, Nat.le_refl _, fun e he => (by cases he), hBoth0⟩
        case round =>
          obtain ⟨i, X, F, rfl, him, hkx, hX, hXL, hBoth⟩ := hrel
          have HB := hide hBoth
          have HX := hide hX
          have HXL := hide hXL
          clear hX hXL hBoth
          by_cases hlt : i < m
          · have hlt' : (i : Int) < (m : Int) := by omega
            obtain ⟨e, he⟩ : ∃ e, L[i]? = some e := ⟨_, List.getElem?_eq_getElem (by have := Hm.out; omega)⟩
            have hrw : RowS wr (.slice sa m sc) L := Hrow.out.same (fun k hk => HB.out.bel.block k (Hrow.out.lt hk))
            obtain ⟨gs, rfl⟩ : ∃ gs, sa = some ⟨gs, 0, none⟩ := by
              rcases hrw.form with ⟨h1, h2⟩ | ⟨g, cap, h1⟩
              · rw [h2] at he; cases he
              · injection h1 with h1; exact ⟨_, h1⟩
            obtain ⟨sp, hblk, -⟩ := hrw.open'
            obtain ⟨c0, c1, c2⟩ := entS_at hblk he
            have hix : ∀ w', (Instr.indexAt 22 (.slice (some ⟨gs, 0, none⟩) m sc) (.int .i64 (i : Int))).run Try.prog w' = .ok (.pointer (some ⟨gs, i * 3, none⟩)) w' := fun w' => run_ix (P := Try.prog) 22 3 gs m sc i (i : Int) rfl hlt Try.underlying22 (fun _ => by kernel_rfl) w'
            have Hmem := hide (List.mem_of_getElem? he)
            clear hrw hblk he
            go_wp2_with fail
            obtain ⟨W1, hW1, hbox, hc1⟩ : ∃ W1, W1 = wr.alloc (Obj.cells #[Value.string e.key, Value.int IntKind.u64 e.ver, Value.slice e.va e.vn e.vc] 31) ∧
                W1.heap[wr.heap.size]? = some (.cells #[Value.string e.key, Value.int IntKind.u64 e.ver, Value.slice e.va e.vn e.vc] 31 (0, 0)) ∧ Chg0 wr W1 :=
              ⟨_, rfl, heap_alloc_new wr _, (Chg.refl _ wr).alloc _⟩
            rw [← hW1]
            clear hW1
            refine (zzset (e := e) (HB.out.sta.grew hc1)).mono ?_
            rintro _ w4 ⟨rfl, F', hsta4, hS4⟩
            have hbox4 : w4.heap[wr.heap.size]? = _ := (hS4.chg.same wr.heap.size (heap_lt' hbox) (HB.out.sta.lt (Nat.le_refl _))).trans hbox
            have b0 : w4.cell? ⟨wr.heap.size, 0, none⟩ = some (Value.string e.key) := cell_blk hbox4 0
            have b1 : w4.cell? ⟨wr.heap.size, 1, none⟩ = some (Value.int IntKind.u64 e.ver) := cell_blk hbox4 1
            have b2 : w4.cell? ⟨wr.heap.size, 2, none⟩ = some (Value.slice e.va e.vn e.vc) := cell_blk hbox4 2
            have hB4 := HB.out.zz hc1 hsta4 hS4
            have HB4 := hide hB4
            clear hB4 hsta4 hS4 hbox hbox4
            go_wp2_with fail
            refine (model10 (s := e) HB4.out.row HB.out.sta.asc (by have := HX.out; omega)).mono ?_
            rintro _ w5 ⟨mv', rfl, hr5, hS5⟩
            have HB5 := hide (HB4.out.model hr5 hS5)
            clear hr5 hS5
            go_wp2
            go_roundg (m - (i + 1))
            case measure => omega
            case rel =>
              refine ⟨i + 1, put e X, F', by simp, by omega, Nat.le_refl _, ?_, fun y hy => ?_, HB5.out⟩
              · have := HX.out
                have := put_len (e := e) (X := X)
                omega
              · rcases put_mem hy with rfl | hy
                · exact Hmem.out
                · exact HXL.out y hy
          · have hlt' : ¬ (i : Int) < (m : Int) := by omega
            obtain ⟨ma, k, mc, rfl, hk⟩ : ∃ ma k mc, u4 = .slice ma k mc ∧ k = X.length := by
              rcases HB.out.row.form with ⟨h1, h2⟩ | ⟨g, cap, h1⟩
              · exact ⟨none, 0, 0, h1, by rw [h2]; rfl⟩
              · exact ⟨_, _, _, h1, rfl⟩
            have Hk := hide hk
            have hk4 : k ≤ 4096 := by have := HX.out; omega
            clear hk
            go_wp2_with fail
            refine (ents11 HB.out.sta (by have := Hk.out; omega)).mono ?_
            rintro _ w4 ⟨v, rfl, hv, hB4⟩
            obtain ⟨va, vc, rfl, hv3⟩ : ∃ va vc, v = .slice va k vc ∧ Row3 w4 (.slice va k vc) X := by
              have hr3 := row3_base hv
              rcases hr3.2 with ⟨h1, h2⟩ | ⟨g, cap, cur, h1, -⟩
              · rw [← Hk.out] at h2
                subst h2
                exact ⟨none, 0, h1, by rw [← h1]; exact hr3⟩
              · rw [← Hk.out] at h1
                exact ⟨_, _, h1, by rw [← h1]; exact hr3⟩
            have HV := hide hv3
            have HM : RowS w4 (.slice ma k mc) X := HB.out.row.same (fun b hb => hB4.block b (HB.out.row.lt hb))
            have HMM := hide HM
            have HVal : ValsAt w4 X := fun e he => ((Hvals.out.grew (HB.out.bel.trans (hB4.mono HB.out.bel.size)))) e (HXL.out e he)
            have HVV := hide HVal
            clear hv hv3 HM HVal
            go_wp2
            go_loopg [8] k (fun kx s8 wr => ∃ j : Nat, s8 = .int .i64 j ∧ j ≤ k ∧ k - j ≤ kx ∧ Below w4.heap.size w4 wr)
            case atStart => exact ⟨0, rfl, Nat.zero_le _, by omega, Below.refl _ _⟩
            case round =>
              obtain ⟨j, rfl, hjk, hkx2, hBj⟩ := hrel
              by_cases hjl : j < k
              · have hjl' : (j : Int) < (k : Int) := by omega
                obtain ⟨e, he⟩ : ∃ e, X[j]? = some e := ⟨_, List.getElem?_eq_getElem (by have := Hk.out; omega)⟩
                have hr1 : Row3 wr (.slice va k vc) X := ownsRow_same HV.out (fun g hg => hBj.block g (ownsRow_lt HV.out hg))
                have hr2 : RowS wr (.slice ma k mc) X := HMM.out.same (fun b hb => hBj.block b (HMM.out.lt hb))
                have hval : ValAt wr.drew e.va e.vn e.vc := (HVV.out.grew hBj) e (List.mem_of_getElem? he)
                obtain ⟨g1, rfl⟩ : ∃ g1, va = some ⟨g1, 0, none⟩ := by
                  rcases hr1.2 with ⟨h1, h2⟩ | ⟨g, cap, cur, h1, -⟩
                  · rw [List.eq_nil_of_length_eq_zero h2] at he; cases he
                  · injection h1 with h1; exact ⟨_, h1⟩
                obtain ⟨g2, rfl⟩ : ∃ g2, ma = some ⟨g2, 0, none⟩ := by
                  rcases hr2.form with ⟨h1, h2⟩ | ⟨g, cap, h1⟩
                  · rw [h2] at he; cases he
                  · injection h1 with h1; exact ⟨_, h1⟩
                obtain ⟨sp1, hb1, -⟩ := hr1.open'
                obtain ⟨c0, c1, c2⟩ := ent_at hb1 he
                obtain ⟨sp2, hb2, -⟩ := hr2.open'
                obtain ⟨d0, d1, d2⟩ := entS_at hb2 he
                have hix : ∀ w', (Instr.indexAt 35 (.slice (some ⟨g1, 0, none⟩) k vc) (.int .i64 (j : Int))).run Try.prog w' = .ok (.pointer (some ⟨g1, j * 3, none⟩)) w' := fun w' => run_ix (P := Try.prog) 35 3 g1 k vc j (j : Int) rfl hjl Try.underlying35 (fun _ => by kernel_rfl) w'
                have hiy : ∀ w', (Instr.indexAt 22 (.slice (some ⟨g2, 0, none⟩) k mc) (.int .i64 (j : Int))).run Try.prog w' = .ok (.pointer (some ⟨g2, j * 3, none⟩)) w' := fun w' => run_ix (P := Try.prog) 22 3 g2 k mc j (j : Int) rfl hjl Try.underlying22 (fun _ => by kernel_rfl) w'
                clear hr1 hr2 hb1 hb2 he
                go_wp2
                refine startZ (fun w' => w'.cell? ⟨g1, j * 3, none⟩ = some (.string e.key) ∧ w'.cell? ⟨g1, j * 3 + 1, none⟩ = some (.int .u64 e.ver) ∧ w'.cell? ⟨g1, j * 3 + 2, none⟩ = some (.slice e.va e.vn e.vc) ∧ w'.cell? ⟨g2, j * 3, none⟩ = some (.string e.key) ∧ w'.cell? ⟨g2, j * 3 + 1, none⟩ = some (.int .u64 e.ver) ∧ w'.cell? ⟨g2, j * 3 + 2, none⟩ = some (.slice e.va e.vn e.vc)) 35 (by kernel_rfl) ?_ (fun hHeld => ?_)
                · exact ⟨c0, c1, c2, d0, d1, d2⟩
                refine takeZ (i := 0) (v := ?_) rfl rfl (by kernel_rfl) (by kernel_rfl) (by kernel_rfl) (by kernel_rfl) (fun _ _ _ h => h) (by assumption) (Or.inl ⟨by rfl, ?_⟩) ?_
                rotate_left
                · intro w hSw; (try dsimp only at hSw); go_simp <;> with_reducible rfl
                dsimp only [List.set_cons_zero, List.set_cons_succ]
                refine takeZ (i := 1) (v := ?_) rfl rfl (by kernel_rfl) (by kernel_rfl) (by kernel_rfl) (by kernel_rfl) (fun _ _ _ h => h) (by assumption) (Or.inl ⟨by rfl, ?_⟩) ?_
                rotate_left
                · intro w hSw; (try dsimp only at hSw); go_simp <;> with_reducible rfl
                dsimp only [List.set_cons_zero, List.set_cons_succ]
                refine takeZ (i := 2) (v := ?_) rfl rfl (by kernel_rfl) (by kernel_rfl) (by kernel_rfl) (by kernel_rfl) (fun _ _ _ h => h) (by assumption) (Or.inl ⟨by rfl, ?_⟩) ?_
                rotate_left
                · intro w hSw; (try dsimp only at hSw); go_simp <;> with_reducible rfl
                dsimp only [List.set_cons_zero, List.set_cons_succ]
                refine takeZ (i := 3) (v := ?_) rfl rfl (by kernel_rfl) (by kernel_rfl) (by kernel_rfl) (by kernel_rfl) (fun _ _ _ h => h) (by assumption) (Or.inl ⟨by rfl, ?_⟩) ?_
                rotate_left
                · intro w hSw; (try dsimp only at hSw); go_simp <;> with_reducible rfl
                dsimp only [List.set_cons_zero, List.set_cons_succ]
                refine takeZ (i := 4) (v := ?_) rfl rfl (by kernel_rfl) (by kernel_rfl) (by kernel_rfl) (by kernel_rfl) (fun _ _ _ h => h) (by assumption) (Or.inl ⟨by rfl, ?_⟩) ?_
                rotate_left
                · intro w hSw; (try dsimp only at hSw); go_simp <;> with_reducible rfl
                dsimp only [List.set_cons_zero, List.set_cons_succ]
                refine takeZ (i := 5) (v := ?_) rfl rfl (by kernel_rfl) (by kernel_rfl) (by kernel_rfl) (by kernel_rfl) (fun _ _ _ h => h) (by assumption) (Or.inl ⟨by rfl, ?_⟩) ?_
                rotate_left
                · intro w hSw; (try dsimp only at hSw); go_simp <;> with_reducible rfl
                dsimp only [List.set_cons_zero, List.set_cons_succ]
                refine takeZ (i := 6) (v := ?_) rfl rfl (by kernel_rfl) (by kernel_rfl) (by kernel_rfl) (by kernel_rfl) (fun _ _ _ h => h) (by assumption) (Or.inl ⟨by rfl, ?_⟩) ?_
                rotate_left
                · intro w hSw; (try dsimp only at hSw); go_simp <;> with_reducible rfl
                dsimp only [List.set_cons_zero, List.set_cons_succ]
                refine takeZ (i := 7) (v := ?_) rfl rfl (by kernel_rfl) (by kernel_rfl) (by kernel_rfl) (by kernel_rfl) (fun _ _ _ h => h) (by assumption) (Or.inl ⟨by rfl, ?_⟩) ?_
                rotate_left
                · intro w hSw; (try dsimp only at hSw); go_simp <;> with_reducible rfl
                dsimp only [List.set_cons_zero, List.set_cons_succ]
                refine takeZ (i := 8) (v := ?_) rfl rfl (by kernel_rfl) (by kernel_rfl) (by kernel_rfl) (by kernel_rfl) (fun _ _ _ h => h) (by assumption) (Or.inl ⟨by rfl, ?_⟩) ?_
                rotate_left
                · intro w hSw; (try dsimp only at hSw); go_simp <;> with_reducible rfl
                dsimp only [List.set_cons_zero, List.set_cons_succ]
                refine takeZ (i := 9) (v := ?_) rfl rfl (by kernel_rfl) (by kernel_rfl) (by kernel_rfl) (by kernel_rfl) (fun _ _ _ h => h) (by assumption) (Or.inl ⟨by rfl, ?_⟩) ?_
                rotate_left
                · intro w hSw; (try dsimp only at hSw); go_simp <;> with_reducible rfl
                dsimp only [List.set_cons_zero, List.set_cons_succ]
                refine takeZ (i := 10) (v := ?_) rfl rfl (by kernel_rfl) (by kernel_rfl) (by kernel_rfl) (by kernel_rfl) (fun _ _ _ h => h) (by assumption) (Or.inl ⟨by rfl, ?_⟩) ?_
                rotate_left
                · intro w hSw; (try dsimp only at hSw); go_simp <;> with_reducible rfl
                dsimp only [List.set_cons_zero, List.set_cons_succ]
                refine takeZ (i := 11) (v := ?_) rfl rfl (by kernel_rfl) (by kernel_rfl) (by kernel_rfl) (by kernel_rfl) (fun _ _ _ h => h) (by assumption) (Or.inl ⟨by rfl, ?_⟩) ?_
                rotate_left
                · intro w hSw; (try dsimp only at hSw); go_simp <;> with_reducible rfl
                dsimp only [List.set_cons_zero, List.set_cons_succ]
                refine takeZ (i := 12) (v := ?_) rfl rfl (by kernel_rfl) (by kernel_rfl) (by kernel_rfl) (by kernel_rfl) (fun _ _ _ h => h) (by assumption) (Or.inl ⟨by rfl, ?_⟩) ?_
                rotate_left
                · intro w hSw; (try dsimp only at hSw); go_simp <;> with_reducible rfl
                dsimp only [List.set_cons_zero, List.set_cons_succ]
                refine takeZ (i := 13) (v := ?_) rfl rfl (by kernel_rfl) (by kernel_rfl) (by kernel_rfl) (by kernel_rfl) (fun _ _ _ h => h) (by assumption) (Or.inl ⟨by rfl, ?_⟩) ?_
                rotate_left
                · intro w hSw; (try dsimp only at hSw); go_simp <;> with_reducible rfl
                dsimp only [List.set_cons_zero, List.set_cons_succ]
                refine takeZ (i := 14) (v := ?_) rfl rfl (by kernel_rfl) (by kernel_rfl) (by kernel_rfl) (by kernel_rfl) (fun _ _ _ h => h) (by assumption) (Or.inl ⟨by rfl, ?_⟩) ?_
                rotate_left
                · intro w hSw; (try dsimp only at hSw); go_simp <;> with_reducible rfl
                dsimp only [List.set_cons_zero, List.set_cons_succ]
                refine takeZ (i := 15) (v := ?_) rfl rfl (by kernel_rfl) (by kernel_rfl) (by kernel_rfl) (by kernel_rfl) (fun _ _ _ h => h) (by assumption) (Or.inl ⟨by rfl, ?_⟩) ?_
                rotate_left
                · intro w hSw; (try dsimp only at hSw); go_simp <;> with_reducible rfl
                dsimp only [List.set_cons_zero, List.set_cons_succ]
                refine takeZ (i := 16) (v := ?_) rfl rfl (by kernel_rfl) (by kernel_rfl) (by kernel_rfl) (by kernel_rfl) (fun _ _ _ h => h) (by assumption) (Or.inl ⟨by rfl, ?_⟩) ?_
                rotate_left
                · intro w hSw; (try dsimp only at hSw); go_simp <;> with_reducible rfl
                dsimp only [List.set_cons_zero, List.set_cons_succ]
                refine takeZ (i := 17) (v := ?_) rfl rfl (by kernel_rfl) (by kernel_rfl) (by kernel_rfl) (by kernel_rfl) (fun _ _ _ h => h) (by assumption) (Or.inl ⟨by rfl, ?_⟩) ?_
                rotate_left
                · intro w hSw; (try dsimp only at hSw); go_simp <;> with_reducible rfl
                dsimp only [List.set_cons_zero, List.set_cons_succ]
                refine takeZ (i := 18) (v := ?_) rfl rfl (by kernel_rfl) (by kernel_rfl) (by kernel_rfl) (by kernel_rfl) (fun _ _ _ h => h) (by assumption) (Or.inl ⟨by rfl, ?_⟩) ?_
                rotate_left
                · intro w hSw; (try dsimp only at hSw); go_simp <;> with_reducible rfl
                dsimp only [List.set_cons_zero, List.set_cons_succ]
                refine takeZ (i := 19) (v := ?_) rfl rfl (by kernel_rfl) (by kernel_rfl) (by kernel_rfl) (by kernel_rfl) (fun _ _ _ h => h) (by assumption) (Or.inl ⟨by rfl, ?_⟩) ?_
                rotate_left
                · intro w hSw; (try dsimp only at hSw); go_simp <;> with_reducible rfl
                dsimp only [List.set_cons_zero, List.set_cons_succ]
                refine takeZ (i := 20) (v := ?_) rfl rfl (by kernel_rfl) (by kernel_rfl) (by kernel_rfl) (by kernel_rfl) (fun _ _ _ h => h) (by assumption) (Or.inl ⟨by rfl, ?_⟩) ?_
                rotate_left
                · intro w hSw; (try dsimp only at hSw); go_simp <;> with_reducible rfl
                dsimp only [List.set_cons_zero, List.set_cons_succ]
                refine takeZ (i := 21) (v := ?_) rfl rfl (by kernel_rfl) (by kernel_rfl) (by kernel_rfl) (by kernel_rfl) (fun _ _ _ h => h) (by assumption) (Or.inl ⟨by rfl, ?_⟩) ?_
                rotate_left
                · intro w hSw; (try dsimp only at hSw); go_simp <;> with_reducible rfl
                dsimp only [List.set_cons_zero, List.set_cons_succ]
                refine takeZ (i := 22) (v := ?_) rfl rfl (by kernel_rfl) (by kernel_rfl) (by kernel_rfl) (by kernel_rfl) (fun _ _ _ h => h) (by assumption) (Or.inl ⟨by rfl, ?_⟩) ?_
                rotate_left
                · intro w hSw; (try dsimp only at hSw); go_simp <;> with_reducible rfl
                dsimp only [List.set_cons_zero, List.set_cons_succ]
                refine takeZ (i := 23) (v := ?_) rfl rfl (by kernel_rfl) (by kernel_rfl) (by kernel_rfl) (by kernel_rfl) (fun _ _ _ h => h) (by assumption) (Or.inl ⟨by rfl, ?_⟩) ?_
                rotate_left
                · intro w hSw; (try dsimp only at hSw); go_simp <;> with_reducible rfl
                dsimp only [List.set_cons_zero, List.set_cons_succ]
                refine takeZ (i := 24) (v := ?_) rfl rfl (by kernel_rfl) (by kernel_rfl) (by kernel_rfl) (by kernel_rfl) (fun _ _ _ h => h) (by assumption) (Or.inl ⟨by rfl, ?_⟩) ?_
                rotate_left
                · intro w hSw; (try dsimp only at hSw); go_simp <;> with_reducible rfl
                dsimp only [List.set_cons_zero, List.set_cons_succ]
                refine takeZ (i := 25) (v := ?_) rfl rfl (by kernel_rfl) (by kernel_rfl) (by kernel_rfl) (by kernel_rfl) (fun _ _ _ h => h) (by assumption) (Or.inl ⟨by rfl, ?_⟩) ?_
                rotate_left
                · intro w hSw; (try dsimp only at hSw); go_simp <;> with_reducible rfl
                dsimp only [List.set_cons_zero, List.set_cons_succ]
                refine takeZ (i := 26) (v := ?_) rfl rfl (by kernel_rfl) (by kernel_rfl) (by kernel_rfl) (by kernel_rfl) (fun _ _ _ h => h) (by assumption) (Or.inl ⟨by rfl, ?_⟩) ?_
                rotate_left
                · intro w hSw; (try dsimp only at hSw); go_simp <;> with_reducible rfl
                dsimp only [List.set_cons_zero, List.set_cons_succ]
                refine takeZ (i := 27) (v := ?_) rfl rfl (by kernel_rfl) (by kernel_rfl) (by kernel_rfl) (by kernel_rfl) (fun _ _ _ h => h) (by assumption) (Or.inl ⟨by rfl, ?_⟩) ?_
                rotate_left
                · intro w hSw; (try dsimp only at hSw); go_simp <;> with_reducible rfl
                dsimp only [List.set_cons_zero, List.set_cons_succ]
                refine takeZ (i := 28) (v := ?_) rfl rfl (by kernel_rfl) (by kernel_rfl) (by kernel_rfl) (by kernel_rfl) (fun _ _ _ h => h) (by assumption) (Or.inl ⟨by rfl, ?_⟩) ?_
                rotate_left
                · intro w hSw; (try dsimp only at hSw); go_simp <;> with_reducible rfl
                dsimp only [List.set_cons_zero, List.set_cons_succ]
                refine takeZ (i := 29) (v := ?_) rfl rfl (by kernel_rfl) (by kernel_rfl) (by kernel_rfl) (by kernel_rfl) (fun _ _ _ h => h) (by assumption) (Or.inl ⟨by rfl, ?_⟩) ?_
                rotate_left
                · intro w hSw; (try dsimp only at hSw); go_simp <;> with_reducible rfl
                dsimp only [List.set_cons_zero, List.set_cons_succ]
                refine takeZ (i := 30) (v := ?_) rfl rfl (by kernel_rfl) (by kernel_rfl) (by kernel_rfl) (by kernel_rfl) (fun _ _ _ h => h) (by assumption) (Or.inl ⟨by rfl, ?_⟩) ?_
                rotate_left
                · intro w hSw; (try dsimp only at hSw); go_simp <;> with_reducible rfl
                dsimp only [List.set_cons_zero, List.set_cons_succ]
                refine takeZ (i := 31) (v := ?_) rfl rfl (by kernel_rfl) (by kernel_rfl) (by kernel_rfl) (by kernel_rfl) (fun _ _ _ h => h) (by assumption) (Or.inl ⟨by rfl, ?_⟩) ?_
                rotate_left
                · intro w hSw; (try dsimp only at hSw); go_simp <;> with_reducible rfl
                dsimp only [List.set_cons_zero, List.set_cons_succ]
                refine takeZ (i := 32) (v := ?_) rfl rfl (by kernel_rfl) (by kernel_rfl) (by kernel_rfl) (by kernel_rfl) (fun _ _ _ h => h) (by assumption) (Or.inl ⟨by rfl, ?_⟩) ?_
                rotate_left
                · intro w hSw; (try dsimp only at hSw); go_simp <;> with_reducible rfl
                dsimp only [List.set_cons_zero, List.set_cons_succ]
                refine takeZ (i := 33) (v := ?_) rfl rfl (by kernel_rfl) (by kernel_rfl) (by kernel_rfl) (by kernel_rfl) (fun _ _ _ h => h) (by assumption) (Or.inl ⟨by rfl, ?_⟩) ?_
                rotate_left
                · intro w hSw; (try dsimp only at hSw); go_simp <;> with_reducible rfl
                dsimp only [List.set_cons_zero, List.set_cons_succ]
                refine takeZ (i := 34) (v := ?_) rfl rfl (by kernel_rfl) (by kernel_rfl) (by kernel_rfl) (by kernel_rfl) (fun _ _ _ h => h) (by assumption) (Or.inl ⟨by rfl, ?_⟩) ?_
                rotate_left
                · intro w hSw; (try dsimp only at hSw); go_simp <;> with_reducible rfl
                dsimp only [List.set_cons_zero, List.set_cons_succ]
                refine callZ (by kernel_rfl) (by kernel_rfl) rfl (fun K hK => ?_)
                go_simp
                go_at_call 12
                refine (beq12 (w := wr.drew) hval).mono ?_
                rintro _ w5 ⟨rfl, hc5⟩
                refine hK.out _ _ ?_
                clear hK K
                try simp only [Act.put, List.setIfInBounds_toArray, List.set_cons_zero, List.set_cons_succ]
                refine takeW (i := 36) (v := ?_) rfl rfl (by kernel_rfl) (by kernel_rfl) (by kernel_rfl) (fun _ _ _ h => h) (Or.inl ⟨by rfl, ?_⟩) ?_
                rotate_left
                · intro w; go_simp <;> with_reducible rfl
                dsimp only [List.set_cons_zero, List.set_cons_succ]
                refine takeW (i := 37) (v := ?_) rfl rfl (by kernel_rfl) (by kernel_rfl) (by kernel_rfl) (fun _ _ _ h => h) (Or.inl ⟨by rfl, ?_⟩) ?_
                rotate_left
                · intro w; go_simp <;> with_reducible rfl
                dsimp only [List.set_cons_zero, List.set_cons_succ]
                refine wpAny_done (by kernel_rfl) ?_ _
                go_wp2
                go_roundg (k - (j + 1))
                case measure => omega
                case rel => exact ⟨j + 1, by simp, by omega, Nat.le_refl _, hBj.drew.trans (hc5.below (B := w4.heap.size) (by exact hBj.size) (fun _ _ => rfl))⟩
              · have hjl' : ¬ (j : Int) < (k : Int) := by omega
                go_wp2
                go_ret
                exact ⟨rfl, hB02.trans ((HB.out.bel.trans ((hB4.mono HB.out.bel.size).trans (hBj.mono (Nat.le_trans HB.out.bel.size hB4.size)))).mono hB02.size)⟩
      · have hz' : 1048576 < z := by omega
        go_wp2
        go_ret
        exact ⟨rfl, hB1⟩
    · have hn' : 4096 < (n : Int) := by omega
      go_wp2
      go_ret
      exact ⟨rfl, Below.refl _ _⟩

end Go.Proofs.Qxb6603483a
