/-
  The given steps; the two counts of bytes.
-/
import Derived.Test.Qxb6603483aClone
namespace Go.Proofs.Qxb6603483a
open Go.RowKit
set_option linter.unusedSimpArgs false
attribute [local go_sem ↓] Go.wp_at_zero Go.wp_at_succ

/-- The steps S, as they were handed over: element k lies at E k. -/
structure StepsIn (w : World) (a : Option Addr) (n c : Nat) (S : Nat → Ent) (E : Nat → Addr) : Prop where
  max : n ≤ maxLen
  ix : ∀ (k : Nat) w', k < n → (Instr.indexAt 22 (.slice a n c) (.int .i64 (k : Int))).run Try.prog w' = .ok (.pointer (some (E k))) w'
  c0 : ∀ k, k < n → w.cell? (E k) = some (.string (S k).key)
  c1 : ∀ k, k < n → w.cell? ⟨(E k).block, (E k).off + 1, none⟩ = some (.int .u64 (S k).ver)
  c2 : ∀ k, k < n → w.cell? ⟨(E k).block, (E k).off + 2, none⟩ = some (.slice (S k).va (S k).vn (S k).vc)
  blk : ∀ k, k < n → (E k).block < w.heap.size
  val : ∀ k, k < n → BytesIn w (S k).va (S k).vn

theorem BytesIn.grew {w w' : World} {a : Option Addr} {n : Nat} (h : BytesIn w a n) (hb : Below w.heap.size w w') : BytesIn w' a n := by
  rcases h with h | ⟨ad, h1, h3⟩
  · exact Or.inl h
  · refine Or.inr ⟨ad, h1, fun i hi => ?_⟩
    obtain ⟨x, hx⟩ := h3 i hi
    exact ⟨x, (hb.cell (p := ad.add i) (cell_lt hx)).trans hx⟩
theorem StepsIn.grew {w w' : World} {a : Option Addr} {n c : Nat} {S : Nat → Ent} {E : Nat → Addr} (h : StepsIn w a n c S E) (hb : Below w.heap.size w w') : StepsIn w' a n c S E :=
  ⟨h.max, h.ix, fun k hk => (hb.cell (h.blk k hk)).trans (h.c0 k hk), fun k hk => (hb.cell (p := ⟨(E k).block, (E k).off + 1, none⟩) (h.blk k hk)).trans (h.c1 k hk), fun k hk => (hb.cell (p := ⟨(E k).block, (E k).off + 2, none⟩) (h.blk k hk)).trans (h.c2 k hk), fun k hk => Nat.lt_of_lt_of_le (h.blk k hk) hb.size, fun k hk => (h.val k hk).grew hb⟩

def CntOK (n : Nat) (S : Nat → Ent) (r : Ending) : Prop := ∃ b : Bool, r = .returned (.bool b) ∧ (b = true → ∀ k, k < n → (S k).vn ≤ 1048576)

set_option maxRecDepth 100000 in
set_option maxHeartbeats 1000000 in
theorem zzbytes5 {w : World} {a : Option Addr} {n c : Nat} {S : Nat → Ent} {E : Nat → Addr} (h : StepsIn w a n c S E) :
    Calls Try.prog 5 #[.slice a n c] w fun r w' => w' = w ∧ CntOK n S r := by
  have Hs := hide h
  clear h
  go_enter Try.func5, Try.ntmps5
  by_cases hn : n ≤ 1048576
  · have hn' : ¬ (n : Int) > 1048576 := by omega
    have hn2 : ¬ (1048576 : Int) < n := by omega
    go_wp2
    go_loopg [3, 4] n (fun kx s3 s4 wr => ∃ (i z : Nat), s3 = .int .i64 z ∧ s4 = .int .i64 i ∧ i ≤ n ∧ n - i ≤ kx ∧ z ≤ 1048576 ∧ wr = w ∧ ∀ k, k < i → (S k).vn ≤ 1048576)
    case atStart => exact ⟨0, n, by simp, rfl, Nat.zero_le _, by omega, by omega, rfl, fun k hk => by omega⟩
    case round =>
      obtain ⟨i, z, rfl, rfl, hin, hkx, hz, rfl, hv⟩ := hrel
      have Hv := hide hv
      clear hv
      by_cases hlt : i < n
      · have hlt' : (i : Int) < (n : Int) := by omega
        have hix := fun w' => Hs.out.ix i w' hlt
        have d0 := Hs.out.c0 i hlt
        have d2 := Hs.out.c2 i hlt
        by_cases e1 : (S i).key.size ≤ 1048576
        · have e1' : ((S i).key.size : Int) ≤ 1048576 := by omega
          by_cases e2 : z + (S i).key.size ≤ 1048576
          · have e2' : (z : Int) + ((S i).key.size : Int) ≤ 1048576 := by omega
            by_cases e3 : (S i).vn ≤ 1048576
            · have e3' : ((S i).vn : Int) ≤ 1048576 := by omega
              by_cases e4 : z + (S i).key.size + (S i).vn ≤ 1048576
              · have e4' : (z : Int) + ((S i).key.size : Int) + ((S i).vn : Int) ≤ 1048576 := by omega
                go_wp2
                go_roundg (n - (i + 1))
                case measure => omega
                case rel =>
                  refine ⟨i + 1, z + (S i).key.size + (S i).vn, by simp, by simp, by omega, Nat.le_refl _, e4, rfl, fun k hk => ?_⟩
                  by_cases e : k = i
                  · rw [e]; exact e3
                  · exact Hv.out k (by omega)
              · have e4' : 1048576 < (z : Int) + ((S i).key.size : Int) + ((S i).vn : Int) := by omega
                go_wp2
                go_ret
                exact ⟨rfl, false, rfl, fun h => by cases h⟩
            · have e3' : 1048576 < ((S i).vn : Int) := by omega
              go_wp2
              go_ret
              exact ⟨rfl, false, rfl, fun h => by cases h⟩
          · have e2' : 1048576 < (z : Int) + ((S i).key.size : Int) := by omega
            go_wp2
            go_ret
            exact ⟨rfl, false, rfl, fun h => by cases h⟩
        · have e1' : 1048576 < ((S i).key.size : Int) := by omega
          go_wp2
          go_ret
          exact ⟨rfl, false, rfl, fun h => by cases h⟩
      · have hlt' : ¬ (i : Int) < (n : Int) := by omega
        go_wp2
        go_ret
        exact ⟨rfl, true, rfl, fun _ k hk => Hv.out k (by omega)⟩
  · have hn' : (1048576 : Int) < n := by omega
    go_wp2
    go_ret
    exact ⟨rfl, false, rfl, fun h => by cases h⟩

theorem wrap3 {z k v : Nat} (h1 : z ≤ 1048576) (h2 : k ≤ 1048576) (h3 : v ≤ 1048576) : IntKind.i64.wrap ((z : Int) + IntKind.i64.wrap (IntKind.i64.wrap ((k : Int) + (v : Int)) + 48)) = ((z + (k + v + 48) : Nat) : Int) := by
  have e1 : IntKind.i64.wrap ((k : Int) + (v : Int)) = (k : Int) + v := IntWalk.i64_in _ (by omega)
  rw [e1, IntWalk.i64_in ((k : Int) + v + 48) (by omega), IntWalk.i64_in _ (by omega)]
  omega

set_option maxRecDepth 100000 in
set_option maxHeartbeats 1000000 in
theorem stepbytes6 {w : World} {a : Option Addr} {n c : Nat} {S : Nat → Ent} {E : Nat → Addr} (h : StepsIn w a n c S E) (hn : n ≤ 4096) :
    Calls Try.prog 6 #[.slice a n c] w fun r w' => Below w.heap.size w w' ∧ ∃ z : Int, r = .returned (.int .i64 z) := by
  have Hs := hide h
  clear h
  go_enter Try.func6, Try.ntmps6
  go_wp2
  go_loopg [3, 4] n (fun kx s3 s4 wr => ∃ (i z : Nat), s3 = .int .i64 z ∧ s4 = .int .i64 i ∧ i ≤ n ∧ n - i ≤ kx ∧ z ≤ 1048576 ∧ Below w.heap.size w wr)
  case atStart => exact ⟨0, 0, rfl, rfl, Nat.zero_le _, by omega, by omega, Below.refl _ _⟩
  case round =>
    obtain ⟨i, z, rfl, rfl, hin, hkx, hz, hB⟩ := hrel
    have hB' := hB.drew
    by_cases hlt : i < n
    · have hlt' : (i : Int) < (n : Int) := by omega
      have hix := fun w' => Hs.out.ix i w' hlt
      have d0 := (Hs.out.grew hB).c0 i hlt
      have d2 := (Hs.out.grew hB).c2 i hlt
      by_cases e1 : (S i).key.size ≤ 1048576
      · have e1' : ((S i).key.size : Int) ≤ 1048576 := by omega
        by_cases e3 : (S i).vn ≤ 1048576
        · have e3' : ((S i).vn : Int) ≤ 1048576 := by omega
          go_wp2
          go_region_held3 (fun w' => w'.cell? (E i) = some (.string (S i).key) ∧ w'.cell? ⟨(E i).block, (E i).off + 2, none⟩ = some (.slice (S i).va (S i).vn (S i).vc)) (exact ⟨d0, d2⟩) (fail)
          obtain ⟨T, hT⟩ : ∃ T : Nat, T = z + ((S i).key.size + (S i).vn + 48) := ⟨_, rfl⟩
          have hT' : IntKind.i64.wrap ((z : Int) + IntKind.i64.wrap (IntKind.i64.wrap (((S i).key.size : Int) + ((S i).vn : Int)) + 48)) = (T : Int) := by rw [hT]; exact wrap3 hz e1 e3
          rw [hT']
          clear hT' hT
          by_cases e4 : T ≤ 1048576
          · have e4' : (T : Int) ≤ 1048576 := by omega
            go_wp2
            go_roundg (n - (i + 1))
            case measure => omega
            case rel => exact ⟨i + 1, T, rfl, by simp, by omega, Nat.le_refl _, e4, hB'⟩
          · have e4' : 1048576 < (T : Int) := by omega
            go_wp2
            go_ret
            exact ⟨hB', _, rfl⟩
        · have e3' : 1048576 < ((S i).vn : Int) := by omega
          go_wp2
          go_ret
          exact ⟨hB, _, rfl⟩
      · have e1' : 1048576 < ((S i).key.size : Int) := by omega
        go_wp2
        go_ret
        exact ⟨hB, _, rfl⟩
    · have hlt' : ¬ (i : Int) < (n : Int) := by omega
      go_wp2
      go_ret
      exact ⟨hB, _, rfl⟩

end Go.Proofs.Qxb6603483a
