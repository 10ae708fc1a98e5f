/-
  A []string among the arguments as one word 'StrsIn'; zzB1NamesBytesWithin, zzB1NamesHold: walked.
-/
import Derived.Test.Qxb6603330aMaps
namespace Go.Proofs.Qxb6603330a
open Go.RowKit Go.Maps Go.WideMaps

/-- The slice value '.slice a len cap' holds the strings ss in w: adr k: where the k-th lies. -/
structure StrsIn (w : World) (a : Option Addr) (len cap : Nat) (ss : List ByteArray) (adr : Nat → Addr) : Prop where
  size : ss.length = len
  le : len ≤ maxLen
  sizes : ∀ s ∈ ss, s.size ≤ maxLen
  ix : ∀ (k : Nat) w', k < len → (Instr.indexAt 25 (.slice a len cap) (.int .i64 k)).run Try.prog w' = .ok (.pointer (some (adr k))) w'
  cell : ∀ k, k < len → w.cell? (adr k) = some (.string (ss.getD k ByteArray.empty))
  blk : ∀ k, k < len → (adr k).block < w.heap.size

section
variable {w : World} {a : Option Addr} {len cap : Nat} {ss : List ByteArray} {adr : Nat → Addr}

theorem StrsIn.later (h : StrsIn w a len cap ss adr) {w' : World} (hb : Below w.heap.size w w') : StrsIn w' a len cap ss adr :=
  ⟨h.size, h.le, h.sizes, h.ix, fun k hk => (hb.cell (h.blk k hk)).trans (h.cell k hk), fun k hk => Nat.lt_of_lt_of_le (h.blk k hk) hb.size⟩

theorem StrsIn.get_le (h : StrsIn w a len cap ss adr) (k : Nat) : (ss.getD k ByteArray.empty).size ≤ maxLen := by
  by_cases hk : k < ss.length
  · rw [List.getD, List.getElem?_eq_getElem hk]
    exact h.sizes _ (List.getElem_mem hk)
  · rw [List.getD, List.getElem?_eq_none (by omega)]
    exact Nat.zero_le _

theorem StrsIn.get_mem (h : StrsIn w a len cap ss adr) {k : Nat} (hk : k < len) : ss.getD k ByteArray.empty ∈ ss := by
  have hk' : k < ss.length := by rw [h.size]; exact hk
  rw [List.getD, List.getElem?_eq_getElem hk']
  exact List.getElem_mem hk'

/-- It returns some bool. -/
def RetB (e : Ending) : Prop := ∃ b, e = .returned (.bool b)

set_option maxHeartbeats 400000 in
theorem within_any (h : StrsIn w a len cap ss adr) :
    Calls Try.prog 11 #[.slice a len cap] w fun e w' => RetB e ∧ w' = w := by
  have hle := h.le
  unfold maxLen at hle
  go_enter Try.func11, Try.ntmps11
  go_wp2
  go_loop [3, 4] (fun t i => ∃ (k : Nat) (n : Int), k ≤ len ∧ i = .int .i64 k ∧ t = .int .i64 n) (fun _ i => len - (intOf i).toNat)
  case atStart => exact ⟨0, 0, Nat.zero_le _, rfl, rfl⟩
  case round =>
    obtain ⟨k, n, hk, rfl, rfl⟩ := hrel
    by_cases hlt : k < len
    · have hix := fun w' => h.ix k w' hlt
      have hc := h.cell k hlt
      generalize ss.getD k ByteArray.empty = s at *
      generalize adr k = ad at *
      go_wp2
      · go_ret
        exact ⟨⟨_, rfl⟩, rfl⟩
      · go_ret
        exact ⟨⟨_, rfl⟩, rfl⟩
      · go_round
        case rel => exact ⟨k + 1, _, by omega, by go_num, rfl⟩
        case measure => simp [intOf]; omega
    · go_wp2
      go_ret
      exact ⟨⟨_, rfl⟩, rfl⟩

set_option maxHeartbeats 400000 in
theorem zzBytes_any (h : StrsIn w a len cap ss adr) :
    Calls Try.prog 10 #[.slice a len cap] w fun e w' => RetB e ∧ w' = w := by
  have hle := h.le
  unfold maxLen at hle
  by_cases hbig : 1048576 < (len : Int)
  · go_enter Try.func10, Try.ntmps10
    go_wp2
    go_ret
    exact ⟨⟨_, rfl⟩, rfl⟩
  go_enter Try.func10, Try.ntmps10
  go_wp2
  go_loop [3, 4] (fun t i => ∃ (k : Nat) (n : Int), k ≤ len ∧ i = .int .i64 k ∧ t = .int .i64 n) (fun _ i => len - (intOf i).toNat)
  case atStart => exact ⟨0, _, Nat.zero_le _, rfl, rfl⟩
  case round =>
    obtain ⟨k, n, hk, rfl, rfl⟩ := hrel
    by_cases hlt : k < len
    · have hix := fun w' => h.ix k w' hlt
      have hc := h.cell k hlt
      generalize ss.getD k ByteArray.empty = s at *
      generalize adr k = ad at *
      go_wp2
      · go_ret
        exact ⟨⟨_, rfl⟩, rfl⟩
      · go_ret
        exact ⟨⟨_, rfl⟩, rfl⟩
      · go_round
        case rel => exact ⟨k + 1, _, by omega, by go_num, rfl⟩
        case measure => simp [intOf]; omega
    · go_wp2
      go_ret
      exact ⟨⟨_, rfl⟩, rfl⟩

/-- Is want among the first k? -/
def holdB (ss : List ByteArray) (want : List UInt8) : Bool := ss.any (fun s => s.data.toList == want)

theorem take_snoc_getD (ss : List ByteArray) (k : Nat) (hk : k < ss.length) : ss.take (k + 1) = ss.take k ++ [ss.getD k ByteArray.empty] := by
  rw [List.take_succ_eq_append_getElem hk, List.getD, List.getElem?_eq_getElem hk]; rfl

set_option maxHeartbeats 400000 in
theorem hold_any (h : StrsIn w a len cap ss adr) (want : ByteArray) :
    Calls Try.prog 13 #[.slice a len cap, .string want] w fun e w' => e = .returned (.bool (holdB ss want.data.toList)) ∧ w' = w := by
  have hle := h.le
  unfold maxLen at hle
  go_enter Try.func13, Try.ntmps13
  go_wp2
  go_loop [5] (fun i => ∃ (k : Nat), k ≤ len ∧ i = .int .i64 k ∧ holdB (ss.take k) want.data.toList = false) (fun i => len - (intOf i).toNat)
  case atStart => exact ⟨0, Nat.zero_le _, rfl, rfl⟩
  case round =>
    obtain ⟨k, hk, rfl, hno⟩ := hrel
    by_cases hlt : k < len
    · have hix := fun w' => h.ix k w' hlt
      have hc := h.cell k hlt
      have hsn : Hid (ss.take (k + 1) = ss.take k ++ [ss.getD k ByteArray.empty]) := take_snoc_getD ss k (by rw [h.size]; exact hlt)
      have hmm : Hid (ss.getD k ByteArray.empty ∈ ss) := h.get_mem hlt
      have hno' : Hid (holdB (ss.take k) want.data.toList = false) := hno
      clear hno
      generalize ss.getD k ByteArray.empty = s at *
      generalize adr k = ad at *
      go_wp2
      · have he : (s.toList == want.toList) = true := by assumption
        go_ret
        have hh : holdB ss want.data.toList = true := List.any_eq_true.2 ⟨s, hmm.out, by rw [← ByteArray.toList_eq, ← ByteArray.toList_eq]; exact he⟩
        exact ⟨by rw [hh]; rfl, rfl⟩
      · have he : (s.toList == want.toList) = false := by assumption
        go_round
        case rel =>
          refine ⟨k + 1, by omega, by go_num, ?_⟩
          rw [hsn.out]
          unfold holdB
          rw [List.any_append]
          have h1 := hno'.out
          unfold holdB at h1
          rw [h1]
          rw [ByteArray.toList_eq, ByteArray.toList_eq] at he
          simp only [List.any_cons, List.any_nil, he, Bool.or_self]
        case measure => simp [intOf]; omega
    · have hkl : k = len := by omega
      have hh : Hid (holdB ss want.data.toList = false) := by
        rw [hkl, List.take_of_length_le (by rw [h.size]; exact Nat.le_refl _)] at hno; exact hno
      clear hno
      go_wp2
      go_ret
      exact ⟨by rw [hh.out]; rfl, rfl⟩

end

end Go.Proofs.Qxb6603330a
