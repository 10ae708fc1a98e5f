/-
  FnOnlyObjectOfNamesIffAllObject: walked.
-/
import Derived.Test.Qxb6603330aInter2
import Derived.Test.Qxb6603330aOnly
import Derived.Laws.CopyRow
import Derived.Laws.CopyOwn
namespace Go.Proofs.Qxb6603330a
open Go.RowKit Go.Maps Go.WideMaps

section
variable {H : Type} {w : World} {a : Option Addr} {len cap : Nat} {ss : List ByteArray} {adr : Nat → Addr}

/-- Is every name "object"? -/
def allObj (ss : List ByteArray) : Bool := ss.all (fun s => s.data.toList == [111, 98, 106, 101, 99, 116])

theorem ooB_all {w' : World} {b : Nat} {D : DataW H} (hs : SetOk D (fun l => candB ss l && allowB none (.nil : DataW H) l)) (hm : MapIn w' (some b) D) : ooB D = allObj ss := by
  obtain ⟨n, hown⟩ := hm
  obtain ⟨es0, he0, _, hkeys⟩ := hown.canon law9
  cases ha : allObj ss
  · obtain ⟨s, hsm, hne⟩ := List.all_eq_false.1 ha
    refine ooB_false (kl := .string s.data.toList) ?_ (fun e => hne ?_)
    · rw [hs.has]
      simp only [onStr, allowB, Option.isNone_none, Bool.true_or, Bool.and_true, candB, holdB]
      rw [List.any_eq_true.2 ⟨s, hsm, by simp⟩]
      rfl
    · injection e with e
      simp [e]
  · have hall := List.all_eq_true.1 ha
    have hold : ∀ l, holdB ss l = true → l = [111, 98, 106, 101, 99, 116] := fun l hl => by
      obtain ⟨s, hsm, he⟩ := List.any_eq_true.1 hl
      have h1 := hall s hsm
      simp at h1 he
      rw [← he, h1]
    refine ooB_true (fun kl _ hh => ?_) (fun es he p hp => by rw [he0] at he; cases he; exact hkeys p hp)
    rw [hs.has] at hh
    cases kl <;> simp only [onStr] at hh
    all_goals first | (cases hh; done) | skip
    simp only [allowB, Option.isNone_none, Bool.true_or, Bool.and_true, candB, Bool.or_eq_true, Bool.and_eq_true] at hh
    rcases hh with hh | ⟨hh, _⟩
    · rw [hold _ hh]; rfl
    · have := hold _ hh
      exact absurd this (by decide)

theorem info9 : (Try.prog.info? 9).map (fun i => (i.zero, i.size, i.bytes)) = some (some (.string ⟨#[]⟩), 1, 16) := by kernel_rfl
theorem size9 : (Try.prog.info? 9).map (·.size) = some 1 := by kernel_rfl

/-- 'make([]string, len)'. -/
theorem made (w : World) (len : Nat) (hle : len ≤ 65536) : ∃ wm, (Instr.makeSlice 25 (.int .i64 len) (.int .i64 len)).run Try.prog w = .ok (.slice (some ⟨w.heap.size, 0, none⟩) len len) wm ∧
    (∃ cur : Array Value, cur.size = len ∧ wm.heap[w.heap.size]? = some (.cells cur 9 (0, 0))) ∧ Below w.heap.size w wm := by
  obtain ⟨i0, hi, hz0, hz1, hz2⟩ := info_parts info9
  have hr := run_make (P := Try.prog) w 25 9 i0 _ Try.underlying25 hi hz0 .i64 .i64 len len (by omega) (Int.le_refl _) (by rw [hz2]; omega) (by omega)
  simp only [Int.toNat_natCast] at hr
  refine ⟨_, hr, ⟨_, ?_, (MapKept.heap_alloc w _).1⟩, (Below.refl _ w).alloc (Nat.le_refl _) _⟩
  rw [size_madeCells, hz1, Nat.mul_one]

/-- 'copy(zzc, names)'. -/
theorem copied {ad : Addr} {wm : World} (h : StrsIn w (some ad) len cap ss adr) (hadr : ∀ k, k < len → adr k = ad.add k) (hb : Below w.heap.size w wm) {cur : Array Value} (hc : cur.size = len) (hrow : wm.heap[w.heap.size]? = some (.cells cur 9 (0, 0))) :
    ∃ wc, (∀ ty, (Builtin.copy_ #[25, 25] ty #[.slice (some ⟨w.heap.size, 0, none⟩) len len, .slice (some ad) len cap]).run Try.prog wm = .ok (.int .i64 len) wc) ∧
      StrsIn wc (some ⟨w.heap.size, 0, none⟩) len len ss (fun k => ⟨w.heap.size, k, none⟩) ∧ Below w.heap.size w wc := by
  have hcl : (ss.map Value.string).length = Nat.min len len := by
    rw [List.length_map, h.size]; exact (Nat.min_self len).symm
  have hl : (ss.map Value.string).length = len := by rw [List.length_map, h.size]
  have hrun := fun ty => run_copy_row (P := Try.prog) wm 25 25 ty 9 w.heap.size 0 len len ad len cap cur 9 (ss.map Value.string) Try.underlying25 size9 hrow hcl
    (fun j v hj => by
      have hjl : j < len := by have := (List.getElem?_eq_some_iff.1 hj).1; omega
      rw [← hadr j hjl, (h.later hb).cell j hjl]
      rw [List.getElem?_map] at hj
      rw [← hj, List.getD]
      rw [List.getElem?_eq_getElem (by rw [h.size]; exact hjl)]
      rfl)
    (by omega) (fun v hv => by obtain ⟨s, _, rfl⟩ := List.mem_map.1 hv; rfl)
  have hrow2 := setRow_heap wm w.heap.size cur ((cur.toList.take 0 ++ ss.map Value.string ++ cur.toList.drop (0 + (ss.map Value.string).length)).toArray) 9 (0, 0) hrow
  have hcells : (cur.toList.take 0 ++ ss.map Value.string ++ cur.toList.drop (0 + (ss.map Value.string).length)) = ss.map Value.string := by
    rw [List.take_zero, List.nil_append, List.drop_of_length_le (by rw [Nat.zero_add, hl, Array.length_toList]; omega), List.append_nil]
  rw [hcells] at hrow2 hrun
  have hbc : Below w.heap.size w (wm.setRow w.heap.size (ss.map Value.string).toArray) := below_setRow hb (Nat.le_refl _) _
  have hsz : w.heap.size < (wm.setRow w.heap.size (ss.map Value.string).toArray).heap.size := (Array.getElem?_eq_some_iff.1 hrow2).1
  refine ⟨_, fun ty => by rw [hrun ty, hl]; rfl, ⟨h.size, h.le, h.sizes, fun k w' hk => ?_, fun k hk => ?_, fun k _ => hsz⟩, hbc⟩
  · rw [run_indexAt_slice (h := Try.underlying25)]
    have hs : (sizeOf (Try.prog.elem 25)).run Try.prog w' = .ok 1 w' := by kernel_rfl
    rw [if_pos ⟨by omega, by omega⟩, hs]
    simp [Result.andThen, Addr.add]
    intro e
    rw [e]
  · have hk' : k < ss.length := by rw [h.size]; exact hk
    simp [World.cell?, hrow2, hk', List.getD]

/-- What stands behind the copy: the loop over the names, intersect, onlyObject: once for both ways. -/
theorem ret_eq {a b : Bool} (h : a = b) : Ending.returned (.bool (a == b)) = .returned (.bool true) := by rw [h]; simp

set_option maxRecDepth 100000 in
set_option maxHeartbeats 2000000 in
theorem all_some {ad : Addr} (h : StrsIn w (some ad) len cap ss adr) (hadr : ∀ k, k < len → adr k = ad.add k) :
    Calls Try.prog 4 #[.slice (some ad) len cap] w fun e w' => e = .returned (.bool true) ∧ Below w.heap.size w w' := by
  have hneq : ∀ (x : Option Addr) n c w', (binOp .neq 25 (.slice x n c) (.slice none 0 0)).run Try.prog w' = .ok (.bool !x.isNone) w' := fun x n c w' => run_neq_slice_nil_any w' 25 9 x n c 0 0 Try.underlying25
  by_cases hle : 65536 < (len : Int)
  · go_enter Try.func4, Try.ntmps4
    go_wp2_with fail
    refine (zzBytes_any h).mono ?_
    rintro e w' ⟨⟨b, rfl⟩, hw'⟩
    have hw2 := hw'.symm
    clear hw'
    subst hw2
    cases b
    · go_wp2
      go_ret
      exact ⟨rfl, Below.refl _ _⟩
    · go_wp2
      go_ret
      exact ⟨rfl, Below.refl _ _⟩
  have hle : (len : Int) ≤ 65536 := by omega
  obtain ⟨wm, hmk, ⟨cur, hcs, hrow⟩, hbm⟩ := made w len (by omega)
  obtain ⟨wc, hcp, hs, hbc⟩ := copied h hadr hbm hcs hrow
  clear hrow hcs hbm
  have Hs := hide hs
  clear hs
  go_enter Try.func4, Try.ntmps4
  go_wp2_with fail
  refine (zzBytes_any h).mono ?_
  rintro e w' ⟨⟨b, rfl⟩, hw'⟩
  have hw2 := hw'.symm
  clear hw'
  subst hw2
  cases b
  · go_wp2
    go_ret
    exact ⟨rfl, Below.refl _ _⟩
  go_wp2_with fail
  refine (within_any h).mono ?_
  rintro e w' ⟨⟨b, rfl⟩, hw'⟩
  have hw2 := hw'.symm
  clear hw'
  subst hw2
  cases b
  · go_wp2
    go_ret
    exact ⟨rfl, Below.refl _ _⟩
  go_wp2
  go_loop [4, 5] (fun t i => ∃ k : Nat, k ≤ len ∧ i = .int .i64 k ∧ t = .bool (allObj (ss.take k))) (fun _ i => len - (intOf i).toNat)
  case atStart => exact ⟨0, Nat.zero_le _, rfl, rfl⟩
  case round =>
    obtain ⟨k, hk, rfl, rfl⟩ := hrel
    by_cases hlt : k < len
    · have hix : ∀ w', (Instr.indexAt 25 (.slice (some ⟨w.heap.size, 0, none⟩) len len) (.int .i64 k)).run Try.prog w' = .ok (.pointer (some ⟨w.heap.size, k, none⟩)) w' := fun w' => Hs.out.ix k w' hlt
      have hc : wc.cell? ⟨w.heap.size, k, none⟩ = some (.string (ss.getD k ByteArray.empty)) := Hs.out.cell k hlt
      have hsn : Hid (ss.take (k + 1) = ss.take k ++ [ss.getD k ByteArray.empty]) := take_snoc_getD ss k (by rw [Hs.out.size]; exact hlt)
      generalize ss.getD k ByteArray.empty = s at *
      go_wp2
      · have he : (!s.toList == [111, 98, 106, 101, 99, 116]) = true := by assumption
        go_round
        case rel =>
          refine ⟨k + 1, by omega, by go_num, ?_⟩
          rw [hsn.out, allObj, List.all_append]
          rw [ByteArray.toList_eq] at he
          simp only [List.all_cons, List.all_nil, Bool.and_true]
          simp at he
          simp [he]
        case measure => simp [intOf] <;> omega
      · have he : (!s.toList == [111, 98, 106, 101, 99, 116]) = false := by assumption
        go_round
        case rel =>
          refine ⟨k + 1, by omega, by go_num, ?_⟩
          rw [hsn.out, allObj, allObj, List.all_append]
          rw [ByteArray.toList_eq] at he
          simp only [List.all_cons, List.all_nil, Bool.and_true]
          simp at he
          simp [he]
        case measure => simp [intOf] <;> omega
    · have hall : ss.take k = ss := List.take_of_length_le (by rw [Hs.out.size]; omega)
      rw [hall]
      clear hall
      go_wp2_with fail
      refine (zzInter_any (H := Unit) Hs.out (by omega) none .nil rfl).mono ?_
      rintro e w1 ⟨rfl, ⟨D1, hset1, hm1⟩, hb1⟩
      go_wp2_with fail
      refine (zzOnlyObject_any _ D1 _ hm1).mono ?_
      rintro e w2 ⟨rfl, hb2⟩
      have hoo := ooB_all hset1 hm1
      have Hoo := hide hoo
      clear hoo
      go_wp2
      go_ret
      exact ⟨ret_eq Hoo.out, hbc.trans ((hb1.mono hbc.size).trans (hb2.mono (Nat.le_trans hbc.size hb1.size)))⟩


end

end Go.Proofs.Qxb6603330a
