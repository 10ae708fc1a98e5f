/-
  FnIntersectSetSpec: walked.
-/
import Derived.Test.Qxb6603330aCount
namespace Go.Proofs.Qxb6603330a
open Go.RowKit Go.Maps Go.WideMaps

section
variable {H : Type} {w : World} {a : Option Addr} {len cap : Nat} {ss : List ByteArray} {adr : Nat → Addr} {r : Option Nat} {D : DataW H}

theorem hold_lit5 (h : StrsIn w a len cap ss adr) (l : List UInt8) {b : Bool} (hb : holdB ss l = b) :
    Calls Try.prog 13 #[.slice a len cap, .string ⟨l.toArray⟩] w fun e w' => e = .returned (.bool b) ∧ w' = w :=
  (hold_any h ⟨l.toArray⟩).mono fun e w' ⟨he, hw⟩ => ⟨by rw [he]; show Ending.returned (.bool (holdB ss l)) = _; rw [hb], hw⟩

set_option maxHeartbeats 400000 in
theorem spec_big (hm : MapIn w r D) (hsz : 65536 < (Maps.size D : Int)) :
    Calls Try.prog 5 #[.map r, .slice a len cap] w fun e w' => e = .returned (.bool true) ∧ Below w.heap.size w w' := by
  have hlen := hm.len
  go_enter Try.func5, Try.ntmps5
  go_wp2
  go_ret
  exact ⟨rfl, Below.refl _ _⟩

set_option maxHeartbeats 400000 in
theorem spec_long (hm : MapIn w r D) (hsz : (Maps.size D : Int) ≤ 65536) (hle : 65536 < (len : Int)) :
    Calls Try.prog 5 #[.map r, .slice a len cap] w fun e w' => e = .returned (.bool true) ∧ Below w.heap.size w w' := by
  have hlen := hm.len
  go_enter Try.func5, Try.ntmps5
  go_wp2
  go_ret
  exact ⟨rfl, Below.refl _ _⟩

/-- What holds at the head of the law's loop. -/
structure Head (w1 : World) (D1 : DataW H) (ss : List ByteArray) (len k n : Nat) (wr : World) : Prop where
  le : k ≤ len + 1
  nle : n ≤ k
  own : ∃ Ds : DataW H, wr.ownsMap Try.prog 9 (plainElem Try.prog 4) w1.heap.size k Ds ∧ SetOk Ds (seenB ss len k)
  cnt : n = cntG D1 (seenB ss len k)
  num : len < k → holdB ss sN = true
  below : Below w1.heap.size w1 wr


theorem Head.seen {w1 wr : World} {D1 : DataW H} {k n : Nat} {c : List UInt8} (hd : Head w1 D1 ss len k n wr) (hk : k ≤ len) (hst : ∀ l, seenB ss len (k + 1) l = (seenB ss len k l || l == c))
    (hg : seenB ss len k c = true) (hnum : len < k + 1 → holdB ss sN = true) : Head w1 D1 ss len (k + 1) n wr := by
  have e : ∀ l, seenB ss len (k + 1) l = seenB ss len k l := fun l => by
    rw [hst l]
    by_cases e : l = c
    · subst e; simp [hg]
    · have : (l == c) = false := by simpa using e
      simp [this]
  obtain ⟨Ds, hown, hset⟩ := hd.own
  exact ⟨by omega, by have := hd.nle; omega, ⟨Ds, hown.mono (by omega), hset.congr (fun l => (e l).symm)⟩, by rw [cntG_congr D1 e]; exact hd.cnt, hnum, hd.below⟩

theorem Head.new {w1 wr w2 : World} {D1 Ds : DataW H} {k n n' : Nat} {c : List UInt8} (hd : Head w1 D1 ss len k n wr) (hk : k ≤ len) (hst : ∀ l, seenB ss len (k + 1) l = (seenB ss len k l || l == c))
    (hg : seenB ss len k c = false) (hnum : len < k + 1 → holdB ss sN = true) (hcan : Canon D1) (hset : SetOk Ds (seenB ss len k))
    (hown2 : w2.ownsMap Try.prog 9 (plainElem Try.prog 4) w1.heap.size (k + 1) (Ds.put (.string c) (.lit (.bool true)))) (hb2 : Below w1.heap.size w1 w2)
    (hn : n' = if Maps.has D1 (.string c) then n + 1 else n) : Head w1 D1 ss len (k + 1) n' w2 := by
  refine ⟨by omega, ?_, ⟨_, hown2, (hset.put c).congr (fun l => (hst l).symm)⟩, ?_, hnum, hb2⟩
  · have := hd.nle
    rw [hn]
    split <;> omega
  · rw [cntG_congr D1 hst, hn]
    split
    · rename_i hh
      rw [cntG_yes hcan hg hh, ← hd.cnt]
    · rename_i hh
      rw [cntG_no hcan (by simpa using hh), ← hd.cnt]

theorem seen_step {k : Nat} (hk : k < len) (hl : ss.length = len) (l : List UInt8) : seenB ss len (k + 1) l = (seenB ss len k l || l == (ss.getD k ByteArray.empty).data.toList) := by
  unfold seenB
  rw [take_snoc_getD ss k (by omega), holdB_snoc]
  have h1 : decide (len < k + 1) = false := by simp; omega
  have h2 : decide (len < k) = false := by simp; omega
  rw [h1, h2]
  simp

theorem seen_last (hl : ss.length = len) (l : List UInt8) : seenB ss len (len + 1) l = (seenB ss len len l || l == sI) := by
  unfold seenB
  rw [List.take_of_length_le (by omega), List.take_of_length_le (by omega)]
  simp

theorem seen_all {k : Nat} (hl : ss.length = len) (hk : len ≤ k) (hnum : holdB ss sN = true → len < k) (l : List UInt8) (hc : candB ss l = true) : seenB ss len k l = true := by
  unfold seenB
  rw [List.take_of_length_le (by omega)]
  unfold candB at hc
  cases hh : holdB ss l
  · rw [hh] at hc
    simp at hc
    have := hnum hc.1
    simp [hc.2, this]
  · rfl

/-- The law's last test. -/
theorem Head.done {w1 wr : World} {D1 : DataW H} {k n : Nat} {g : List UInt8 → Bool} (hd : Head w1 D1 ss len k n wr) (hl : ss.length = len) (hk : len ≤ k) (hnum : holdB ss sN = true → len < k) (hcan : Canon D1)
    (hset : SetOk D1 (fun l => candB ss l && g l)) : Maps.size D1 = n := by
  rw [hd.cnt]
  exact (cntG_all hcan hset (fun l hl' => seen_all hl hk hnum l (by simp at hl'; exact hl'.1))).symm

theorem cand_mem (h : StrsIn w a len cap ss adr) {k : Nat} (hk : k < len) : candB ss (ss.getD k ByteArray.empty).data.toList = true := by
  unfold candB holdB
  rw [List.any_eq_true.2 ⟨_, h.get_mem hk, by simp⟩]
  rfl


theorem cntG_none (D : DataW H) : cntG D (seenB ss len 0) = 0 := by
  unfold cntG
  split
  · rw [List.length_eq_zero_iff, List.filter_eq_nil_iff]
    intro p _
    cases p.1 <;> simp [onStr, seenB, holdB]
  · rfl

theorem ret_bool5 {a : Bool} (h : a = true) : Ending.returned (.bool a) = .returned (.bool true) := by rw [h]

theorem MapIn.look_okB (h : MapIn w r D) (s : ByteArray) (hs : s.size ≤ maxLen) {b c : Bool} (hb : bget D s.data.toList = b) (hc : Maps.has D (.string s.data.toList) = c) :
    (Instr.lookup 22 (.map r) (.string s) true).run Try.prog w = .ok (.tuple #[.bool b, .bool c]) w := by
  rw [h.look_ok s hs, hb, hc]

set_option maxRecDepth 100000 in
set_option maxHeartbeats 4000000 in
theorem spec_num (h : StrsIn w a len cap ss adr) (hm : MapIn w r D) (hsz : (Maps.size D : Int) ≤ 65536) (hle : (len : Int) ≤ 65536) (hN : holdB ss sN = true) :
    Calls Try.prog 5 #[.map r, .slice a len cap] w fun e w' => e = .returned (.bool true) ∧ Below w.heap.size w w' := by
  have hlen := hm.len
  have hmm := @run_makeMap Try.prog
  have heql : ∀ (m : Option Nat) w', (binOp .eql 22 (.map m) (.map none)).run Try.prog w' = .ok (.bool m.isNone) w' := fun m w' => run_eql_map_nil w' 22 9 4 m Try.underlying22
  go_enter Try.func5, Try.ntmps5
  go_wp2_with fail
  refine (within_any h).mono ?_
  rintro e w' ⟨⟨b, rfl⟩, hw'⟩
  have hw2 := hw'.symm
  clear hw'
  subst hw2
  cases b
  · go_wp2
    go_ret
    exact ⟨rfl, Below.refl _ _⟩
  go_wp2_with fail
  refine (zzInter_any h (by omega) r D hm).mono ?_
  rintro e w1 ⟨rfl, ⟨D1, hset1, hm1⟩, hb1⟩
  have h1 := h.later hb1
  have hcan : Canon D1 := by obtain ⟨n0, ho⟩ := hm1; exact ho.canon law9
  have HN := hide (hold_lit5 h1 sN hN)
  go_wp2_with fail
  refine (unhide HN).mono ?_
  rintro e w' ⟨rfl, hw'⟩
  have hw2 := hw'.symm
  clear hw'
  subst hw2
  clear HN
  have HNh := hide hN
  clear hN
  go_wp2
  go_loopw [8, 9] (fun want i wr => ∃ k n : Nat, i = .int .i64 k ∧ want = .int .i64 n ∧ Head w1 D1 ss len k n wr) (fun _ i _ => len + 1 - (intOf i).toNat)
  case atStart => exact ⟨0, 0, rfl, rfl, ⟨Nat.zero_le _, Nat.le_refl _, ⟨.map [], World.ownsMap_made _ _ _ _, SetOk.empty.congr (fun l => by simp [seenB, holdB])⟩, (by simp [cntG_none]), fun h => by omega, (Below.refl _ _).alloc (Nat.le_refl _) _⟩⟩
  case round =>
    obtain ⟨k, n, rfl, rfl, hd⟩ := hrel
    have hkle := hd.le
    have hnle := hd.nle
    obtain ⟨Ds, hown, hset⟩ := hd.own
    by_cases hlt : k < len
    · have hix := fun w' => h1.ix k w' hlt
      have hc := (h1.later hd.below).cell k hlt
      have hstep := fun l => seen_step (ss := ss) hlt h1.size l
      have hcd := cand_mem h1 hlt
      have hszk := h1.get_le k
      generalize ss.getD k ByteArray.empty = s at *
      generalize adr k = ad at *
      have Hstep := hide hstep
      clear hstep
      have hsz1 : (s : ByteArray).size ≤ maxLen := hszk
      have hkey : keyOf Try.prog 9 (.string s) = some (.string s.data.toList) := keyOf_string_mk Try.underlying9 hsz1
      have hlkS : ∀ b, seenB ss len k s.data.toList = b → (Instr.lookup 22 (.map (some w1.heap.size)) (.string s) false).run Try.prog wr = .ok (.bool b) wr := fun b hb => (MapIn.look (r := some w1.heap.size) ⟨_, hown⟩ s hsz1).trans (congrArg (fun b => Result.ok (Value.bool b) wr) ((hset.bget s.data.toList).trans hb))
      cases hg : seenB ss len k s.data.toList
      · -- NEW
        have hl1 := hlkS _ hg
        have Hg := hide hg
        clear hlkS hg
        cases hr : r.isNone
        · cases hbg : bget D s.data.toList
          · have HgB : Hid (bget D1 s.data.toList = false) := (hset1.bget _).trans (by simp [hcd, allowB, hr, hbg])
            have HhB : Hid (Maps.has D1 (.string s.data.toList) = false) := (hset1.has _).trans (by simp [onStr, hcd, allowB, hr, hbg])
            have Hbg := hide hbg
            clear hbg hcd
            go_wp2_with (first
              | (at_mapUpdate; refine wpList_mapUpdate_own _ rfl _ _ _ 22 rfl 9 4 law9 Try.underlying22 _ w1.heap.size k _ rfl hown (by unfold maxLen; omega) _ _ _ rfl rfl hkey _ [] (plainElem_bool Try.underlying4 true) ?_; intro w2 hown2 hgrow2; have hb2 := hd.below.grown hgrow2 hd.below.size (fun j hj => by cases hj; exact Nat.le_refl _); have hgot : (Instr.lookup 22 (.map (some w.heap.size)) (.string s) true).run Try.prog w2 = .ok (.tuple #[.bool false, .bool false]) w2 := (hm1.later hb2).look_okB s hsz1 HgB.out HhB.out; have hlkT : (Instr.lookup 22 (.map r) (.string s) false).run Try.prog w2 = .ok (.bool false) w2 := by { rw [((hm.later (hb1.trans (hb2.mono hb1.size))).look s hsz1)]; exact congrArg (fun b => Result.ok (Value.bool b) w2) Hbg.out })
              | go_in)
            have hfin : Head w1 D1 ss len (k + 1) (n) w2 := hd.new (by omega) Hstep.out Hg.out (fun h => by omega) hcan hset hown2 hb2 (by rw [HhB.out]; rfl)
            go_roundw
            case rel => exact ⟨k + 1, _, by go_num, rfl, hfin⟩
            case measure => simp [intOf] <;> omega

          · have HgB : Hid (bget D1 s.data.toList = true) := (hset1.bget _).trans (by simp [hcd, allowB, hbg])
            have HhB : Hid (Maps.has D1 (.string s.data.toList) = true) := (hset1.has _).trans (by simp [onStr, hcd, allowB, hbg])
            have Hbg := hide hbg
            clear hbg hcd
            go_wp2_with (first
              | (at_mapUpdate; refine wpList_mapUpdate_own _ rfl _ _ _ 22 rfl 9 4 law9 Try.underlying22 _ w1.heap.size k _ rfl hown (by unfold maxLen; omega) _ _ _ rfl rfl hkey _ [] (plainElem_bool Try.underlying4 true) ?_; intro w2 hown2 hgrow2; have hb2 := hd.below.grown hgrow2 hd.below.size (fun j hj => by cases hj; exact Nat.le_refl _); have hgot : (Instr.lookup 22 (.map (some w.heap.size)) (.string s) true).run Try.prog w2 = .ok (.tuple #[.bool true, .bool true]) w2 := (hm1.later hb2).look_okB s hsz1 HgB.out HhB.out; have hlkT : (Instr.lookup 22 (.map r) (.string s) false).run Try.prog w2 = .ok (.bool true) w2 := by { rw [((hm.later (hb1.trans (hb2.mono hb1.size))).look s hsz1)]; exact congrArg (fun b => Result.ok (Value.bool b) w2) Hbg.out })
              | go_in)
            have hfin : Head w1 D1 ss len (k + 1) (n + 1) w2 := hd.new (by omega) Hstep.out Hg.out (fun h => by omega) hcan hset hown2 hb2 (by rw [HhB.out]; rfl)
            go_roundw
            case rel => exact ⟨k + 1, _, by go_num, by go_num, hfin⟩
            case measure => simp [intOf] <;> omega

        · have HgB : Hid (bget D1 s.data.toList = true) := (hset1.bget _).trans (by simp [hcd, allowB, hr])
          have HhB : Hid (Maps.has D1 (.string s.data.toList) = true) := (hset1.has _).trans (by simp [onStr, hcd, allowB, hr])
          clear hcd
          go_wp2_with (first
            | (at_mapUpdate; refine wpList_mapUpdate_own _ rfl _ _ _ 22 rfl 9 4 law9 Try.underlying22 _ w1.heap.size k _ rfl hown (by unfold maxLen; omega) _ _ _ rfl rfl hkey _ [] (plainElem_bool Try.underlying4 true) ?_; intro w2 hown2 hgrow2; have hb2 := hd.below.grown hgrow2 hd.below.size (fun j hj => by cases hj; exact Nat.le_refl _); have hgot : (Instr.lookup 22 (.map (some w.heap.size)) (.string s) true).run Try.prog w2 = .ok (.tuple #[.bool true, .bool true]) w2 := (hm1.later hb2).look_okB s hsz1 HgB.out HhB.out)
            | go_in)
          have hfin : Head w1 D1 ss len (k + 1) (n + 1) w2 := hd.new (by omega) Hstep.out Hg.out (fun h => by omega) hcan hset hown2 hb2 (by rw [HhB.out]; rfl)
          go_roundw
          case rel => exact ⟨k + 1, _, by go_num, by go_num, hfin⟩
          case measure => simp [intOf] <;> omega

      · -- SEEN
        have hl1 := hlkS _ hg
        have hfin : Head w1 D1 ss len (k + 1) n wr := hd.seen (by omega) Hstep.out hg (fun h => by omega)
        clear hlkS hg hcd
        go_wp2
        go_roundw
        case rel => exact ⟨k + 1, _, by go_num, rfl, hfin⟩
        case measure => simp [intOf] <;> omega

    · by_cases hlt2 : k = len
      · obtain rfl : len = k := hlt2.symm
        clear hlt2
        have hstep := fun l => seen_last (ss := ss) h1.size l
        have Hstep := hide hstep
        clear hstep
        have hcd : candB ss sI = true := by simp [candB, HNh.out]
        have hsz1 : (⟨#[105, 110, 116, 101, 103, 101, 114]⟩ : ByteArray).size ≤ maxLen := by decide
        have hkey : keyOf Try.prog 9 (.string ⟨#[105, 110, 116, 101, 103, 101, 114]⟩) = some (.string sI) := keyOf_string_mk Try.underlying9 hsz1
        have hlkS : ∀ b, seenB ss len len sI = b → (Instr.lookup 22 (.map (some w1.heap.size)) (.string ⟨#[105, 110, 116, 101, 103, 101, 114]⟩) false).run Try.prog wr = .ok (.bool b) wr := fun b hb => (MapIn.look (r := some w1.heap.size) ⟨_, hown⟩ ⟨#[105, 110, 116, 101, 103, 101, 114]⟩ hsz1).trans (congrArg (fun b => Result.ok (Value.bool b) wr) ((hset.bget sI).trans hb))
        cases hg : seenB ss len len sI
        · -- NEW
          have hl1 := hlkS _ hg
          have Hg := hide hg
          clear hlkS hg
          cases hr : r.isNone
          · cases hbg : bget D sI
            · have HgB : Hid (bget D1 sI = false) := (hset1.bget _).trans (by simp [hcd, allowB, hr, hbg])
              have HhB : Hid (Maps.has D1 (.string sI) = false) := (hset1.has _).trans (by simp [onStr, hcd, allowB, hr, hbg])
              have Hbg := hide hbg
              clear hbg hcd
              go_wp2_with (first
                | (at_mapUpdate; refine wpList_mapUpdate_own _ rfl _ _ _ 22 rfl 9 4 law9 Try.underlying22 _ w1.heap.size len _ rfl hown (by unfold maxLen; omega) _ _ _ rfl rfl hkey _ [] (plainElem_bool Try.underlying4 true) ?_; intro w2 hown2 hgrow2; have hb2 := hd.below.grown hgrow2 hd.below.size (fun j hj => by cases hj; exact Nat.le_refl _); have hgot : (Instr.lookup 22 (.map (some w.heap.size)) (.string ⟨#[105, 110, 116, 101, 103, 101, 114]⟩) true).run Try.prog w2 = .ok (.tuple #[.bool false, .bool false]) w2 := (hm1.later hb2).look_okB ⟨#[105, 110, 116, 101, 103, 101, 114]⟩ hsz1 HgB.out HhB.out; have hlkT : (Instr.lookup 22 (.map r) (.string ⟨#[105, 110, 116, 101, 103, 101, 114]⟩) false).run Try.prog w2 = .ok (.bool false) w2 := by { rw [((hm.later (hb1.trans (hb2.mono hb1.size))).look ⟨#[105, 110, 116, 101, 103, 101, 114]⟩ hsz1)]; exact congrArg (fun b => Result.ok (Value.bool b) w2) Hbg.out })
                | go_in)
              have hfin : Head w1 D1 ss len (len + 1) (n) w2 := hd.new (Nat.le_refl _) Hstep.out Hg.out (fun _ => HNh.out) hcan hset hown2 hb2 (by rw [HhB.out]; rfl)
              go_roundw
              case rel => exact ⟨len + 1, _, by go_num, rfl, hfin⟩
              case measure => simp [intOf] <;> omega

            · have HgB : Hid (bget D1 sI = true) := (hset1.bget _).trans (by simp [hcd, allowB, hbg])
              have HhB : Hid (Maps.has D1 (.string sI) = true) := (hset1.has _).trans (by simp [onStr, hcd, allowB, hbg])
              have Hbg := hide hbg
              clear hbg hcd
              go_wp2_with (first
                | (at_mapUpdate; refine wpList_mapUpdate_own _ rfl _ _ _ 22 rfl 9 4 law9 Try.underlying22 _ w1.heap.size len _ rfl hown (by unfold maxLen; omega) _ _ _ rfl rfl hkey _ [] (plainElem_bool Try.underlying4 true) ?_; intro w2 hown2 hgrow2; have hb2 := hd.below.grown hgrow2 hd.below.size (fun j hj => by cases hj; exact Nat.le_refl _); have hgot : (Instr.lookup 22 (.map (some w.heap.size)) (.string ⟨#[105, 110, 116, 101, 103, 101, 114]⟩) true).run Try.prog w2 = .ok (.tuple #[.bool true, .bool true]) w2 := (hm1.later hb2).look_okB ⟨#[105, 110, 116, 101, 103, 101, 114]⟩ hsz1 HgB.out HhB.out; have hlkT : (Instr.lookup 22 (.map r) (.string ⟨#[105, 110, 116, 101, 103, 101, 114]⟩) false).run Try.prog w2 = .ok (.bool true) w2 := by { rw [((hm.later (hb1.trans (hb2.mono hb1.size))).look ⟨#[105, 110, 116, 101, 103, 101, 114]⟩ hsz1)]; exact congrArg (fun b => Result.ok (Value.bool b) w2) Hbg.out })
                | go_in)
              have hfin : Head w1 D1 ss len (len + 1) (n + 1) w2 := hd.new (Nat.le_refl _) Hstep.out Hg.out (fun _ => HNh.out) hcan hset hown2 hb2 (by rw [HhB.out]; rfl)
              go_roundw
              case rel => exact ⟨len + 1, _, by go_num, by go_num, hfin⟩
              case measure => simp [intOf] <;> omega

          · have HgB : Hid (bget D1 sI = true) := (hset1.bget _).trans (by simp [hcd, allowB, hr])
            have HhB : Hid (Maps.has D1 (.string sI) = true) := (hset1.has _).trans (by simp [onStr, hcd, allowB, hr])
            clear hcd
            go_wp2_with (first
              | (at_mapUpdate; refine wpList_mapUpdate_own _ rfl _ _ _ 22 rfl 9 4 law9 Try.underlying22 _ w1.heap.size len _ rfl hown (by unfold maxLen; omega) _ _ _ rfl rfl hkey _ [] (plainElem_bool Try.underlying4 true) ?_; intro w2 hown2 hgrow2; have hb2 := hd.below.grown hgrow2 hd.below.size (fun j hj => by cases hj; exact Nat.le_refl _); have hgot : (Instr.lookup 22 (.map (some w.heap.size)) (.string ⟨#[105, 110, 116, 101, 103, 101, 114]⟩) true).run Try.prog w2 = .ok (.tuple #[.bool true, .bool true]) w2 := (hm1.later hb2).look_okB ⟨#[105, 110, 116, 101, 103, 101, 114]⟩ hsz1 HgB.out HhB.out)
              | go_in)
            have hfin : Head w1 D1 ss len (len + 1) (n + 1) w2 := hd.new (Nat.le_refl _) Hstep.out Hg.out (fun _ => HNh.out) hcan hset hown2 hb2 (by rw [HhB.out]; rfl)
            go_roundw
            case rel => exact ⟨len + 1, _, by go_num, by go_num, hfin⟩
            case measure => simp [intOf] <;> omega

        · -- SEEN
          have hl1 := hlkS _ hg
          have hfin : Head w1 D1 ss len (len + 1) n wr := hd.seen (Nat.le_refl _) Hstep.out hg (fun _ => HNh.out)
          clear hlkS hg hcd
          go_wp2
          go_roundw
          case rel => exact ⟨len + 1, _, by go_num, rfl, hfin⟩
          case measure => simp [intOf] <;> omega

      · have hlenD := (hm1.later hd.below).len
        have hsd := hd.done h1.size (by omega) (fun _ => by omega) hcan hset1
        have Hsd := hide hsd
        clear hsd
        go_wp2
        go_ret
        exact ⟨ret_bool5 (by rw [Hsd.out]; simp), hb1.trans (hd.below.mono hb1.size)⟩

set_option maxRecDepth 100000 in
set_option maxHeartbeats 4000000 in
theorem spec_nonum (h : StrsIn w a len cap ss adr) (hm : MapIn w r D) (hsz : (Maps.size D : Int) ≤ 65536) (hle : (len : Int) ≤ 65536) (hN : holdB ss sN = false) :
    Calls Try.prog 5 #[.map r, .slice a len cap] w fun e w' => e = .returned (.bool true) ∧ Below w.heap.size w w' := by
  have hlen := hm.len
  have hmm := @run_makeMap Try.prog
  have heql : ∀ (m : Option Nat) w', (binOp .eql 22 (.map m) (.map none)).run Try.prog w' = .ok (.bool m.isNone) w' := fun m w' => run_eql_map_nil w' 22 9 4 m Try.underlying22
  go_enter Try.func5, Try.ntmps5
  go_wp2_with fail
  refine (within_any h).mono ?_
  rintro e w' ⟨⟨b, rfl⟩, hw'⟩
  have hw2 := hw'.symm
  clear hw'
  subst hw2
  cases b
  · go_wp2
    go_ret
    exact ⟨rfl, Below.refl _ _⟩
  go_wp2_with fail
  refine (zzInter_any h (by omega) r D hm).mono ?_
  rintro e w1 ⟨rfl, ⟨D1, hset1, hm1⟩, hb1⟩
  have h1 := h.later hb1
  have hcan : Canon D1 := by obtain ⟨n0, ho⟩ := hm1; exact ho.canon law9
  have HN := hide (hold_lit5 h1 sN hN)
  go_wp2_with fail
  refine (unhide HN).mono ?_
  rintro e w' ⟨rfl, hw'⟩
  have hw2 := hw'.symm
  clear hw'
  subst hw2
  clear HN
  have HNh := hide hN
  clear hN
  go_wp2
  go_loopw [8, 9] (fun want i wr => ∃ k n : Nat, i = .int .i64 k ∧ want = .int .i64 n ∧ Head w1 D1 ss len k n wr) (fun _ i _ => len + 1 - (intOf i).toNat)
  case atStart => exact ⟨0, 0, rfl, rfl, ⟨Nat.zero_le _, Nat.le_refl _, ⟨.map [], World.ownsMap_made _ _ _ _, SetOk.empty.congr (fun l => by simp [seenB, holdB])⟩, (by simp [cntG_none]), fun h => by omega, (Below.refl _ _).alloc (Nat.le_refl _) _⟩⟩
  case round =>
    obtain ⟨k, n, rfl, rfl, hd⟩ := hrel
    have hkle := hd.le
    have hnle := hd.nle
    obtain ⟨Ds, hown, hset⟩ := hd.own
    by_cases hlt : k < len
    · have hix := fun w' => h1.ix k w' hlt
      have hc := (h1.later hd.below).cell k hlt
      have hstep := fun l => seen_step (ss := ss) hlt h1.size l
      have hcd := cand_mem h1 hlt
      have hszk := h1.get_le k
      generalize ss.getD k ByteArray.empty = s at *
      generalize adr k = ad at *
      have Hstep := hide hstep
      clear hstep
      have hsz1 : (s : ByteArray).size ≤ maxLen := hszk
      have hkey : keyOf Try.prog 9 (.string s) = some (.string s.data.toList) := keyOf_string_mk Try.underlying9 hsz1
      have hlkS : ∀ b, seenB ss len k s.data.toList = b → (Instr.lookup 22 (.map (some w1.heap.size)) (.string s) false).run Try.prog wr = .ok (.bool b) wr := fun b hb => (MapIn.look (r := some w1.heap.size) ⟨_, hown⟩ s hsz1).trans (congrArg (fun b => Result.ok (Value.bool b) wr) ((hset.bget s.data.toList).trans hb))
      cases hg : seenB ss len k s.data.toList
      · -- NEW
        have hl1 := hlkS _ hg
        have Hg := hide hg
        clear hlkS hg
        cases hr : r.isNone
        · cases hbg : bget D s.data.toList
          · have HgB : Hid (bget D1 s.data.toList = false) := (hset1.bget _).trans (by simp [hcd, allowB, hr, hbg])
            have HhB : Hid (Maps.has D1 (.string s.data.toList) = false) := (hset1.has _).trans (by simp [onStr, hcd, allowB, hr, hbg])
            have Hbg := hide hbg
            clear hbg hcd
            go_wp2_with (first
              | (at_mapUpdate; refine wpList_mapUpdate_own _ rfl _ _ _ 22 rfl 9 4 law9 Try.underlying22 _ w1.heap.size k _ rfl hown (by unfold maxLen; omega) _ _ _ rfl rfl hkey _ [] (plainElem_bool Try.underlying4 true) ?_; intro w2 hown2 hgrow2; have hb2 := hd.below.grown hgrow2 hd.below.size (fun j hj => by cases hj; exact Nat.le_refl _); have hgot : (Instr.lookup 22 (.map (some w.heap.size)) (.string s) true).run Try.prog w2 = .ok (.tuple #[.bool false, .bool false]) w2 := (hm1.later hb2).look_okB s hsz1 HgB.out HhB.out; have hlkT : (Instr.lookup 22 (.map r) (.string s) false).run Try.prog w2 = .ok (.bool false) w2 := by { rw [((hm.later (hb1.trans (hb2.mono hb1.size))).look s hsz1)]; exact congrArg (fun b => Result.ok (Value.bool b) w2) Hbg.out })
              | go_in)
            have hfin : Head w1 D1 ss len (k + 1) (n) w2 := hd.new (by omega) Hstep.out Hg.out (fun h => by omega) hcan hset hown2 hb2 (by rw [HhB.out]; rfl)
            go_roundw
            case rel => exact ⟨k + 1, _, by go_num, rfl, hfin⟩
            case measure => simp [intOf] <;> omega

          · have HgB : Hid (bget D1 s.data.toList = true) := (hset1.bget _).trans (by simp [hcd, allowB, hbg])
            have HhB : Hid (Maps.has D1 (.string s.data.toList) = true) := (hset1.has _).trans (by simp [onStr, hcd, allowB, hbg])
            have Hbg := hide hbg
            clear hbg hcd
            go_wp2_with (first
              | (at_mapUpdate; refine wpList_mapUpdate_own _ rfl _ _ _ 22 rfl 9 4 law9 Try.underlying22 _ w1.heap.size k _ rfl hown (by unfold maxLen; omega) _ _ _ rfl rfl hkey _ [] (plainElem_bool Try.underlying4 true) ?_; intro w2 hown2 hgrow2; have hb2 := hd.below.grown hgrow2 hd.below.size (fun j hj => by cases hj; exact Nat.le_refl _); have hgot : (Instr.lookup 22 (.map (some w.heap.size)) (.string s) true).run Try.prog w2 = .ok (.tuple #[.bool true, .bool true]) w2 := (hm1.later hb2).look_okB s hsz1 HgB.out HhB.out; have hlkT : (Instr.lookup 22 (.map r) (.string s) false).run Try.prog w2 = .ok (.bool true) w2 := by { rw [((hm.later (hb1.trans (hb2.mono hb1.size))).look s hsz1)]; exact congrArg (fun b => Result.ok (Value.bool b) w2) Hbg.out })
              | go_in)
            have hfin : Head w1 D1 ss len (k + 1) (n + 1) w2 := hd.new (by omega) Hstep.out Hg.out (fun h => by omega) hcan hset hown2 hb2 (by rw [HhB.out]; rfl)
            go_roundw
            case rel => exact ⟨k + 1, _, by go_num, by go_num, hfin⟩
            case measure => simp [intOf] <;> omega

        · have HgB : Hid (bget D1 s.data.toList = true) := (hset1.bget _).trans (by simp [hcd, allowB, hr])
          have HhB : Hid (Maps.has D1 (.string s.data.toList) = true) := (hset1.has _).trans (by simp [onStr, hcd, allowB, hr])
          clear hcd
          go_wp2_with (first
            | (at_mapUpdate; refine wpList_mapUpdate_own _ rfl _ _ _ 22 rfl 9 4 law9 Try.underlying22 _ w1.heap.size k _ rfl hown (by unfold maxLen; omega) _ _ _ rfl rfl hkey _ [] (plainElem_bool Try.underlying4 true) ?_; intro w2 hown2 hgrow2; have hb2 := hd.below.grown hgrow2 hd.below.size (fun j hj => by cases hj; exact Nat.le_refl _); have hgot : (Instr.lookup 22 (.map (some w.heap.size)) (.string s) true).run Try.prog w2 = .ok (.tuple #[.bool true, .bool true]) w2 := (hm1.later hb2).look_okB s hsz1 HgB.out HhB.out)
            | go_in)
          have hfin : Head w1 D1 ss len (k + 1) (n + 1) w2 := hd.new (by omega) Hstep.out Hg.out (fun h => by omega) hcan hset hown2 hb2 (by rw [HhB.out]; rfl)
          go_roundw
          case rel => exact ⟨k + 1, _, by go_num, by go_num, hfin⟩
          case measure => simp [intOf] <;> omega

      · -- SEEN
        have hl1 := hlkS _ hg
        have hfin : Head w1 D1 ss len (k + 1) n wr := hd.seen (by omega) Hstep.out hg (fun h => by omega)
        clear hlkS hg hcd
        go_wp2
        go_roundw
        case rel => exact ⟨k + 1, _, by go_num, rfl, hfin⟩
        case measure => simp [intOf] <;> omega

    · by_cases hlt2 : k = len
      · have hlenD := (hm1.later hd.below).len
        have hsd := hd.done h1.size (by omega) (fun hh => by rw [HNh.out] at hh; cases hh) hcan hset1
        have Hsd := hide hsd
        have hkl : ¬ (len : Int) < k := by omega
        clear hsd hlt2
        go_wp2
        go_ret
        exact ⟨ret_bool5 (by rw [Hsd.out]; simp), hb1.trans (hd.below.mono hb1.size)⟩
      · have hlenD := (hm1.later hd.below).len
        have hsd := hd.done h1.size (by omega) (fun _ => by omega) hcan hset1
        have Hsd := hide hsd
        clear hsd
        go_wp2
        go_ret
        exact ⟨ret_bool5 (by rw [Hsd.out]; simp), hb1.trans (hd.below.mono hb1.size)⟩

end

end Go.Proofs.Qxb6603330a
