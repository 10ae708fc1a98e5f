/-
  intersect with a map that is not nil: walked; both cases joined; ZZIntersect.
-/
import Derived.Test.Qxb6603330aInter
namespace Go.Proofs.Qxb6603330a
open Go.RowKit Go.Maps Go.WideMaps

theorem hide {p : Prop} (h : p) : Hid p := h
theorem unhide {p : Prop} (h : Hid p) : p := h

theorem strike_no {H : Type} {D D2 : DataW H} {g : List UInt8 → Bool} {left : Lit → Bool} {l : List UInt8} (h : SetOk D2 (fun x => g x && (left (.string x) || bget D x))) (hb : bget D l = false) :
    SetOk (D2.del (.string l)) (fun x => g x && ((fun z : Lit => left z && !z.sameKey (.string l)) (.string x) || bget D x)) := by
  refine (h.del l).congr (fun x => ?_)
  by_cases e : x = l
  · subst e
    simp [hb, WideAt.sameKey_self (a := .string x) trivial]
  · have e1 : (x == l) = false := by simpa using e
    have e2 : (Lit.string x).sameKey (.string l) = false := sameKey_ne (fun e' => e (by injection e'))
    simp [e1, e2]

theorem strike_yes {H : Type} {D D2 : DataW H} {g : List UInt8 → Bool} {left : Lit → Bool} {l : List UInt8} (h : SetOk D2 (fun x => g x && (left (.string x) || bget D x))) (hb : bget D l = true) :
    SetOk D2 (fun x => g x && ((fun z : Lit => left z && !z.sameKey (.string l)) (.string x) || bget D x)) := by
  refine h.congr (fun x => ?_)
  by_cases e : x = l
  · subst e
    simp [hb]
  · have e2 : (Lit.string x).sameKey (.string l) = false := sameKey_ne (fun e' => e (by injection e'))
    simp [e2]

set_option maxRecDepth 100000 in
set_option maxHeartbeats 2000000 in
theorem inter_some {H : Type} {w : World} {a : Option Addr} {len cap : Nat} {ss : List ByteArray} {adr : Nat → Addr} (h : StrsIn w a len cap ss adr) (hle : len ≤ 65536) (bT : Nat) (D : DataW H) (hm : MapIn w (some bT) D) :
    Calls Try.prog 17 #[.map (some bT), .slice a len cap] w fun e w' => e = .returned (.map (some w.heap.size)) ∧ (∃ D' : DataW H, SetOk D' (fun l => candB ss l && allowB (some bT) D l) ∧ MapIn w' (some w.heap.size) D') ∧ Below w.heap.size w w' := by
  have hmm := @run_makeMap Try.prog
  have hnil : ∀ (m : Option Nat) w', (binOp .eql 22 (.map m) (.map none)).run Try.prog w' = .ok (.bool m.isNone) w' := fun m w' => run_eql_map_nil w' 22 9 4 m Try.underlying22
  go_enter Try.func17, Try.ntmps17
  go_wp2
  go_loopw [12] (fun i wr => ∃ (k : Nat) (D1 : DataW H), k ≤ len ∧ i = .int .i64 k ∧ wr.ownsMap Try.prog 9 (plainElem Try.prog 4) w.heap.size k D1 ∧ SetOk D1 (holdB (ss.take k)) ∧ Below w.heap.size w wr)
    (fun i _ => len - (intOf i).toNat)
  case atStart => exact ⟨0, .map [], Nat.zero_le _, rfl, World.ownsMap_made _ _ _ _, SetOk.empty, (Below.refl _ _).alloc (Nat.le_refl _) _⟩
  case round =>
    obtain ⟨k, D1, hk, rfl, hown, hset, hnx⟩ := hrel
    by_cases hlt : k < len
    · have hix := fun w' => h.ix k w' hlt
      have hc := (h.later hnx).cell k hlt
      have hkey := keyOf_string_mk Try.underlying9 (h.get_le k)
      have hsn : Hid (ss.take (k + 1) = ss.take k ++ [ss.getD k ByteArray.empty]) := take_snoc_getD ss k (by rw [h.size]; exact hlt)
      generalize ss.getD k ByteArray.empty = s at *
      generalize adr k = ad at *
      go_wp2_with (first
        | (at_mapUpdate; refine wpList_mapUpdate_own _ rfl _ _ _ 22 rfl 9 4 law9 Try.underlying22 _ w.heap.size k _ rfl hown (by unfold maxLen; omega) _ _ _ rfl rfl hkey _ [] (plainElem_bool Try.underlying4 true) ?_; intro w1 hown1 hgrow1)
        | go_in)
      have R1 := hset.put s.data.toList
      have R2 := hnx.grown hgrow1 hnx.size (fun j hj => by cases hj; exact Nat.le_refl _)
      go_roundw
      case rel => exact ⟨k + 1, _, by omega, by go_num, hown1, R1.congr (fun l => by rw [hsn.out, holdB_snoc]), R2⟩
      case measure => simp [intOf]; omega
    · have hkl : k = len := by omega
      have hset' : SetOk D1 (holdB ss) := hset.congr (fun l => by rw [hkl, List.take_of_length_le (by rw [h.size]; exact Nat.le_refl _)])
      have hlook : ∀ b, holdB ss sN = b → (Instr.lookup 22 (.map (some w.heap.size)) (.string ⟨#[110, 117, 109, 98, 101, 114]⟩) false).run Try.prog wr = .ok (.bool b) wr :=
        fun b hb => look_at (r := some w.heap.size) ⟨_, hown⟩ sN (by decide) ((hset'.bget sN).trans hb)
      clear hkl
      cases hN : holdB ss sN
      · have hl := hlook _ hN
        have hfin : Hid (SetOk D1 (candB ss)) := hset'.congr (fun l => by simp [candB, hN])
        clear hlook hN hset hset'
        go_wp2_with (first
          | (at_range; refine wpList_range_own _ rfl _ 22 rfl 9 4 law9 Try.underlying22 _ w.heap.size k _ rfl hown ?_; intro w0 hrg0 hg0 hs0)
          | go_in)
        go_frame
        have hb0 : Below w.heap.size w w0 := (hnx).grown hg0 (hnx).size (fun k hk => by cases hk)
        have hst : SetOk (D1) (fun l => candB ss l && (Maps.has (D1) (.string l) || bget D l)) := hfin.out.congr (fun l => by rw [hfin.out.has (.string l)]; simp only [onStr]; cases candB ss l <;> rfl)
        have Hst := hide hst
        clear hst hg0 hs0 hfin
        go_loopw [8] (fun _ wq => ∃ (left : Lit → Bool) (cnt : Nat) (D2 : DataW H), wq.ranges Try.prog 9 (plainElem Try.prog 4) w.heap.size wr.heap.size (k) D2 left cnt ∧ SetOk D2 (fun l => candB ss l && (left (.string l) || bget D l)) ∧ Below w.heap.size w wq)
          (fun _ wq => wq.rangeLeft w.heap.size wr.heap.size)
        case atStart => exact ⟨_, _, _, hrg0, unhide Hst, hb0⟩
        case round =>
          obtain ⟨left, cnt, D2, hrg, hset2, hbw⟩ := hrel
          go_wp2_with (first
            | (at_next; refine wpList_next_sb _ rfl _ rfl w.heap.size _ (k) _ _ _ rfl hrg (fun _ hl0 => ?_) (fun s c w2 cnt2 hs hlx hat hrg2 hlt hg2 hs2 hen => ?_); rotate_left; have hbw2 := hbw.grown hg2 hbw.size (fun j hj => by cases hj; exact hnx.size); have hlk := (hm.later hbw2).look s hs)
            | (at_delete; refine wpList_delete_ranges _ rfl _ _ 22 9 rfl 4 law9 Try.underlying22 _ w.heap.size _ (k) _ _ _ rfl hrg2 _ _ rfl (keyOf_string_mk Try.underlying9 hs) ?_; intro w3 cnt3 hrg3 hle3 hturn; go_frame)
            | go_in)
          · have hbf : bget D s.data.toList = false := by simpa using (by assumption : (!bget D s.data.toList) = true)
            rw [strike_twice] at hrg3
            go_roundw
            case rel => exact ⟨_, cnt3, _, hrg3, strike_no hset2 hbf, hbw2.grown hturn.grown hbw2.size (fun j hj => by cases hj; exact Nat.le_refl _)⟩
            case measure => rw [hrg3.left_eq, hrg.left_eq]; omega
          · have hbf : bget D s.data.toList = true := by simpa using (by assumption : (!bget D s.data.toList) = false)
            go_roundw
            case rel => exact ⟨_, cnt2, _, hrg2, strike_yes hset2 hbf, hbw2⟩
            case measure => rw [hrg2.left_eq, hrg.left_eq]; exact hlt
          · go_ret
            exact ⟨rfl, ⟨D2, hset2.congr (fun l => by rw [hl0]; simp [allowB]), _, hrg.owns⟩, hbw⟩
      · have hl := hlook _ hN
        have hfin : Hid (SetOk (D1.put (.string sI) (.lit (.bool true))) (candB ss)) := (hset'.put sI).congr (fun l => by simp [candB, hN])
        have hkey : keyOf Try.prog 9 (.string ⟨#[105, 110, 116, 101, 103, 101, 114]⟩) = some (.string sI) := keyOf_string_mk Try.underlying9 (by decide)
        clear hlook hN hset hset'
        go_wp2_with (first
          | (at_mapUpdate; refine wpList_mapUpdate_own _ rfl _ _ _ 22 rfl 9 4 law9 Try.underlying22 _ w.heap.size k _ rfl hown (by unfold maxLen; omega) _ _ _ rfl rfl hkey _ [] (plainElem_bool Try.underlying4 true) ?_; intro w1 hown1 hgrow1; have hnx1 := hnx.grown hgrow1 hnx.size (fun j hj => by cases hj; exact Nat.le_refl _); clear hgrow1)
          | (at_range; refine wpList_range_own _ rfl _ 22 rfl 9 4 law9 Try.underlying22 _ w.heap.size (k + 1) _ rfl hown1 ?_; intro w0 hrg0 hg0 hs0)
          | go_in)
        go_frame
        have hb0 : Below w.heap.size w w0 := (hnx1).grown hg0 (hnx1).size (fun k hk => by cases hk)
        have hst : SetOk (D1.put (.string sI) (.lit (.bool true))) (fun l => candB ss l && (Maps.has (D1.put (.string sI) (.lit (.bool true))) (.string l) || bget D l)) := hfin.out.congr (fun l => by rw [hfin.out.has (.string l)]; simp only [onStr]; cases candB ss l <;> rfl)
        have Hst := hide hst
        clear hst hg0 hs0 hfin
        go_loopw [8] (fun _ wq => ∃ (left : Lit → Bool) (cnt : Nat) (D2 : DataW H), wq.ranges Try.prog 9 (plainElem Try.prog 4) w.heap.size w1.heap.size (k + 1) D2 left cnt ∧ SetOk D2 (fun l => candB ss l && (left (.string l) || bget D l)) ∧ Below w.heap.size w wq)
          (fun _ wq => wq.rangeLeft w.heap.size w1.heap.size)
        case atStart => exact ⟨_, _, _, hrg0, unhide Hst, hb0⟩
        case round =>
          obtain ⟨left, cnt, D2, hrg, hset2, hbw⟩ := hrel
          go_wp2_with (first
            | (at_next; refine wpList_next_sb _ rfl _ rfl w.heap.size _ (k + 1) _ _ _ rfl hrg (fun _ hl0 => ?_) (fun s c w2 cnt2 hs hlx hat hrg2 hlt hg2 hs2 hen => ?_); rotate_left; have hbw2 := hbw.grown hg2 hbw.size (fun j hj => by cases hj; exact hnx1.size); have hlk := (hm.later hbw2).look s hs)
            | (at_delete; refine wpList_delete_ranges _ rfl _ _ 22 9 rfl 4 law9 Try.underlying22 _ w.heap.size _ (k + 1) _ _ _ rfl hrg2 _ _ rfl (keyOf_string_mk Try.underlying9 hs) ?_; intro w3 cnt3 hrg3 hle3 hturn; go_frame)
            | go_in)
          · have hbf : bget D s.data.toList = false := by simpa using (by assumption : (!bget D s.data.toList) = true)
            rw [strike_twice] at hrg3
            go_roundw
            case rel => exact ⟨_, cnt3, _, hrg3, strike_no hset2 hbf, hbw2.grown hturn.grown hbw2.size (fun j hj => by cases hj; exact Nat.le_refl _)⟩
            case measure => rw [hrg3.left_eq, hrg.left_eq]; omega
          · have hbf : bget D s.data.toList = true := by simpa using (by assumption : (!bget D s.data.toList) = false)
            go_roundw
            case rel => exact ⟨_, cnt2, _, hrg2, strike_yes hset2 hbf, hbw2⟩
            case measure => rw [hrg2.left_eq, hrg.left_eq]; exact hlt
          · go_ret
            exact ⟨rfl, ⟨D2, hset2.congr (fun l => by rw [hl0]; simp [allowB]), _, hrg.owns⟩, hbw⟩

theorem inter_any {H : Type} {w : World} {a : Option Addr} {len cap : Nat} {ss : List ByteArray} {adr : Nat → Addr} (h : StrsIn w a len cap ss adr) (hle : len ≤ 65536) (r : Option Nat) (D : DataW H) (hm : MapIn w r D) :
    Calls Try.prog 17 #[.map r, .slice a len cap] w fun e w' => e = .returned (.map (some w.heap.size)) ∧ (∃ D' : DataW H, SetOk D' (fun l => candB ss l && allowB r D l) ∧ MapIn w' (some w.heap.size) D') ∧ Below w.heap.size w w' := by
  cases r with
  | none => exact (inter_nil h hle).mono fun e w' ⟨he, ⟨D', hs, hm'⟩, hb⟩ => ⟨he, ⟨D', hs.congr (fun l => by simp [allowB]), hm'⟩, hb⟩
  | some b => exact inter_some h hle b D hm

/-- The post of ZZIntersect under one name. -/
structure InterPost (H : Type) (w : World) (f : List UInt8 → Bool) (w' : World) : Prop where
  set : ∃ D' : DataW H, SetOk D' f ∧ MapIn w' (some w.heap.size) D'
  below : Below w.heap.size w w'

set_option maxHeartbeats 400000 in
theorem zzInter_any {H : Type} {w : World} {a : Option Addr} {len cap : Nat} {ss : List ByteArray} {adr : Nat → Addr} (h : StrsIn w a len cap ss adr) (hle : len ≤ 65536) (r : Option Nat) (D : DataW H) (hm : MapIn w r D) :
    Calls Try.prog 12 #[.map r, .slice a len cap] w fun e w' => e = .returned (.map (some w.heap.size)) ∧ InterPost H w (fun l => candB ss l && allowB r D l) w' := by
  go_enter Try.func12, Try.ntmps12
  go_wp2_with (go_at_call 17; refine (inter_any h hle r D hm).mono ?_; rintro e w' ⟨rfl, hs, hb⟩)
  go_ret
  exact ⟨rfl, hs, hb⟩

end Go.Proofs.Qxb6603330a
