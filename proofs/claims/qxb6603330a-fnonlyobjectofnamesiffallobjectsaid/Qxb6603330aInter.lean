/-
  intersect: walked.
-/
import Derived.Test.Qxb6603330aNames
import Derived.Test.Qxb6603330aScalar
namespace Go.Proofs.Qxb6603330a
open Go.RowKit Go.Maps Go.WideMaps

section
variable {H : Type}

def onStr (f : List UInt8 → Bool) (kl : Lit) : Bool := match kl with | .string l => f l | _ => false

/-- D holds just the keys that f says, each with true. -/
structure SetOk (D : DataW H) (f : List UInt8 → Bool) : Prop where
  isMap : IsMap D
  has : ∀ kl, Maps.has D kl = onStr f kl
  val : ∀ kl z, Maps.has D kl = true → D.atKey kl z = .lit (.bool true)

theorem SetOk.empty : SetOk (.map [] : DataW H) (fun _ => false) :=
  ⟨⟨[], rfl⟩, fun kl => by cases kl <;> rfl, fun kl z h => by cases h⟩

theorem SetOk.congr {D : DataW H} {f g : List UInt8 → Bool} (h : SetOk D f) (e : ∀ l, f l = g l) : SetOk D g :=
  ⟨h.isMap, fun kl => by rw [h.has kl]; cases kl <;> simp [onStr, e], h.val⟩

theorem SetOk.put {D : DataW H} {f : List UInt8 → Bool} (h : SetOk D f) (l : List UInt8) : SetOk (D.put (.string l) (.lit (.bool true))) (fun x => f x || x == l) := by
  refine ⟨h.isMap.put _ _, fun kl => ?_, fun kl z hh => ?_⟩
  · by_cases e : kl = .string l
    · subst e
      rw [has_put_same (k := .string l) h.isMap trivial]
      simp [onStr]
    · rw [has_put_other e, h.has kl]
      cases kl <;> simp [onStr]
      intro e'
      subst e'
      exact absurd rfl e
  · by_cases e : kl = .string l
    · subst e
      rw [atKey_put_same (k := .string l) h.isMap trivial]
    · rw [has_put_other e] at hh
      rw [atKey_put_other e, h.val kl z hh]

theorem SetOk.del {D : DataW H} {f : List UInt8 → Bool} (h : SetOk D f) (l : List UInt8) : SetOk (D.del (.string l)) (fun x => f x && !(x == l)) := by
  refine ⟨h.isMap.del _, fun kl => ?_, fun kl z hh => ?_⟩
  · by_cases e : kl = .string l
    · subst e
      rw [has_del_same]
      simp [onStr]
    · rw [has_del_other e, h.has kl]
      cases kl <;> simp [onStr]
      intro _ e'
      subst e'
      exact absurd rfl e
  · by_cases e : kl = .string l
    · subst e
      rw [has_del_same] at hh
      cases hh
    · rw [has_del_other e] at hh
      rw [atKey_del_other e, h.val kl z hh]

theorem SetOk.bget {D : DataW H} {f : List UInt8 → Bool} (h : SetOk D f) (l : List UInt8) : bget D l = f l := by
  have hh := h.has (.string l)
  simp only [onStr] at hh
  cases hf : f l
  · rw [hf] at hh
    simp [Go.Proofs.Qxb6603330a.bget, atKey_of_not_has hh]
  · rw [hf] at hh
    simp [Go.Proofs.Qxb6603330a.bget, h.val _ _ hh]

end

/-- The names that count: those named, "integer" too where "number" is named. -/
def candB (ss : List ByteArray) (l : List UInt8) : Bool := holdB ss l || (holdB ss sN && l == sI)

/-- What types allows: nil allows all. -/
def allowB {H : Type} (r : Option Nat) (D : DataW H) (l : List UInt8) : Bool := r.isNone || bget D l

theorem holdB_snoc (ss : List ByteArray) (s : ByteArray) (l : List UInt8) : holdB (ss ++ [s]) l = (holdB ss l || l == s.data.toList) := by
  simp only [holdB, List.any_append, List.any_cons, List.any_nil, Bool.or_false]
  have e : (s.data.toList == l) = (l == s.data.toList) := by
    rw [Bool.eq_iff_iff]
    simp only [beq_iff_eq]
    exact ⟨fun h => h.symm, fun h => h.symm⟩
  rw [e]

theorem look_at {H : Type} {r : Option Nat} {D : DataW H} {w : World} (h : MapIn w r D) (l : List UInt8) (hl : l.length ≤ maxLen) {b : Bool} (hb : bget D l = b) :
    (Instr.lookup 22 (.map r) (.string ⟨l.toArray⟩) false).run Try.prog w = .ok (.bool b) w := by
  have := h.look ⟨l.toArray⟩ (by simpa [ByteArray.size] using hl)
  rw [this]
  simp [hb]

set_option maxRecDepth 100000 in
set_option maxHeartbeats 1000000 in
theorem inter_nil {H : Type} {w : World} {a : Option Addr} {len cap : Nat} {ss : List ByteArray} {adr : Nat → Addr} (h : StrsIn w a len cap ss adr) (hle : len ≤ 65536) :
    Calls Try.prog 17 #[.map none, .slice a len cap] w fun e w' => e = .returned (.map (some w.heap.size)) ∧ (∃ D' : DataW H, SetOk D' (candB ss) ∧ MapIn w' (some w.heap.size) D') ∧ Below w.heap.size w w' := by
  have hmm := @run_makeMap Try.prog
  have hnil : ∀ (m : Option Nat) w', (binOp .eql 22 (.map m) (.map none)).run Try.prog w' = .ok (.bool m.isNone) w' := fun m w' => run_eql_map_nil w' 22 9 4 m Try.underlying22
  go_enter Try.func17, Try.ntmps17
  go_wp2
  go_loopw [12] (fun i wr => ∃ (k : Nat) (D1 : DataW H), k ≤ len ∧ i = .int .i64 k ∧ wr.ownsMap Try.prog 9 (plainElem Try.prog 4) w.heap.size k D1 ∧ SetOk D1 (holdB (ss.take k)) ∧ Below w.heap.size w wr)
    (fun i _ => len - (intOf i).toNat)
  case atStart => exact ⟨0, .map [], Nat.zero_le _, rfl, World.ownsMap_made _ _ _ _, SetOk.empty, (Below.refl _ _).alloc (Nat.le_refl _) _⟩
  case round =>
    obtain ⟨k, D1, hk, rfl, hown, hset, hnx⟩ := hrel
    by_cases hlt : k < len
    · have hix := fun w' => h.ix k w' hlt
      have hc := (h.later hnx).cell k hlt
      have hkey := keyOf_string_mk Try.underlying9 (h.get_le k)
      have hsn : Hid (ss.take (k + 1) = ss.take k ++ [ss.getD k ByteArray.empty]) := take_snoc_getD ss k (by rw [h.size]; exact hlt)
      generalize ss.getD k ByteArray.empty = s at *
      generalize adr k = ad at *
      go_wp2_with (first
        | (at_mapUpdate; refine wpList_mapUpdate_own _ rfl _ _ _ 22 rfl 9 4 law9 Try.underlying22 _ w.heap.size k _ rfl hown (by unfold maxLen; omega) _ _ _ rfl rfl hkey _ [] (plainElem_bool Try.underlying4 true) ?_; intro w1 hown1 hgrow1)
        | go_in)
      have R1 := hset.put s.data.toList
      have R2 := hnx.grown hgrow1 hnx.size (fun j hj => by cases hj; exact Nat.le_refl _)
      go_roundw
      case rel => exact ⟨k + 1, _, by omega, by go_num, hown1, R1.congr (fun l => by rw [hsn.out, holdB_snoc]), R2⟩
      case measure => simp [intOf]; omega
    · have hkl : k = len := by omega
      have hset' : SetOk D1 (holdB ss) := hset.congr (fun l => by rw [hkl, List.take_of_length_le (by rw [h.size]; exact Nat.le_refl _)])
      have hlook : ∀ b, holdB ss sN = b → (Instr.lookup 22 (.map (some w.heap.size)) (.string ⟨#[110, 117, 109, 98, 101, 114]⟩) false).run Try.prog wr = .ok (.bool b) wr :=
        fun b hb => look_at (r := some w.heap.size) ⟨_, hown⟩ sN (by decide) ((hset'.bget sN).trans hb)
      cases hN : holdB ss sN
      · have hl := hlook _ hN
        have hfin : Hid (SetOk D1 (candB ss)) := hset'.congr (fun l => by simp [candB, hN])
        clear hlook hN hset hset'
        go_wp2
        go_ret
        exact ⟨rfl, ⟨D1, hfin.out, _, hown⟩, hnx⟩
      · have hl := hlook _ hN
        have hfin : Hid (SetOk (D1.put (.string sI) (.lit (.bool true))) (candB ss)) := (hset'.put sI).congr (fun l => by simp [candB, hN])
        have hkey : keyOf Try.prog 9 (.string ⟨#[105, 110, 116, 101, 103, 101, 114]⟩) = some (.string sI) := keyOf_string_mk Try.underlying9 (by decide)
        clear hlook hN hset hset'
        go_wp2_with (first
          | (at_mapUpdate; refine wpList_mapUpdate_own _ rfl _ _ _ 22 rfl 9 4 law9 Try.underlying22 _ w.heap.size k _ rfl hown (by unfold maxLen; omega) _ _ _ rfl rfl hkey _ [] (plainElem_bool Try.underlying4 true) ?_; intro w1 hown1 hgrow1)
          | go_in)
        go_ret
        exact ⟨rfl, ⟨_, hfin.out, _, hown1⟩, hnx.grown hgrow1 hnx.size (fun j hj => by cases hj; exact Nat.le_refl _)⟩

end Go.Proofs.Qxb6603330a
