/-
  A map[string]bool, nil or not, as one word 'MapIn'; what the three operations give on it; how it outlives new blocks.
-/
import Derived.Test.Qxb6603330aRows
import Derived.WalkKit
import Derived.WalkSpells
import Derived.WalkLawsBesides
import Derived.Maps.OwnSet
import Derived.Maps.RangeWalk
import Derived.Maps.Ext
import Derived.Sort.EncStr
namespace Go.Proofs.Qxb6603330a
open Go.RowKit Go.Maps Go.WideMaps

theorem law9 : Keyed Try.prog 9 := string_keyed Try.underlying9
theorem zero4 (w : World) : (zeroValue 4).run Try.prog w = .ok (.bool false) w := by kernel_rfl

section
variable {H : Type}

/-- An element that reads as a bool's datum IS that bool. -/
theorem plainElem_bool_inv {P : Program} {e : TypeId} (he : P.underlying e = some .bool) {v : Value} {z : DataW H × List MemPlace} (h : plainElem P e v = some z) : ∃ x, v = .bool x ∧ z = (.lit (.bool x), []) := by
  unfold plainElem at h
  rw [he] at h
  cases v <;> simp at h
  exact ⟨_, rfl, h.symm⟩

/-- What 'm[k]' gives, in the datum's words. -/
def bget (D : DataW H) (l : List UInt8) : Bool := match D.atKey (.string l) (.lit (.bool false)) with | .lit (.bool b) => b | _ => false

/-- The map value r reads as D in w: nil, or a block that is a map. -/
def MapIn (w : World) (r : Option Nat) (D : DataW H) : Prop :=
  match r with
  | none => D = .nil
  | some b => ∃ n, w.ownsMap Try.prog 9 (plainElem Try.prog 4) b n D

variable {w : World} {r : Option Nat} {D : DataW H}

theorem MapIn.below (h : MapIn w r D) {w' : World} {B : Nat} (hb : Below B w w') (hB : ∀ b, r = some b → b < B) : MapIn w' r D := by
  cases r with
  | none => exact h
  | some b =>
    obtain ⟨n, es, clock, hh, rest⟩ := h
    exact ⟨n, es, clock, (hb.block b (hB b rfl)).trans hh, rest⟩

theorem MapIn.lt (h : MapIn w r D) : ∀ b, r = some b → b < w.heap.size := by
  intro b hb
  subst hb
  obtain ⟨n, h⟩ := h
  exact h.lt

theorem MapIn.later (h : MapIn w r D) {w' : World} (hb : Below w.heap.size w w') : MapIn w' r D := h.below hb h.lt

theorem bget_eq {b : Bool} {l : List UInt8} (h : D.atKey (.string l) (.lit (.bool false)) = .lit (.bool b)) : bget D l = b := by simp [bget, h]

theorem MapIn.look (h : MapIn w r D) (s : ByteArray) (hs : s.size ≤ maxLen) : (Instr.lookup 22 (.map r) (.string s) false).run Try.prog w = .ok (.bool (bget D s.data.toList)) w := by
  have hkey := keyOf_string_mk Try.underlying9 hs
  cases r with
  | none =>
    rw [Maps.look_nil false law9 Try.underlying22 (zero4 w) hkey]
    have : D = .nil := h
    subst this
    rfl
  | some b =>
    obtain ⟨n, h⟩ := h
    obtain ⟨v, ps, hrun, hv⟩ := h.lookup law9 Try.underlying22 (zero4 w) (plainElem_bool Try.underlying4 false) hkey
    obtain ⟨x, rfl, hx⟩ := plainElem_bool_inv Try.underlying4 hv
    rw [hrun, bget_eq (congrArg Prod.fst hx)]

theorem MapIn.look_ok (h : MapIn w r D) (s : ByteArray) (hs : s.size ≤ maxLen) : (Instr.lookup 22 (.map r) (.string s) true).run Try.prog w = .ok (.tuple #[.bool (bget D s.data.toList), .bool (Maps.has D (.string s.data.toList))]) w := by
  have hkey := keyOf_string_mk Try.underlying9 hs
  cases r with
  | none =>
    rw [Maps.look_nil true law9 Try.underlying22 (zero4 w) hkey]
    have : D = .nil := h
    subst this
    rfl
  | some b =>
    obtain ⟨n, h⟩ := h
    obtain ⟨v, ps, hrun, hv⟩ := h.look_ok law9 Try.underlying22 (zero4 w) (plainElem_bool Try.underlying4 false) hkey
    obtain ⟨x, rfl, hx⟩ := plainElem_bool_inv Try.underlying4 hv
    rw [hrun, bget_eq (congrArg Prod.fst hx)]

theorem MapIn.len (h : MapIn w r D) (ty : TypeId) : (Builtin.len_ #[22] ty #[.map r]).run Try.prog w = .ok (.int .i64 (Maps.size D)) w := by
  cases r with
  | none =>
    rw [Maps.len_nil Try.underlying22]
    have : D = .nil := h
    subst this
    rfl
  | some b =>
    obtain ⟨n, h⟩ := h
    exact h.len Try.underlying22 ty

/-- What reads as a key of type string IS that string. -/
theorem keyOf_string_inv9 {key : Value} {kl : Lit} (h : keyOf Try.prog 9 key = some kl) : ∃ s : ByteArray, key = .string s ∧ kl = .string s.data.toList ∧ s.size ≤ maxLen := by
  cases key <;> simp [keyOf, Try.underlying9, mapKey] at h
  rename_i s
  exact ⟨s, rfl, h.2.symm, h.1⟩

end

/-- The range's step over a map[string]bool. -/
theorem wpList_next_sb {H : Type} (w : World) {ops : Array Oper} {rest : List Oper} {o : Oper} {a : Act} {Q : Exit → Act → World → Prop}
    (hg : o.guard = none) (it : Operand) (hop : o.op = Op.next it false)
    (b r n : Nat) (D : DataW H) (left : Lit → Bool) (cnt : Nat) (hit : a.eval it = .pointer (some ⟨r, 0, none⟩)) (h : w.ranges Try.prog 9 (plainElem Try.prog 4) b r n D left cnt)
    (hDone : cnt = 0 → (∀ kl, left kl = false) → wpList Try.prog ops Q rest (a.put o.dst (.tuple #[.bool false])) w)
    (hMore : ∀ (s : ByteArray) (c : Bool) (w' : World) (cnt' : Nat), s.size ≤ maxLen → left (.string s.data.toList) = true → (∀ zd, D.atKey (.string s.data.toList) zd = .lit (.bool c)) → w'.ranges Try.prog 9 (plainElem Try.prog 4) b r n D (fun z => left z && !z.sameKey (.string s.data.toList)) cnt' → cnt' < cnt →
      w.grownBy w' (some r) → w'.heap.size = w.heap.size → (Instr.entry (.pointer (some ⟨r, 0, none⟩))).run Try.prog w' = .ok (.tuple #[.string s, .bool c]) w' → wpList Try.prog ops Q rest (a.put o.dst (.tuple #[.bool true, .string s, .bool c])) w') :
    wpList Try.prog ops Q (o :: rest) a w :=
  wpList_next_ranges w hg it hop 9 law9 (plainElem Try.prog 4) Value.string Value.bool (fun key kl hkey => by obtain ⟨x, rfl, _⟩ := keyOf_string_inv9 hkey; exact ⟨x, rfl⟩) (fun v y hv => by obtain ⟨c, rfl, _⟩ := plainElem_bool_inv Try.underlying4 hv; exact ⟨c, rfl⟩)
    b r n D left cnt hit h hDone (fun x c kl y w' cnt' hkey hlk hv hat hrg hlt hgr hsz hen => by
      obtain ⟨x', ex, rfl, hwx⟩ := keyOf_string_inv9 hkey
      cases ex
      obtain ⟨c', ec, rfl⟩ := plainElem_bool_inv Try.underlying4 hv
      cases ec
      exact hMore x c w' cnt' hwx hlk hat hrg hlt hgr hsz hen)

end Go.Proofs.Qxb6603330a
