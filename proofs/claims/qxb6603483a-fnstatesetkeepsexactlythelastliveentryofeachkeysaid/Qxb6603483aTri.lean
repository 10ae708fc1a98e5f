/-
  Three nodes at once: a parent and two children of it.
-/
import Derived.Test.Qxb6603483aOpen
namespace Go.Proofs.Qxb6603483a
open Go.RowKit
set_option linter.unusedSimpArgs false

structure Tri (w : World) (c p : Nat) (iv cv : Value) (its : List Ent) (cps : List Value) (l : Nat) (liv lcv : Value) (lits : List Ent) (lcps : List Value) (t : Nat) (tiv tcv : Value) (tits : List Ent) (tcps : List Value) : Prop where
  np : NodeAt w p iv cv (ptr c) its cps
  nl : NodeAt w l liv lcv (ptr c) lits lcps
  nt : NodeAt w t tiv tcv (ptr c) tits tcps
  uniq : ∀ k, nodeF p iv cv k + nodeF l liv lcv k + nodeF t tiv tcv k ≤ 1
def triF (p : Nat) (iv cv : Value) (l : Nat) (liv lcv : Value) (t : Nat) (tiv tcv : Value) : Nat → Nat := fun k => nodeF p iv cv k + nodeF l liv lcv k + nodeF t tiv tcv k

variable {w w' : World} {c p : Nat} {iv cv : Value} {its : List Ent} {cps : List Value} {l : Nat} {liv lcv : Value} {lits : List Ent} {lcps : List Value} {t : Nat} {tiv tcv : Value} {tits : List Ent} {tcps : List Value}
variable {iv' cv' : Value} {its' : List Ent} {cps' : List Value}

theorem Tri.lt (X : Tri w c p iv cv its cps l liv lcv lits lcps t tiv tcv tits tcps) {k : Nat} (hk : 1 ≤ triF p iv cv l liv lcv t tiv tcv k) : k < w.heap.size := by
  unfold triF at hk
  by_cases h1 : 1 ≤ nodeF p iv cv k
  · exact X.np.lt h1
  by_cases h2 : 1 ≤ nodeF l liv lcv k
  · exact X.nl.lt h2
  exact X.nt.lt (by omega)
theorem Tri.stp (X : Tri w c p iv cv its cps l liv lcv lits lcps t tiv tcv tits tcps) : Stp (triF p iv cv l liv lcv t tiv tcv) w w (triF p iv cv l liv lcv t tiv tcv) := Stp.refl X.uniq (fun _ hk => X.lt hk)
theorem Tri.grew (X : Tri w c p iv cv its cps l liv lcv lits lcps t tiv tcv tits tcps) (hc : Chg0 w w') : Tri w' c p iv cv its cps l liv lcv lits lcps t tiv tcv tits tcps :=
  ⟨hc.node X.np (fun _ _ => rfl), hc.node X.nl (fun _ _ => rfl), hc.node X.nt (fun _ _ => rfl), X.uniq⟩
theorem Tri.zero (X : Tri w c p iv cv its cps l liv lcv lits lcps t tiv tcv tits tcps) {k : Nat} (hk : w.heap.size ≤ k) : triF p iv cv l liv lcv t tiv tcv k = 0 := by
  have : ¬ 1 ≤ triF p iv cv l liv lcv t tiv tcv k := fun h => by have := X.lt h; omega
  omega

theorem Tri.onP (X : Tri w c p iv cv its cps l liv lcv lits lcps t tiv tcv tits tcps) (hN : NodeAt w' p iv' cv' (ptr c) its' cps') (hS : Stp (nodeF p iv cv) w w' (nodeF p iv' cv')) :
    Tri w' c p iv' cv' its' cps' l liv lcv lits lcps t tiv tcv tits tcps ∧ Stp (triF p iv cv l liv lcv t tiv tcv) w w' (triF p iv' cv' l liv lcv t tiv tcv) := by
  have hu := X.uniq
  have hT := (hS.frame (fun k => nodeF l liv lcv k + nodeF t tiv tcv k) (fun k => by have := hu k; omega) (fun k hk => X.lt (by unfold triF; omega))).congr (A' := triF p iv cv l liv lcv t tiv tcv) (B' := triF p iv' cv' l liv lcv t tiv tcv) (fun k => by unfold triF; omega) (fun k => by unfold triF; omega)
  exact ⟨⟨hN, X.nl.keep hS.chg (fun k => by have := hu k; omega), X.nt.keep hS.chg (fun k => by have := hu k; omega), hT.uniq⟩, hT⟩
theorem Tri.onL (X : Tri w c p iv cv its cps l liv lcv lits lcps t tiv tcv tits tcps) (hN : NodeAt w' l iv' cv' (ptr c) its' cps') (hS : Stp (nodeF l liv lcv) w w' (nodeF l iv' cv')) :
    Tri w' c p iv cv its cps l iv' cv' its' cps' t tiv tcv tits tcps ∧ Stp (triF p iv cv l liv lcv t tiv tcv) w w' (triF p iv cv l iv' cv' t tiv tcv) := by
  have hu := X.uniq
  have hT := (hS.frame (fun k => nodeF p iv cv k + nodeF t tiv tcv k) (fun k => by have := hu k; omega) (fun k hk => X.lt (by unfold triF; omega))).congr (A' := triF p iv cv l liv lcv t tiv tcv) (B' := triF p iv cv l iv' cv' t tiv tcv) (fun k => by unfold triF; omega) (fun k => by unfold triF; omega)
  exact ⟨⟨X.np.keep hS.chg (fun k => by have := hu k; omega), hN, X.nt.keep hS.chg (fun k => by have := hu k; omega), hT.uniq⟩, hT⟩
theorem Tri.onT (X : Tri w c p iv cv its cps l liv lcv lits lcps t tiv tcv tits tcps) (hN : NodeAt w' t iv' cv' (ptr c) its' cps') (hS : Stp (nodeF t tiv tcv) w w' (nodeF t iv' cv')) :
    Tri w' c p iv cv its cps l liv lcv lits lcps t iv' cv' its' cps' ∧ Stp (triF p iv cv l liv lcv t tiv tcv) w w' (triF p iv cv l liv lcv t iv' cv') := by
  have hu := X.uniq
  have hT := (hS.frame (fun k => nodeF p iv cv k + nodeF l liv lcv k) (fun k => by have := hu k; omega) (fun k hk => X.lt (by unfold triF; omega))).congr (A' := triF p iv cv l liv lcv t tiv tcv) (B' := triF p iv cv l liv lcv t iv' cv') (fun k => by unfold triF; omega) (fun k => by unfold triF; omega)
  exact ⟨⟨X.np.keep hS.chg (fun k => by have := hu k; omega), X.nl.keep hS.chg (fun k => by have := hu k; omega), hN, hT.uniq⟩, hT⟩

end Go.Proofs.Qxb6603483a
