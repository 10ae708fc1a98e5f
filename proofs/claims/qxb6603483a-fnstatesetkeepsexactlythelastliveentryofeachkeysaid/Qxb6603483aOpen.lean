/-
  A tree laid open, leaf or not: its node, its items, its subtrees.
-/
import Derived.Test.Qxb6603483aMid
namespace Go.Proofs.Qxb6603483a
open Go.RowKit
set_option linter.unusedSimpArgs false

/-- The subtrees under a node of height h: none under a leaf. -/
def KidsOK (w : World) (c : Nat) : Nat → List Sub → Nat → Prop
  | 0, subs, _ => subs = []
  | h + 1, subs, n => subs.length = n + 1 ∧ ∀ t ∈ subs, IsT w c h t ∧ 31 ≤ t.n ∧ t.n ≤ 63

/-- The node p of height h with its items and subtrees. -/
structure Opn (w : World) (c h p : Nat) (iv cv : Value) (its : List Ent) (subs : List Sub) : Prop where
  node : NodeAt w p iv cv (ptr c) its (kids subs)
  kid : KidsOK w c h subs its.length
  uniq : ∀ k, nodeF p iv cv k + sumF subs k ≤ 1
def opnF (p : Nat) (iv cv : Value) (subs : List Sub) : Nat → Nat := fun k => nodeF p iv cv k + sumF subs k

theorem weave_nil : ∀ its : List Ent, weave its [] = its
  | [] => rfl
  | e :: es => by rw [weave, weave_nil es]

theorem IsT.open {w : World} {c h : Nat} {s : Sub} (H : IsT w c h s) : ∃ iv cv its subs, Opn w c h s.p iv cv its subs ∧ s.n = its.length ∧ s.xs = weave its subs ∧ ∀ k, s.F k = opnF s.p iv cv subs k := by
  cases h with
  | zero =>
    obtain ⟨iv, cv, hN, h1, hF⟩ := H
    exact ⟨iv, cv, s.xs, [], ⟨hN, rfl, fun k => by rw [sumF_nil]; exact hN.fit k⟩, h1, (weave_nil _).symm, fun k => by unfold opnF; rw [sumF_nil, hF]; rfl⟩
  | succ h =>
    obtain ⟨iv, cv, its, subs, hN, h1, h2, h3, h4, hF, hu⟩ := H
    exact ⟨iv, cv, its, subs, ⟨hN, ⟨h2, h3⟩, fun k => by rw [← hF]; exact hu k⟩, h1, h4, hF⟩
theorem Opn.shut {w : World} {c h p : Nat} {iv cv : Value} {its : List Ent} {subs : List Sub} (O : Opn w c h p iv cv its subs) : IsT w c h ⟨p, its.length, weave its subs, opnF p iv cv subs⟩ := by
  cases h with
  | zero =>
    obtain ⟨hN, hk, hu⟩ := O
    have hk : subs = [] := hk
    subst hk
    refine ⟨iv, cv, ?_, ?_, fun k => ?_⟩
    · show NodeAt w p iv cv (ptr c) (weave its []) []
      rw [weave_nil]; exact hN
    · show its.length = (weave its []).length
      rw [weave_nil]
    · show opnF p iv cv [] k = _
      unfold opnF; rw [sumF_nil]; rfl
  | succ h =>
    obtain ⟨hN, ⟨h2, h3⟩, hu⟩ := O
    exact ⟨iv, cv, its, subs, hN, rfl, h2, h3, rfl, fun _ => rfl, hu⟩

theorem KidsOK.keep {w w' : World} {c h n : Nat} {subs : List Sub} {A : Nat → Nat} (H : KidsOK w c h subs n) (hc : Chg A w w') (hd : ∀ k, sumF subs k + A k ≤ 1) : KidsOK w' c h subs n := by
  cases h with
  | zero => exact H
  | succ h => exact ⟨H.1, kids_keep H.2 hc hd⟩
theorem KidsOK.lt {w : World} {c h n : Nat} {subs : List Sub} (H : KidsOK w c h subs n) {k : Nat} (hk : 1 ≤ sumF subs k) : k < w.heap.size := by
  cases h with
  | zero =>
    have H : subs = [] := H
    rw [H, sumF_nil] at hk
    omega
  | succ h => exact kids_lt H.2 hk
theorem Opn.lt {w : World} {c h p : Nat} {iv cv : Value} {its : List Ent} {subs : List Sub} (O : Opn w c h p iv cv its subs) {k : Nat} (hk : 1 ≤ opnF p iv cv subs k) : k < w.heap.size := by
  unfold opnF at hk
  by_cases h1 : 1 ≤ nodeF p iv cv k
  · exact O.node.lt h1
  · exact O.kid.lt (by omega)
theorem Opn.keep {w w' : World} {c h p : Nat} {iv cv : Value} {its : List Ent} {subs : List Sub} {A : Nat → Nat} (O : Opn w c h p iv cv its subs) (hc : Chg A w w') (hd : ∀ k, opnF p iv cv subs k + A k ≤ 1) : Opn w' c h p iv cv its subs :=
  ⟨O.node.keep hc (fun k => by have := hd k; unfold opnF at this; omega), O.kid.keep hc (fun k => by have := hd k; unfold opnF at this; omega), O.uniq⟩

/-- The last item taken, the last subtree with it. -/
theorem weave_last {h : Nat} {w : World} {c : Nat} {its : List Ent} {x : Ent} {subs : List Sub} (H : KidsOK w c h subs (its ++ [x]).length) : ∃ ss ls, subs = ss ++ ls ∧ KidsOK w c h ss its.length ∧ (h = 0 → ls = []) ∧ (0 < h → ∃ t, ls = [t]) ∧ weave (its ++ [x]) subs = weave its ss ++ x :: weave [] ls := by
  cases h with
  | zero =>
    have H : subs = [] := H
    subst H
    exact ⟨[], [], rfl, rfl, fun _ => rfl, fun h => by omega, by rw [weave_nil, weave_nil]; rfl⟩
  | succ h =>
    obtain ⟨h1, h2⟩ := H
    rcases List.eq_nil_or_concat subs with rfl | ⟨ss, t, rfl⟩
    · simp at h1
    · rw [List.concat_eq_append] at *
      have hl : ss.length = its.length + 1 := by simp at h1; omega
      refine ⟨ss, [t], rfl, ⟨hl, fun u hu => h2 u (by simp [hu])⟩, fun h => by omega, fun _ => ⟨t, rfl⟩, ?_⟩
      rw [weave_split its ss x [] [t] hl]
/-- The first item taken, the first subtree with it. -/
theorem weave_first {h : Nat} {w : World} {c : Nat} {its : List Ent} {x : Ent} {subs : List Sub} (H : KidsOK w c h subs (x :: its).length) : ∃ ls ss, subs = ls ++ ss ∧ KidsOK w c h ss its.length ∧ (h = 0 → ls = []) ∧ (0 < h → ∃ t, ls = [t]) ∧ weave (x :: its) subs = weave [] ls ++ x :: weave its ss := by
  cases h with
  | zero =>
    have H : subs = [] := H
    subst H
    exact ⟨[], [], rfl, rfl, fun _ => rfl, fun h => by omega, by simp [weave_nil]⟩
  | succ h =>
    obtain ⟨h1, h2⟩ := H
    cases subs with
    | nil => simp at h1
    | cons t ss =>
      refine ⟨[t], ss, rfl, ⟨by simp at h1; omega, fun u hu => h2 u (by simp [hu])⟩, fun h => by omega, fun _ => ⟨t, rfl⟩, ?_⟩
      simp [weave]

end Go.Proofs.Qxb6603483a
