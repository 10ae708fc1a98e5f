/-
  The tree in memory: its nodes, what it holds in order, its blocks.
-/
import Derived.Test.Qxb6603483aPool
import Derived.Test.Qxb6603483aFind
namespace Go.Proofs.Qxb6603483a
open Go.RowKit
set_option linter.unusedSimpArgs false

/-- A subtree as its parent sees it: its node, how many items that has, all it holds in order, its blocks. -/
structure Sub where
  p : Nat
  n : Nat
  xs : List Ent
  F : Nat → Nat

def sumF (ss : List Sub) : Nat → Nat := fun k => (ss.map (fun s => s.F k)).sum
def kids (ss : List Sub) : List Value := ss.map (fun s => ptr s.p)

theorem sumF_nil (k : Nat) : sumF [] k = 0 := rfl
theorem sumF_cons (s : Sub) (ss : List Sub) (k : Nat) : sumF (s :: ss) k = s.F k + sumF ss k := by simp [sumF]
theorem sumF_append (a b : List Sub) (k : Nat) : sumF (a ++ b) k = sumF a k + sumF b k := by simp [sumF]
theorem sumF_mem {ss : List Sub} {s : Sub} (h : s ∈ ss) (k : Nat) : s.F k ≤ sumF ss k := by
  obtain ⟨a, b, rfl⟩ := List.append_of_mem h
  rw [sumF_append, sumF_cons]; omega
theorem sumF_pos {ss : List Sub} {k : Nat} (h : 1 ≤ sumF ss k) : ∃ s ∈ ss, 1 ≤ s.F k := by
  induction ss with
  | nil => cases h
  | cons x t ih =>
    rw [sumF_cons] at h
    by_cases h1 : 1 ≤ x.F k
    · exact ⟨x, List.mem_cons_self, h1⟩
    · obtain ⟨s, hs, hk⟩ := ih (by omega)
      exact ⟨s, List.mem_cons_of_mem _ hs, hk⟩
theorem kids_append (a b : List Sub) : kids (a ++ b) = kids a ++ kids b := by simp [kids]
theorem kids_cons (s : Sub) (b : List Sub) : kids (s :: b) = ptr s.p :: kids b := rfl
theorem kids_length (a : List Sub) : (kids a).length = a.length := by simp [kids]
theorem kids_one (a : List Sub) : ∀ v ∈ kids a, v.oneCell' = true := fun v hv => by obtain ⟨p, _, rfl⟩ := List.mem_map.1 hv; rfl
theorem kids_at (S : List Sub) (t : Sub) (T : List Sub) : (kids (S ++ t :: T))[S.length]? = some (ptr t.p) := by
  rw [kids_append, kids_cons, List.getElem?_append_right (by rw [kids_length]; exact Nat.le_refl _), kids_length]
  simp

/-- The contents of subtrees with the items between. -/
def weave : List Ent → List Sub → List Ent
  | [], ss => ss.flatMap (fun s => s.xs)
  | e :: es, [] => e :: weave es []
  | e :: es, s :: ss => s.xs ++ e :: weave es ss
/-- What comes behind a subtree. -/
def wtail : List Ent → List Sub → List Ent
  | [], ss => ss.flatMap (fun s => s.xs)
  | e :: es, ss => e :: weave es ss

theorem weave_cons (B : List Ent) (t : Sub) (T : List Sub) : weave B (t :: T) = t.xs ++ wtail B T := by
  cases B <;> simp [weave, wtail]
theorem weave_append : ∀ (A : List Ent) (S : List Sub) (B : List Ent) (T : List Sub), S.length = A.length → weave (A ++ B) (S ++ T) = weave A S ++ weave B T
  | [], [], B, T, _ => by simp [weave]
  | a :: A, s :: S, B, T, h => by
    show weave (a :: (A ++ B)) (s :: (S ++ T)) = _
    rw [weave, weave, weave_append A S B T (by simpa using h)]
    simp
theorem weave_at (A : List Ent) (S : List Sub) (B : List Ent) (t : Sub) (T : List Sub) (h : S.length = A.length) : weave (A ++ B) (S ++ t :: T) = weave A S ++ (t.xs ++ wtail B T) := by
  rw [weave_append A S B _ h, weave_cons]

theorem sub_weave : ∀ (A : List Ent) (S : List Sub), A.Sublist (weave A S)
  | [], S => List.nil_sublist _
  | a :: A, [] => List.Sublist.cons_cons a (sub_weave A [])
  | a :: A, s :: S => by
    rw [weave]
    exact (List.Sublist.cons_cons a (sub_weave A S)).trans (List.sublist_append_right _ _)
theorem kid_weave (A : List Ent) (S : List Sub) (B : List Ent) (t : Sub) (T : List Sub) (h : S.length = A.length) : t.xs.Sublist (weave (A ++ B) (S ++ t :: T)) := by
  rw [weave_at A S B t T h]
  exact (List.sublist_append_left _ _).trans (List.sublist_append_right _ _)

/-- The tree of height h under the node s.p. -/
def IsT (w : World) (c : Nat) : Nat → Sub → Prop
  | 0, s => ∃ iv cv, NodeAt w s.p iv cv (ptr c) s.xs [] ∧ s.n = s.xs.length ∧ (∀ k, s.F k = nodeF s.p iv cv k)
  | h + 1, s => ∃ iv cv its subs, NodeAt w s.p iv cv (ptr c) its (kids subs) ∧ s.n = its.length ∧ subs.length = its.length + 1 ∧ (∀ t ∈ subs, IsT w c h t ∧ 31 ≤ t.n ∧ t.n ≤ 63) ∧
      s.xs = weave its subs ∧ (∀ k, s.F k = nodeF s.p iv cv k + sumF subs k) ∧ (∀ k, s.F k ≤ 1)

theorem IsT.uniq {w : World} {c h : Nat} {s : Sub} (H : IsT w c h s) (k : Nat) : s.F k ≤ 1 := by
  cases h with
  | zero => obtain ⟨iv, cv, hN, _, hF⟩ := H; rw [hF]; exact hN.fit k
  | succ h => obtain ⟨_, _, _, _, _, _, _, _, _, _, hu⟩ := H; exact hu k
theorem IsT.lt {w : World} {c : Nat} : ∀ {h : Nat} {s : Sub}, IsT w c h s → ∀ {k}, 1 ≤ s.F k → k < w.heap.size
  | 0, s, H, k, hk => by obtain ⟨iv, cv, hN, _, hF⟩ := H; rw [hF] at hk; exact hN.lt hk
  | h + 1, s, H, k, hk => by
    obtain ⟨iv, cv, its, subs, hN, _, _, hs, _, hF, _⟩ := H
    rw [hF] at hk
    by_cases h1 : 1 ≤ nodeF s.p iv cv k
    · exact hN.lt h1
    · obtain ⟨t, ht, h2⟩ := sumF_pos (ss := subs) (k := k) (by omega)
      exact IsT.lt (hs t ht).1 h2
theorem IsT.same {w w' : World} {c : Nat} : ∀ {h : Nat} {s : Sub}, IsT w c h s → (∀ k, 1 ≤ s.F k → w'.heap[k]? = w.heap[k]?) → IsT w' c h s
  | 0, s, H, hs => by
    obtain ⟨iv, cv, hN, h1, hF⟩ := H
    exact ⟨iv, cv, hN.same (fun k hk => hs k (by rw [hF]; exact hk)), h1, hF⟩
  | h + 1, s, H, hs => by
    obtain ⟨iv, cv, its, subs, hN, h1, h2, h3, h4, hF, h5⟩ := H
    exact ⟨iv, cv, its, subs, hN.same (fun k hk => hs k (by rw [hF]; omega)), h1, h2, fun t ht => ⟨IsT.same (h3 t ht).1 (fun k hk => hs k (by have := sumF_mem ht k; rw [hF]; omega)), (h3 t ht).2⟩, h4, hF, h5⟩

/-- What lies beside a step stays. -/
theorem IsT.keep {w w' : World} {c h : Nat} {s : Sub} {A : Nat → Nat} (H : IsT w c h s) (hc : Chg A w w') (hd : ∀ k, s.F k + A k ≤ 1) : IsT w' c h s :=
  H.same (fun k hk => hc.same k (H.lt hk) (by have := hd k; omega))
theorem NodeAt.keep {w w' : World} {p : Nat} {iv cv cp : Value} {its : List Ent} {cps : List Value} {A : Nat → Nat} (H : NodeAt w p iv cv cp its cps) (hc : Chg A w w') (hd : ∀ k, nodeF p iv cv k + A k ≤ 1) : NodeAt w' p iv cv cp its cps :=
  H.same (fun k hk => hc.same k (H.lt hk) (by have := hd k; omega))
theorem Pool.keep {w w' : World} {c : Nat} {G A : Nat → Nat} (H : Pool w c G) (hc : Chg A w w') (hd : ∀ k, G k + A k ≤ 1) : Pool w' c G :=
  H.same (fun k hk => hc.same k (H.lt hk) (by have := hd k; omega))

/-- The node of a tree, whatever its height: its items' count and context. -/
theorem IsT.node {w : World} {c h : Nat} {s : Sub} (H : IsT w c h s) : ∃ iv cv its cps, NodeAt w s.p iv cv (ptr c) its cps ∧ s.n = its.length ∧ (cps = [] ↔ h = 0) ∧ (∀ v ∈ cps, v.oneCell' = true) ∧ 1 ≤ s.F s.p := by
  cases h with
  | zero => obtain ⟨iv, cv, hN, h1, hF⟩ := H; exact ⟨iv, cv, s.xs, [], hN, h1, by simp, fun v hv => (by cases hv), by rw [hF]; unfold nodeF; rw [one_self]; omega⟩
  | succ h =>
    obtain ⟨iv, cv, its, subs, hN, h1, h2, _, _, hF, _⟩ := H
    refine ⟨iv, cv, its, kids subs, hN, h1, ?_, kids_one _, by rw [hF]; unfold nodeF; rw [one_self]; omega⟩
    constructor
    · intro e; have := kids_length subs; rw [e] at this; simp at this; omega
    · intro e; cases e

/-! ### what is held: a key set, a key taken away -/
def ins (e : Ent) (xs : List Ent) : List Ent := xs.filter (fun x => klt x.key e.key) ++ e :: xs.filter (fun x => klt e.key x.key)
def del (k : ByteArray) (xs : List Ent) : List Ent := xs.filter (fun x => klt x.key k || klt k x.key)

theorem filter_all {α : Type} {p : α → Bool} {l : List α} (h : ∀ a ∈ l, p a = true) : l.filter p = l := List.filter_eq_self.2 h
theorem filter_none {α : Type} {p : α → Bool} {l : List α} (h : ∀ a ∈ l, p a = false) : l.filter p = [] := List.filter_eq_nil_iff.2 (fun a ha => by rw [h a ha]; simp)

theorem ins_mid (e : Ent) (L M R : List Ent) (hL : ∀ a ∈ L, klt a.key e.key = true) (hR : ∀ a ∈ R, klt e.key a.key = true) : ins e (L ++ (M ++ R)) = L ++ (ins e M ++ R) := by
  unfold ins
  simp only [List.filter_append]
  rw [filter_all (l := L) hL, filter_none (l := L) (fun a ha => klt_asymm (hL a ha)), filter_all (l := R) hR, filter_none (l := R) (fun a ha => klt_asymm (hR a ha))]
  simp
theorem ins_nil (e : Ent) : ins e [] = [e] := rfl
theorem ins_at (e : Ent) (L R : List Ent) (hL : ∀ a ∈ L, klt a.key e.key = true) (hR : ∀ a ∈ R, klt e.key a.key = true) : ins e (L ++ R) = L ++ e :: R := by
  have := ins_mid e L [] R hL hR
  simpa [ins_nil] using this
theorem ins_over (e x : Ent) (hx : x.key = e.key) (L R : List Ent) (hL : ∀ a ∈ L, klt a.key e.key = true) (hR : ∀ a ∈ R, klt e.key a.key = true) : ins e (L ++ x :: R) = L ++ e :: R := by
  have := ins_mid e L [x] R hL hR
  have e1 : ins e [x] = [e] := by unfold ins; simp [hx, klt_irrefl]
  rw [e1] at this
  simpa using this
theorem del_mid (k : ByteArray) (L M R : List Ent) (hL : ∀ a ∈ L, klt a.key k = true) (hR : ∀ a ∈ R, klt k a.key = true) : del k (L ++ (M ++ R)) = L ++ (del k M ++ R) := by
  unfold del
  simp only [List.filter_append]
  rw [filter_all (l := L) (fun a ha => by rw [hL a ha]; rfl), filter_all (l := R) (fun a ha => by rw [hR a ha]; simp)]
theorem del_out (k : ByteArray) (L R : List Ent) (hL : ∀ a ∈ L, klt a.key k = true) (hR : ∀ a ∈ R, klt k a.key = true) : del k (L ++ R) = L ++ R := by
  have := del_mid k L [] R hL hR
  simpa [del] using this
theorem del_over (k : ByteArray) (x : Ent) (hx : x.key = k) (L R : List Ent) (hL : ∀ a ∈ L, klt a.key k = true) (hR : ∀ a ∈ R, klt k a.key = true) : del k (L ++ x :: R) = L ++ R := by
  have := del_mid k L [x] R hL hR
  have e1 : del k [x] = [] := by unfold del; simp [hx, klt_irrefl]
  rw [e1] at this
  simpa using this

theorem Asc.ins {e : Ent} {xs : List Ent} (h : Asc xs) : Asc (ins e xs) := by
  unfold Qxb6603483a.ins Asc
  rw [List.pairwise_append]
  refine ⟨h.filter _, ?_, ?_⟩
  · rw [List.pairwise_cons]
    exact ⟨fun a ha => (List.mem_filter.1 ha).2, h.filter _⟩
  · intro a ha b hb
    have h1 := (List.mem_filter.1 ha).2
    rcases List.mem_cons.1 hb with rfl | hb
    · exact h1
    · exact klt_trans h1 (List.mem_filter.1 hb).2
theorem Asc.del {k : ByteArray} {xs : List Ent} (h : Asc xs) : Asc (del k xs) := h.filter _
theorem Asc.sub {xs ys : List Ent} (h : Asc xs) (hs : ys.Sublist xs) : Asc ys := List.Pairwise.sublist hs h

/-- Where all of A come ahead of a key and none of B: what is woven with A comes ahead of it. -/
theorem weave_lt {k : ByteArray} : ∀ (A : List Ent) (S : List Sub), S.length = A.length → Asc (weave A S) → (∀ a ∈ A, klt a.key k = true) → ∀ x ∈ weave A S, klt x.key k = true
  | [], [], _, _, _ => fun x hx => (by simp [weave] at hx)
  | a :: A, s :: S, h, hs, hA => fun x hx => by
    rw [weave] at hx hs
    have h2 := List.pairwise_append.1 hs
    rcases List.mem_append.1 hx with hx | hx
    · exact klt_trans (h2.2.2 x hx a List.mem_cons_self) (hA a List.mem_cons_self)
    · rcases List.mem_cons.1 hx with rfl | hx
      · exact hA _ List.mem_cons_self
      · exact weave_lt A S (by simpa using h) (List.pairwise_cons.1 h2.2.1).2 (fun a ha => hA a (List.mem_cons_of_mem _ ha)) x hx

/-- What comes behind an item comes behind whatever that is behind. -/
theorem tail_gt {k : ByteArray} {b : Ent} {R : List Ent} (hs : Asc (b :: R)) (hb : klt k b.key = true ∨ b.key = k) : ∀ x ∈ R, klt k x.key = true := fun x hx => by
  have h1 := (List.pairwise_cons.1 hs).1 x hx
  rcases hb with hb | hb
  · exact klt_trans hb h1
  · rw [← hb]; exact h1

/-- A place among ascending items: all of A below, none of B. -/
def Pos (k : ByteArray) (A B : List Ent) : Prop := (∀ a ∈ A, klt a.key k = true) ∧ (∀ b ∈ B, klt b.key k = false)

theorem Pos.unique {k : ByteArray} : ∀ {A A' B B' : List Ent}, A ++ B = A' ++ B' → Pos k A B → Pos k A' B' → A = A' ∧ B = B'
  | [], [], B, B', h, _, _ => ⟨rfl, h⟩
  | [], a :: A', B, B', h, h1, h2 => by
    have := h1.2 a (by rw [List.nil_append] at h; rw [h]; simp)
    rw [h2.1 a List.mem_cons_self] at this
    cases this
  | a :: A, [], B, B', h, h1, h2 => by
    have := h2.2 a (by rw [List.nil_append] at h; rw [← h]; simp)
    rw [h1.1 a List.mem_cons_self] at this
    cases this
  | a :: A, a' :: A', B, B', h, h1, h2 => by
    injection h with e1 e2
    obtain ⟨e3, e4⟩ := Pos.unique e2 ⟨fun x hx => h1.1 x (List.mem_cons_of_mem _ hx), h1.2⟩ ⟨fun x hx => h2.1 x (List.mem_cons_of_mem _ hx), h2.2⟩
    exact ⟨by rw [e1, e3], e4⟩

end Go.Proofs.Qxb6603483a
