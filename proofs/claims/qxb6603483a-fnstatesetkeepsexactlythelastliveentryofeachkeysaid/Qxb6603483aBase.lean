/-
  Footprints, entries, nodes: the words in which the tree's memory is told.
-/
import Derived.Test.Qxb6603483aRows
import Derived.WalkKit
import Derived.WalkSpells
import Derived.WalkLawsBesides
import Derived.Deep.AppendLies
import Derived.Laws.CopyRow
import Derived.Laws.CopyOwn
namespace Go.Proofs.Qxb6603483a
open Go.RowKit

theorem hide {p : Prop} (h : p) : Hid p := h
theorem unhide {p : Prop} (h : Hid p) : p := h

/-! ### footprints: which blocks, each counted -/
/-- The one block p. -/
def one (p : Nat) : Nat → Nat := fun k => if k = p then 1 else 0
/-- The block of a slice's row, if it has one. -/
def ob (v : Value) : Nat → Nat := fun k => if v.ownBlock = some k then 1 else 0

theorem one_self (p : Nat) : one p p = 1 := by simp [one]
theorem one_other {p k : Nat} (h : k ≠ p) : one p k = 0 := by simp [one, h]
theorem one_pos {p k : Nat} (h : 1 ≤ one p k) : k = p := by
  unfold one at h; split at h
  · assumption
  · omega
theorem one_le (p k : Nat) : one p k ≤ 1 := by unfold one; split <;> omega
theorem ob_le (v : Value) (k : Nat) : ob v k ≤ 1 := by unfold ob; split <;> omega
theorem ob_pos {v : Value} {k : Nat} (h : 1 ≤ ob v k) : v.ownBlock = some k := by
  unfold ob at h; split at h
  · assumption
  · omega
theorem ob_of {v : Value} {k : Nat} (h : v.ownBlock = some k) : ob v k = 1 := by simp [ob, h]
theorem ob_nil (k : Nat) : ob (.slice none 0 0) k = 0 := by simp [ob, Value.ownBlock]
theorem ob_slice (g n c k : Nat) : ob (.slice (some ⟨g, 0, none⟩) n c) k = one g k := by
  simp only [ob, one, Value.ownBlock, Option.some.injEq]
  by_cases h : k = g
  · simp [h]
  · have : ¬ g = k := fun e => h e.symm
    simp [h, this]

/-- From w to w' only blocks that A counts have turned; new ones have come. -/
structure Chg (A : Nat → Nat) (w w' : World) : Prop where
  os : w'.os = w.os
  tape : w'.tape = w.tape
  output : w'.output = w.output
  size : w.heap.size ≤ w'.heap.size
  same : ∀ k, k < w.heap.size → A k = 0 → w'.heap[k]? = w.heap[k]?

theorem Chg.refl (A : Nat → Nat) (w : World) : Chg A w w := ⟨rfl, rfl, rfl, Nat.le_refl _, fun _ _ _ => rfl⟩
theorem Chg.trans {A : Nat → Nat} {a b c : World} (h : Chg A a b) (k : Chg A b c) : Chg A a c :=
  ⟨k.os.trans h.os, k.tape.trans h.tape, k.output.trans h.output, Nat.le_trans h.size k.size, fun i hi h0 => (k.same i (Nat.lt_of_lt_of_le hi h.size) h0).trans (h.same i hi h0)⟩
theorem Chg.mono {A B : Nat → Nat} {a b : World} (h : Chg A a b) (hAB : ∀ k, k < a.heap.size → B k = 0 → A k = 0) : Chg B a b :=
  ⟨h.os, h.tape, h.output, h.size, fun i hi h0 => h.same i hi (hAB i hi h0)⟩
theorem Chg.alloc {A : Nat → Nat} {a b : World} (h : Chg A a b) (o : Obj) : Chg A a (b.alloc o) :=
  h.trans ⟨rfl, rfl, rfl, by simp, fun k hk _ => Below.heap_alloc _ _ _ hk⟩
theorem Chg.drew {A : Nat → Nat} {a b : World} (h : Chg A a b) : Chg A a b.drew := ⟨h.os, h.tape, h.output, h.size, h.same⟩
theorem Chg.setCell {A : Nat → Nat} {a b : World} (h : Chg A a b) {p : Addr} (hp : p.block < a.heap.size → 1 ≤ A p.block) (u : Value) : Chg A a (b.setCell p u) :=
  ⟨h.os, h.tape, h.output, by simpa [World.setCell] using h.size, fun k hk h0 => by
    rw [Below.heap_setCell _ _ _ _ (fun e => by subst e; have := hp hk; omega)]; exact h.same k hk h0⟩
theorem Chg.grown {A : Nat → Nat} {a b c : World} {row : Option Nat} (h : Chg A a b) (hg : b.grownBy c row) (hr : ∀ k, row = some k → k < a.heap.size → 1 ≤ A k) : Chg A a c :=
  ⟨hg.os.trans h.os, hg.tape.trans h.tape, hg.output.trans h.output, Nat.le_trans h.size hg.size, fun k hk h0 =>
    (hg.block k (Nat.lt_of_lt_of_le hk h.size) (fun e => by have := hr k e.symm hk; omega)).trans (h.same k hk h0)⟩
theorem Chg.setRow {A : Nat → Nat} {a b : World} (h : Chg A a b) {g : Nat} (hg : g < a.heap.size → 1 ≤ A g) (cs : Array Value) : Chg A a (b.setRow g cs) :=
  ⟨h.os, h.tape, h.output, by simpa [World.setRow] using h.size, fun k hk h0 => by
    rw [setRow_other b g k cs (fun e => by subst e; have := hg hk; omega)]; exact h.same k hk h0⟩
theorem Chg.below {A : Nat → Nat} {w w' : World} (h : Chg A w w') {B : Nat} (hB : B ≤ w.heap.size) (h0 : ∀ k, k < B → A k = 0) : Below B w w' :=
  ⟨h.os, h.tape, h.output, h.size, fun k hk => h.same k (Nat.lt_of_lt_of_le hk hB) (h0 k hk)⟩

/-- .. and what A was is now A': no block of old that A did not count, none twice, all there. -/
structure Stp (A : Nat → Nat) (w w' : World) (A' : Nat → Nat) : Prop where
  chg : Chg A w w'
  le : ∀ k, k < w.heap.size → A' k ≤ A k
  uniq : ∀ k, A' k ≤ 1
  lt : ∀ k, 1 ≤ A' k → k < w'.heap.size

theorem Stp.refl {A : Nat → Nat} {w : World} (h1 : ∀ k, A k ≤ 1) (h2 : ∀ k, 1 ≤ A k → k < w.heap.size) : Stp A w w A := ⟨Chg.refl _ _, fun _ _ => Nat.le_refl _, h1, h2⟩
theorem Stp.trans {A B C : Nat → Nat} {a b c : World} (h : Stp A a b B) (k : Stp B b c C) : Stp A a c C :=
  ⟨⟨k.chg.os.trans h.chg.os, k.chg.tape.trans h.chg.tape, k.chg.output.trans h.chg.output, Nat.le_trans h.chg.size k.chg.size, fun i hi h0 =>
      (k.chg.same i (Nat.lt_of_lt_of_le hi h.chg.size) (by have := h.le i hi; omega)).trans (h.chg.same i hi h0)⟩,
    fun i hi => Nat.le_trans (k.le i (Nat.lt_of_lt_of_le hi h.chg.size)) (h.le i hi), k.uniq, k.lt⟩

/-- What lies beside is untouched. -/
theorem Stp.frame {A B : Nat → Nat} {w w' : World} (h : Stp A w w' B) (R : Nat → Nat) (h1 : ∀ k, A k + R k ≤ 1) (hR : ∀ k, 1 ≤ R k → k < w.heap.size) :
    Stp (fun k => A k + R k) w w' (fun k => B k + R k) :=
  ⟨h.chg.mono (fun k _ h0 => by have : A k + R k = 0 := h0; omega), fun k hk => by have := h.le k hk; show B k + R k ≤ A k + R k; omega, fun k => by
      show B k + R k ≤ 1
      by_cases hk : k < w.heap.size
      · have := h.le k hk; have := h1 k; omega
      · have hr : R k = 0 := by
          have := hR k
          have := h1 k
          omega
        have := h.uniq k
        omega, fun k hk => by
      have hk : 1 ≤ B k + R k := hk
      by_cases hb : 1 ≤ B k
      · exact h.lt k hb
      · exact Nat.lt_of_lt_of_le (hR k (by omega)) h.chg.size⟩

/-- The same steps under other footprints that are equal block by block. -/
theorem Stp.congr {A B A' B' : Nat → Nat} {w w' : World} (h : Stp A w w' B) (hA : ∀ k, A k = A' k) (hB : ∀ k, B k = B' k) : Stp A' w w' B' := by
  have e1 : A = A' := funext hA
  have e2 : B = B' := funext hB
  rw [← e1, ← e2]
  exact h

/-! ### entries -/
/-- An entry as the tree holds it: key, version, the value's slice. -/
structure Ent where
  key : ByteArray
  ver : Int
  va : Option Addr
  vn : Nat
  vc : Nat

def Ent.cells (e : Ent) : List Value := [.string e.key, .int .u64 e.ver, .slice e.va e.vn e.vc]
def Ent.v (e : Ent) : Value := .agg #[.string e.key, .int .u64 e.ver, .slice e.va e.vn e.vc]
def ent0 : Ent := ⟨⟨#[]⟩, 0, none, 0, 0⟩
def cellsOf (es : List Ent) : List Value := es.flatMap Ent.cells
def ptr (p : Nat) : Value := .pointer (some ⟨p, 0, none⟩)

theorem cellsOf_length (es : List Ent) : (cellsOf es).length = es.length * 3 := by
  induction es with
  | nil => rfl
  | cons x t ih => simp only [cellsOf, List.flatMap_cons, List.length_append] at ih ⊢; rw [ih]; simp [Ent.cells]; omega
theorem cellsOf_append (a b : List Ent) : cellsOf (a ++ b) = cellsOf a ++ cellsOf b := by simp [cellsOf]
theorem cellsOf_cons (e : Ent) (b : List Ent) : cellsOf (e :: b) = e.cells ++ cellsOf b := by simp [cellsOf]
theorem cellsOf_take (es : List Ent) (i : Nat) : cellsOf (es.take i) = (cellsOf es).take (i * 3) := by
  induction es generalizing i with
  | nil => simp [cellsOf]
  | cons x t ih =>
    cases i with
    | zero => simp [cellsOf]
    | succ i =>
      rw [List.take_succ_cons, cellsOf_cons, cellsOf_cons, ih, show (i + 1) * 3 = (i * 3) + 3 by omega]
      simp [Ent.cells]
theorem cellsOf_drop (es : List Ent) (i : Nat) : cellsOf (es.drop i) = (cellsOf es).drop (i * 3) := by
  induction es generalizing i with
  | nil => simp [cellsOf]
  | cons x t ih =>
    cases i with
    | zero => simp [cellsOf]
    | succ i =>
      rw [List.drop_succ_cons, cellsOf_cons, ih, show (i + 1) * 3 = (i * 3) + 3 by omega]
      simp [Ent.cells]
theorem cellsOf_one (es : List Ent) : ∀ u ∈ cellsOf es, u.oneCell' = true := by
  intro u hu
  obtain ⟨e, _, he⟩ := List.mem_flatMap.1 hu
  simp only [Ent.cells, List.mem_cons, List.not_mem_nil, or_false] at he
  rcases he with rfl | rfl | rfl <;> rfl
theorem cellsOf_get {es : List Ent} {i : Nat} {e : Ent} (h : es[i]? = some e) : (cellsOf es)[i * 3]? = some (.string e.key) ∧ (cellsOf es)[i * 3 + 1]? = some (.int .u64 e.ver) ∧ (cellsOf es)[i * 3 + 2]? = some (.slice e.va e.vn e.vc) := by
  induction es generalizing i with
  | nil => simp at h
  | cons x t ih =>
    cases i with
    | zero =>
      simp at h
      subst h
      simp [cellsOf, Ent.cells]
    | succ i =>
      simp at h
      have := ih h
      rw [cellsOf_cons]
      have e1 : ∀ j, (x.cells ++ cellsOf t)[3 + j]? = (cellsOf t)[j]? := fun j => by
        rw [List.getElem?_append_right (by simp [Ent.cells])]
        simp [Ent.cells]
      rw [show (i + 1) * 3 = 3 + i * 3 by omega, show 3 + i * 3 + 1 = 3 + (i * 3 + 1) by omega, show 3 + i * 3 + 2 = 3 + (i * 3 + 2) by omega, e1, e1, e1]
      exact this

/-! ### rows and nodes -/
/-- The slice value v holds the entries es. -/
def Row3 (w : World) (v : Value) (es : List Ent) : Prop := w.ownsRow 0 33 3 v es.length (cellsOf es)
/-- The slice value v holds the node pointers ps. -/
def Row1 (w : World) (v : Value) (ps : List Value) : Prop := w.ownsRow 0 84 1 v ps.length ps

theorem ownsRow_same {w w' : World} {base : Nat} {e : TypeId} {size n : Nat} {v : Value} {xs : List Value} (h : w.ownsRow base e size v n xs) (hs : ∀ g, v.ownBlock = some g → w'.heap[g]? = w.heap[g]?) : w'.ownsRow base e size v n xs := by
  obtain ⟨h1, h2⟩ := h
  refine ⟨h1, ?_⟩
  rcases h2 with h2 | ⟨g, cap, cur, hv, hb, hh, r⟩
  · exact Or.inl h2
  · exact Or.inr ⟨g, cap, cur, hv, hb, (hs g (by rw [hv]; rfl)).trans hh, r⟩

theorem Row3.same {w w' : World} {v : Value} {es : List Ent} (h : Row3 w v es) (hs : ∀ k, 1 ≤ ob v k → w'.heap[k]? = w.heap[k]?) : Row3 w' v es := ownsRow_same h (fun g hg => hs g (by rw [ob_of hg]; exact Nat.le_refl _))
theorem Row1.same {w w' : World} {v : Value} {ps : List Value} (h : Row1 w v ps) (hs : ∀ k, 1 ≤ ob v k → w'.heap[k]? = w.heap[k]?) : Row1 w' v ps := ownsRow_same h (fun g hg => hs g (by rw [ob_of hg]; exact Nat.le_refl _))

theorem ownsRow_lt {w : World} {base : Nat} {e : TypeId} {size n : Nat} {v : Value} {xs : List Value} (h : w.ownsRow base e size v n xs) {g : Nat} (hg : v.ownBlock = some g) : g < w.heap.size := by
  rcases h.2 with ⟨hv, _⟩ | ⟨g', cap, cur, hv, hb, hh, r⟩
  · rw [hv] at hg; cases hg
  · rw [hv] at hg
    have e : g' = g := by simpa [Value.ownBlock] using hg
    rw [← e]
    exact (Array.getElem?_eq_some_iff.1 hh).1
theorem Row3.lt {w : World} {v : Value} {es : List Ent} (h : Row3 w v es) {k : Nat} (hk : 1 ≤ ob v k) : k < w.heap.size := ownsRow_lt h (ob_pos hk)
theorem Row1.lt {w : World} {v : Value} {ps : List Value} (h : Row1 w v ps) {k : Nat} (hk : 1 ≤ ob v k) : k < w.heap.size := ownsRow_lt h (ob_pos hk)

theorem Row3.nil (w : World) : Row3 w (.slice none 0 0) [] := World.ownsRow_nil w _ _ _
theorem Row1.nil (w : World) : Row1 w (.slice none 0 0) [] := World.ownsRow_nil w _ _ _

/-- A node in memory: its three fields, the entries in the one slice, the children's pointers in the other. -/
structure NodeAt (w : World) (p : Nat) (iv cv cp : Value) (its : List Ent) (cps : List Value) : Prop where
  blk : w.heap[p]? = some (.cells #[iv, cv, cp] 106 (0, 0))
  ri : Row3 w iv its
  rc : Row1 w cv cps
  uniq : ∀ k, one p k + ob iv k + ob cv k ≤ 1

/-- Its blocks. -/
def nodeF (p : Nat) (iv cv : Value) : Nat → Nat := fun k => one p k + ob iv k + ob cv k

theorem NodeAt.lt {w : World} {p : Nat} {iv cv cp : Value} {its : List Ent} {cps : List Value} (h : NodeAt w p iv cv cp its cps) {k : Nat} (hk : 1 ≤ nodeF p iv cv k) : k < w.heap.size := by
  unfold nodeF at hk
  by_cases h1 : 1 ≤ one p k
  · rw [one_pos h1]; exact (Array.getElem?_eq_some_iff.1 h.blk).1
  · by_cases h2 : 1 ≤ ob iv k
    · exact h.ri.lt h2
    · exact h.rc.lt (k := k) (by omega)
theorem NodeAt.same {w w' : World} {p : Nat} {iv cv cp : Value} {its : List Ent} {cps : List Value} (h : NodeAt w p iv cv cp its cps) (hs : ∀ k, 1 ≤ nodeF p iv cv k → w'.heap[k]? = w.heap[k]?) : NodeAt w' p iv cv cp its cps :=
  ⟨(hs p (by unfold nodeF; rw [one_self]; omega)).trans h.blk, h.ri.same (fun k hk => hs k (by unfold nodeF; omega)), h.rc.same (fun k hk => hs k (by unfold nodeF; omega)), h.uniq⟩
theorem NodeAt.fit {w : World} {p : Nat} {iv cv cp : Value} {its : List Ent} {cps : List Value} (h : NodeAt w p iv cv cp its cps) : ∀ k, nodeF p iv cv k ≤ 1 := h.uniq

/-- The three cells. -/
theorem cell_blk {w : World} {p : Nat} {cs : Array Value} {t : TypeId} {fr : Nat × Nat} (h : w.heap[p]? = some (.cells cs t fr)) (j : Nat) : w.cell? ⟨p, j, none⟩ = cs[j]? := cell_of_row w p j cs t fr h
theorem frozen_blk {w : World} {p : Nat} {cs : Array Value} {t : TypeId} (h : w.heap[p]? = some (.cells cs t (0, 0))) (j : Nat) : w.frozen? ⟨p, j, none⟩ = false := by simp [World.frozen?, h]
theorem heap_setCell_blk {w : World} {p : Nat} {cs : Array Value} {t : TypeId} {fr : Nat × Nat} (h : w.heap[p]? = some (.cells cs t fr)) (j : Nat) (v : Value) : (w.setCell ⟨p, j, none⟩ v).heap[p]? = some (.cells (cs.setIfInBounds j v) t fr) := by
  have hlt := (Array.getElem?_eq_some_iff.1 h).1
  have hv := (Array.getElem?_eq_some_iff.1 h).2
  simp only [World.setCell, Array.getElem?_modify]
  simp [hlt, hv]

end Go.Proofs.Qxb6603483a
