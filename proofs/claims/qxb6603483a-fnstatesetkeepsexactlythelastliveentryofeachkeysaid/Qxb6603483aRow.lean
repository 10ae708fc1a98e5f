/-
  Rows laid open: a slice's block as one list; copy over elements of several cells.
-/
import Derived.Test.Qxb6603483aBase
namespace Go.Proofs.Qxb6603483a
open Go.RowKit
set_option linter.unusedSimpArgs false

/-- The row of a slice that has one, as one list: what is owned, then the spare. -/
theorem ownsRow_open {w : World} {t : TypeId} {size n cap g : Nat} {xs : List Value} (h : w.ownsRow 0 t size (.slice (some ⟨g, 0, none⟩) n cap) n xs) :
    ∃ sp, w.heap[g]? = some (.cells (xs ++ sp).toArray t (0, 0)) ∧ (xs ++ sp).length = cap * size ∧ xs.length = n * size ∧ n ≤ cap ∧ cap ≤ maxLen := by
  obtain ⟨h1, h2⟩ := h
  rcases h2 with ⟨hv, _⟩ | ⟨g', cap', cur, hv, _, hh, hn, hc, hs, ht⟩
  · cases hv
  · injection hv with e1 e2 e3
    injection e1 with e1
    injection e1 with e1
    subst e1; subst e3
    have hcur : cur.toList = xs ++ cur.toList.drop (n * size) := by rw [← ht, List.take_append_drop]
    refine ⟨cur.toList.drop (n * size), ?_, ?_, h1, hn, hc⟩
    · rw [← hcur]; simpa using hh
    · rw [← hcur]; simpa using hs

theorem ownsRow_shut {w : World} {t : TypeId} {size n cap g : Nat} {xs sp : List Value} (hh : w.heap[g]? = some (.cells (xs ++ sp).toArray t (0, 0))) (hl : (xs ++ sp).length = cap * size) (hx : xs.length = n * size) (hn : n ≤ cap) (hc : cap ≤ maxLen) :
    w.ownsRow 0 t size (.slice (some ⟨g, 0, none⟩) n cap) n xs :=
  ⟨hx, Or.inr ⟨g, cap, (xs ++ sp).toArray, rfl, Nat.zero_le _, hh, hn, hc, by simpa using hl, by simp [← hx]⟩⟩

theorem Row3.open' {w : World} {n cap g : Nat} {es : List Ent} (h : Row3 w (.slice (some ⟨g, 0, none⟩) n cap) es) :
    ∃ sp, w.heap[g]? = some (.cells (cellsOf es ++ sp).toArray 33 (0, 0)) ∧ (cellsOf es ++ sp).length = cap * 3 ∧ n = es.length ∧ n ≤ cap ∧ cap ≤ maxLen := by
  have hn : n = es.length := by
    rcases h.2 with ⟨hv, _⟩ | ⟨g', cap', cur, hv, _⟩
    · cases hv
    · injection hv with _ e2 _
  subst hn
  obtain ⟨sp, h1, h2, h3, h4, h5⟩ := ownsRow_open h
  exact ⟨sp, h1, h2, rfl, h4, h5⟩

theorem Row3.shut {w : World} {n cap g : Nat} {es : List Ent} {sp : List Value} (hh : w.heap[g]? = some (.cells (cellsOf es ++ sp).toArray 33 (0, 0))) (hl : (cellsOf es ++ sp).length = cap * 3) (hn : n = es.length) (hc : n ≤ cap) (hm : cap ≤ maxLen) :
    Row3 w (.slice (some ⟨g, 0, none⟩) n cap) es := by
  subst hn
  exact ownsRow_shut hh hl (cellsOf_length es) hc hm

theorem Row1.open' {w : World} {n cap g : Nat} {ps : List Value} (h : Row1 w (.slice (some ⟨g, 0, none⟩) n cap) ps) :
    ∃ sp, w.heap[g]? = some (.cells (ps ++ sp).toArray 84 (0, 0)) ∧ (ps ++ sp).length = cap ∧ n = ps.length ∧ n ≤ cap ∧ cap ≤ maxLen := by
  have hn : n = ps.length := by
    rcases h.2 with ⟨hv, _⟩ | ⟨g', cap', cur, hv, _⟩
    · cases hv
    · injection hv with _ e2 _
  subst hn
  obtain ⟨sp, h1, h2, h3, h4, h5⟩ := ownsRow_open h
  exact ⟨sp, h1, by simpa using h2, rfl, h4, h5⟩

theorem Row1.shut {w : World} {n cap g : Nat} {ps : List Value} {sp : List Value} (hh : w.heap[g]? = some (.cells (ps ++ sp).toArray 84 (0, 0))) (hl : (ps ++ sp).length = cap) (hn : n = ps.length) (hc : n ≤ cap) (hm : cap ≤ maxLen) :
    Row1 w (.slice (some ⟨g, 0, none⟩) n cap) ps := by
  subst hn
  exact ownsRow_shut hh (by simpa using hl) (by simp) hc hm

theorem Row3.blkOf {w : World} {n cap g : Nat} {es : List Ent} (h : Row3 w (.slice (some ⟨g, 0, none⟩) n cap) es) : ∃ sp, w.heap[g]? = some (.cells (cellsOf es ++ sp).toArray 33 (0, 0)) := by
  obtain ⟨sp, h1, _⟩ := h.open'
  exact ⟨sp, h1⟩
theorem Row1.blkOf {w : World} {n cap g : Nat} {ps : List Value} (h : Row1 w (.slice (some ⟨g, 0, none⟩) n cap) ps) : ∃ sp, w.heap[g]? = some (.cells (ps ++ sp).toArray 84 (0, 0)) := by
  obtain ⟨sp, h1, _⟩ := h.open'
  exact ⟨sp, h1⟩

theorem ownsRow_there {w : World} {t : TypeId} {size n cap g j : Nat} {xs : List Value} (h : w.ownsRow 0 t size (.slice (some ⟨g, 0, none⟩) n cap) n xs) (hj : j < cap * size) : (∃ x, w.cell? ⟨g, j, none⟩ = some x) ∧ w.frozen? ⟨g, j, none⟩ = false := by
  obtain ⟨sp, hh, hl, _⟩ := ownsRow_open h
  refine ⟨⟨(xs ++ sp)[j]'(by omega), ?_⟩, frozen_blk hh j⟩
  rw [cell_blk hh, List.getElem?_toArray]
  exact List.getElem?_eq_getElem _

/-- The value of a row: nil where nothing is owned and nothing was made, else a slice from its block's head. -/
theorem Row3.form {w : World} {v : Value} {es : List Ent} (h : Row3 w v es) : (v = .slice none 0 0 ∧ es = []) ∨ ∃ g cap, v = .slice (some ⟨g, 0, none⟩) es.length cap := by
  rcases h.2 with ⟨hv, h0⟩ | ⟨g, cap, cur, hv, _⟩
  · exact Or.inl ⟨hv, List.eq_nil_of_length_eq_zero h0⟩
  · exact Or.inr ⟨g, cap, hv⟩
theorem Row1.form {w : World} {v : Value} {ps : List Value} (h : Row1 w v ps) : (v = .slice none 0 0 ∧ ps = []) ∨ ∃ g cap, v = .slice (some ⟨g, 0, none⟩) ps.length cap := by
  rcases h.2 with ⟨hv, h0⟩ | ⟨g, cap, cur, hv, _⟩
  · exact Or.inl ⟨hv, List.eq_nil_of_length_eq_zero h0⟩
  · exact Or.inr ⟨g, cap, hv⟩

/-- 'copy(dst, src)' over elements of 'size' cells, dst lying in a row that is known whole. -/
theorem run_copy_size {P : Program} (w : World) (dT sT ty elem : TypeId) (size g o dLen dCap : Nat) (a : Addr) (sLen sCap : Nat) (cur : Array Value) (t : TypeId) (cs : List Value)
    (hu : P.underlying dT = some (.slice elem)) (hs : (P.info? elem).map (·.size) = some size)
    (hg : w.heap[g]? = some (.cells cur t (0, 0))) (hn : cs.length = Nat.min sLen dLen * size)
    (hsrc : ∀ j v, cs[j]? = some v → w.cell? (a.add j) = some v) (hfit : o + cs.length ≤ cur.size) (h1 : ∀ v ∈ cs, v.oneCell' = true) :
    (Builtin.copy_ #[dT, sT] ty #[.slice (some ⟨g, o, none⟩) dLen dCap, .slice (some a) sLen sCap]).run P w =
      .ok (goInt (Nat.min sLen dLen)) (w.setRow g (cur.toList.take o ++ cs ++ cur.toList.drop (o + cs.length)).toArray) := by
  have hl := run_loadCells_list (P := P) w a cs hsrc
  have hst := run_storeCells_at P g o t cs 0 cur w hg (by simpa using hfit) h1
  cases hq : P.info? elem with
  | none => simp [hq] at hs
  | some i =>
    have hi : i.size = size := by simpa [hq] using hs
    simp [Builtin.copy_, run_underlying hu, Builtin.lenOf, Builtin.firstCells, sizeOf, typeInfo, hq, hi, ← hn, hl, hst]

/-- .. where one of the two has no element. -/
theorem run_copy_zero {P : Program} (w : World) (dT sT ty elem : TypeId) (size : Nat) (dp sp : Option Addr) (dLen dCap sLen sCap : Nat)
    (hu : P.underlying dT = some (.slice elem)) (hs : (P.info? elem).map (·.size) = some size) (hn : Nat.min sLen dLen = 0) :
    (Builtin.copy_ #[dT, sT] ty #[.slice dp dLen dCap, .slice sp sLen sCap]).run P w = .ok (goInt 0) w := by
  cases hq : P.info? elem with
  | none => simp [hq] at hs
  | some i =>
    have hi : i.size = size := by simpa [hq] using hs
    have hl : ∀ a : Addr, (loadCells a 0).run P w = .ok #[] w := fun a => by simpa using run_loadCells_list (P := P) w a [] (by simp)
    cases sp <;> cases dp <;> simp [Builtin.copy_, run_underlying hu, Builtin.lenOf, Builtin.firstCells, sizeOf, typeInfo, hq, hi, hn, storeCells, hl]

/-- AS ONE STEP OF A REGION THAT DRAWS: the place 'off' and the cells 'cs' given by the prover. -/
theorem step_copy_size {P : Program} {ops : Array Oper} {o : Oper} {a : Act} {w : World} {K : Act → World → Prop} {Q : Exit → Act → World → Prop} {E : Prop} (hgd : o.guard = none) (d s : Operand) (dT sT : TypeId)
    (ho : o.op = .call { callee := .builtin .copy, args := #[d, s], argTypes := #[dT, sT] }) (elem : TypeId) (size : Nat) (hu : P.underlying dT = some (.slice elem)) (hsz : (P.info? elem).map (·.size) = some size)
    (dp sp : Option Addr) (dLen dCap sLen sCap : Nat) (hd : a.eval d = .slice dp dLen dCap) (hs : a.eval s = .slice sp sLen sCap)
    (g off : Nat) (cur : List Value) (t : TypeId) (hg : w.heap[g]? = some (.cells cur.toArray t (0, 0))) (cs : List Value) (hn : cs.length = Nat.min sLen dLen * size) (h0 : Nat.min sLen dLen = 0 → cs = [])
    (hpos : 0 < Nat.min sLen dLen → dp = some ⟨g, off, none⟩ ∧ ∃ ad, sp = some ad ∧ ∀ j v, cs[j]? = some v → w.cell? (ad.add j) = some v)
    (hfit : off + cs.length ≤ cur.length) (h1 : ∀ v ∈ cs, v.oneCell' = true)
    (h : ∀ w', Hid (w'.heap[g]? = some (.cells (splice cur off cs).toArray t (0, 0))) → w.grownBy w' (some g) → w'.heap.size = w.heap.size → K (a.put o.dst (goInt (Nat.min sLen dLen))) w') :
    if Region.wanted o (yielded ops a.tmps) = true then Oper.wp P o a w K Q else E := by
  have hw : Region.wanted o (yielded ops a.tmps) = true := by simp [Region.wanted, hgd]
  rw [if_pos hw]
  by_cases h00 : Nat.min sLen dLen = 0
  · obtain rfl := h0 h00
    have hrun := run_copy_zero (P := P) w dT sT o.type elem size dp sp dLen dCap sLen sCap hu hsz h00
    have hh := h w (show _ = _ by simpa [splice] using hg) ⟨rfl, rfl, rfl, Nat.le_refl _, fun _ _ _ => rfl⟩ rfl
    rw [h00] at hh
    unfold Oper.wp
    simp [execOp, ho, resolve, invoke, builtin, hd, hs, hrun, Result.andThen]
    exact hh
  · obtain ⟨rfl, ad, rfl, hsrc⟩ := hpos (by omega)
    have hrun := run_copy_size (P := P) w dT sT o.type elem size g off dLen dCap ad sLen sCap cur.toArray t cs hu hsz hg hn hsrc (by simpa using hfit) h1
    unfold Oper.wp
    simp [execOp, ho, resolve, invoke, builtin, hd, hs, hrun, Result.andThen]
    exact h _ (show _ = _ by simpa [splice] using setRow_heap w g _ _ t _ hg) ⟨rfl, rfl, rfl, by simp [World.setRow], fun k _ hk => setRow_other w g k _ (fun e => hk (by rw [e]))⟩ (by simp [World.setRow])

/-- A row of entries overlaid from place j on to its end. -/
theorem splice3 (A B : List Ent) (sp : List Value) (j : Nat) (h : j + B.length = A.length) : splice (cellsOf A ++ sp) (j * 3) (cellsOf B) = cellsOf (A.take j ++ B) ++ sp := by
  unfold splice
  have hl := cellsOf_length A
  have hb := cellsOf_length B
  rw [List.take_append_of_le_length (by omega), cellsOf_append, cellsOf_take, List.drop_append_of_le_length (by omega), List.drop_of_length_le (by omega)]
  simp
theorem splice3g (A B : List Ent) (sp : List Value) (j : Nat) (h : j + B.length ≤ A.length) : splice (cellsOf A ++ sp) (j * 3) (cellsOf B) = cellsOf (A.take j ++ B ++ A.drop (j + B.length)) ++ sp := by
  unfold splice
  have hl := cellsOf_length A
  have hb := cellsOf_length B
  rw [List.take_append_of_le_length (by omega), cellsOf_append, cellsOf_append, cellsOf_take, cellsOf_drop, List.drop_append_of_le_length (by omega), hb, Nat.add_mul]
  simp
theorem splice1g (A B : List Value) (sp : List Value) (j : Nat) (h : j + B.length ≤ A.length) : splice (A ++ sp) j B = (A.take j ++ B ++ A.drop (j + B.length)) ++ sp := by
  unfold splice
  rw [List.take_append_of_le_length (by omega), List.drop_append_of_le_length (by omega)]
  simp
theorem splice1 (A B : List Value) (sp : List Value) (j : Nat) (h : j + B.length = A.length) : splice (A ++ sp) j B = (A.take j ++ B) ++ sp := by
  unfold splice
  rw [List.take_append_of_le_length (by omega), List.drop_append_of_le_length (by omega), List.drop_of_length_le (by omega)]
  simp

theorem cells3_at {w : World} {g : Nat} {A : List Ent} {sp : List Value} (hh : w.heap[g]? = some (.cells (cellsOf A ++ sp).toArray 33 (0, 0))) (i : Nat) :
    ∀ j v, (cellsOf (A.drop i))[j]? = some v → w.cell? ((⟨g, i * 3, none⟩ : Addr).add j) = some v := fun j v hv => by
  have hadd : (⟨g, i * 3, none⟩ : Addr).add j = ⟨g, i * 3 + j, none⟩ := by unfold Addr.add; split <;> simp_all
  rw [hadd, cell_blk hh, List.getElem?_toArray]
  rw [cellsOf_drop, List.getElem?_drop] at hv
  rw [List.getElem?_append_left (by have := (List.getElem?_eq_some_iff.1 hv).1; omega)]
  exact hv
theorem cells1_at {w : World} {g : Nat} {A : List Value} {sp : List Value} (hh : w.heap[g]? = some (.cells (A ++ sp).toArray 84 (0, 0))) (i : Nat) :
    ∀ j v, (A.drop i)[j]? = some v → w.cell? ((⟨g, i, none⟩ : Addr).add j) = some v := fun j v hv => by
  have hadd : (⟨g, i, none⟩ : Addr).add j = ⟨g, i + j, none⟩ := by unfold Addr.add; split <;> simp_all
  rw [hadd, cell_blk hh, List.getElem?_toArray]
  rw [List.getElem?_drop] at hv
  rw [List.getElem?_append_left (by have := (List.getElem?_eq_some_iff.1 hv).1; omega)]
  exact hv
theorem ptr_one (ps : List Nat) : ∀ v ∈ ps.map ptr, v.oneCell' = true := fun v hv => by obtain ⟨p, _, rfl⟩ := List.mem_map.1 hv; rfl

theorem cellsOf_set (A : List Ent) (i : Nat) (e : Ent) (hi : i < A.length) : (((cellsOf A).set (i * 3) (.string e.key)).set (i * 3 + 1) (.int .u64 e.ver)).set (i * 3 + 2) (.slice e.va e.vn e.vc) = cellsOf (A.set i e) := by
  induction A generalizing i with
  | nil => simp at hi
  | cons x t ih =>
    cases i with
    | zero => simp [cellsOf, Ent.cells]
    | succ i =>
      have := ih i (by simpa using hi)
      rw [List.set_cons_succ, cellsOf_cons, cellsOf_cons, ← this]
      have e1 : ∀ (l : List Value) (j : Nat) (v : Value), (x.cells ++ l).set (3 + j) v = x.cells ++ l.set j v := fun l j v => by
        rw [List.set_append_right _ _ (by simp [Ent.cells])]
        simp [Ent.cells]
      rw [show (i + 1) * 3 = 3 + i * 3 by omega, show 3 + i * 3 + 1 = 3 + (i * 3 + 1) by omega, show 3 + i * 3 + 2 = 3 + (i * 3 + 2) by omega, e1, e1, e1]

/-- An entry stored into a row. -/
theorem set3 {w : World} {g : Nat} {A : List Ent} {sp : List Value} (hh : w.heap[g]? = some (.cells (cellsOf A ++ sp).toArray 33 (0, 0))) (i : Nat) (hi : i < A.length) (e : Ent) :
    (((w.setCell ⟨g, i * 3, none⟩ (.string e.key)).setCell ⟨g, i * 3 + 1, none⟩ (.int .u64 e.ver)).setCell ⟨g, i * 3 + 2, none⟩ (.slice e.va e.vn e.vc)).heap[g]? = some (.cells (cellsOf (A.set i e) ++ sp).toArray 33 (0, 0)) := by
  have hl := cellsOf_length A
  rw [heap_setCell_blk (heap_setCell_blk (heap_setCell_blk hh _ _) _ _) _ _]
  simp only [List.setIfInBounds_toArray]
  rw [List.set_append_left _ _ (by omega), List.set_append_left _ _ (by rw [List.length_set]; omega), List.set_append_left _ _ (by rw [List.length_set, List.length_set]; omega), cellsOf_set A i e hi]
theorem set1 {w : World} {g : Nat} {A : List Value} {sp : List Value} (hh : w.heap[g]? = some (.cells (A ++ sp).toArray 84 (0, 0))) (i : Nat) (hi : i < A.length) (q : Value) :
    (w.setCell ⟨g, i, none⟩ q).heap[g]? = some (.cells (A.set i q ++ sp).toArray 84 (0, 0)) := by
  rw [heap_setCell_blk hh]
  simp only [List.setIfInBounds_toArray]
  rw [List.set_append_left _ _ hi]

theorem set_at_take {α : Type} (L : List α) (i : Nat) (hi : i < L.length) (B : List α) (e : α) : (L.take (i + 1) ++ B).set i e = L.take i ++ e :: B := by
  rw [List.take_succ_eq_append_getElem hi, List.append_assoc, List.set_append_right _ _ (by simp; omega)]
  simp [Nat.min_eq_left (Nat.le_of_lt hi)]

/-- An entry's three cells in a row. -/
theorem ent_at {w : World} {g : Nat} {A : List Ent} {sp : List Value} (hh : w.heap[g]? = some (.cells (cellsOf A ++ sp).toArray 33 (0, 0))) {i : Nat} {e : Ent} (hi : A[i]? = some e) :
    w.cell? ⟨g, i * 3, none⟩ = some (.string e.key) ∧ w.cell? ⟨g, i * 3 + 1, none⟩ = some (.int .u64 e.ver) ∧ w.cell? ⟨g, i * 3 + 2, none⟩ = some (.slice e.va e.vn e.vc) := by
  obtain ⟨h1, h2, h3⟩ := cellsOf_get hi
  have aux : ∀ j v, (cellsOf A)[j]? = some v → w.cell? ⟨g, j, none⟩ = some v := fun j v hv => by
    rw [cell_blk hh, List.getElem?_toArray, List.getElem?_append_left (List.getElem?_eq_some_iff.1 hv).1]
    exact hv
  exact ⟨aux _ _ h1, aux _ _ h2, aux _ _ h3⟩
theorem ptr_at {w : World} {g : Nat} {A : List Value} {sp : List Value} (hh : w.heap[g]? = some (.cells (A ++ sp).toArray 84 (0, 0))) {i : Nat} {q : Value} (hi : A[i]? = some q) : w.cell? ⟨g, i, none⟩ = some q := by
  rw [cell_blk hh, List.getElem?_toArray, List.getElem?_append_left (List.getElem?_eq_some_iff.1 hi).1]
  exact hi

/-- Elements struck from place i: the copy leaves the last one doubled. -/
theorem erase_copy {α : Type} (A : List α) (i : Nat) (hi : i < A.length) : ∃ y, A.take i ++ A.drop (i + 1) ++ A.drop (i + (A.drop (i + 1)).length) = A.eraseIdx i ++ [y] := by
  have hl : i + (A.drop (i + 1)).length = A.length - 1 := by rw [List.length_drop]; omega
  rw [hl, List.eraseIdx_eq_take_drop_succ]
  have hd : A.drop (A.length - 1) = [A[A.length - 1]'(by omega)] := by
    rw [List.drop_eq_getElem_cons (by omega), List.drop_of_length_le (by omega)]
  exact ⟨_, by rw [hd]⟩

/-- Where 'x[l:]' begins. -/
def cutA (g cap l s : Nat) : Addr := if cap = l then ⟨g, 0, none⟩ else ⟨g, l * s, none⟩
theorem cutA_of {g cap l s : Nat} (h : l < cap) : cutA g cap l s = ⟨g, l * s, none⟩ := by unfold cutA; rw [if_neg (by omega)]

theorem run_cut {P : Program} (t : TypeId) (s g n cap l : Nat) (il : Int) (hil : il = (l : Int)) (hl : l ≤ n) (ht : P.underlying t = some (.slice (P.elem t))) (hs : ∀ w, (sizeOf (P.elem t)).run P w = .ok s w) (w : World) :
    (Instr.sliceAt t (.slice (some ⟨g, 0, none⟩) n cap) (some (.int .i64 il)) none none).run P w = .ok (.slice (some (cutA g cap l s)) (n - l) (cap - l)) w := by
  subst hil
  rw [run_sliceAt_slice (h := ht), run_slice_l (ht := ht) (h0 := by omega) (h1 := by omega), hs]
  simp only [Result.andThen, sliced, Int.toNat_natCast, cutA]
  congr 2
  by_cases h : cap = l
  · simp [h]
  · simp only [h, if_false, Option.map_some, Addr.add]
    by_cases h0 : l * s = 0
    · simp [h0]
    · simp [h0]

/-- 'x[i]': where it lies. -/
theorem run_ix {P : Program} (t : TypeId) (s g n cap i : Nat) (ii : Int) (hii : ii = (i : Int)) (hi : i < n) (ht : P.underlying t = some (.slice (P.elem t))) (hs : ∀ w, (sizeOf (P.elem t)).run P w = .ok s w) (w : World) :
    (Instr.indexAt t (.slice (some ⟨g, 0, none⟩) n cap) (.int .i64 ii)).run P w = .ok (.pointer (some ⟨g, i * s, none⟩)) w := by
  subst hii
  rw [run_indexAt_slice (h := ht), if_pos ⟨by omega, by omega⟩, hs]
  simp only [Result.andThen, Int.toNat_natCast, Addr.add]
  by_cases h0 : i * s = 0
  · simp [h0]
  · simp [h0]

/-- 'x[m:][k]': where it lies. -/
theorem run_ix_cut {P : Program} (t : TypeId) (s g cap m L C k : Nat) (hk : k < L) (hm : m < cap) (ht : P.underlying t = some (.slice (P.elem t))) (hs : ∀ w, (sizeOf (P.elem t)).run P w = .ok s w) (w : World) :
    (Instr.indexAt t (.slice (some (cutA g cap m s)) L C) (.int .i64 (k : Int))).run P w = .ok (.pointer (some ⟨g, m * s + k * s, none⟩)) w := by
  rw [run_indexAt_slice (h := ht), if_pos ⟨by omega, by omega⟩, hs, cutA_of hm]
  simp only [Result.andThen, Int.toNat_natCast, Addr.add]
  by_cases h0 : k * s = 0
  · simp [h0]
  · simp [h0]

/-- 'x[:h]'. -/
theorem run_head {P : Program} (t : TypeId) (s g n cap h : Nat) (ih : Int) (hih : ih = (h : Int)) (hh : h ≤ cap) (ht : P.underlying t = some (.slice (P.elem t))) (hs : ∀ w, (sizeOf (P.elem t)).run P w = .ok s w) (w : World) :
    (Instr.sliceAt t (.slice (some ⟨g, 0, none⟩) n cap) none (some (.int .i64 ih)) none).run P w = .ok (.slice (some ⟨g, 0, none⟩) h cap) w := by
  subst hih
  rw [run_sliceAt_slice (h := ht), run_slice_h (ht := ht) (h0 := by omega) (h2 := by omega), hs]
  simp [Result.andThen, sliced, Addr.add]

end Go.Proofs.Qxb6603483a
