/-
  The pool of free nodes: the context's block, the free list's, its row, the nodes in it.
-/
import Derived.Test.Qxb6603483aUpd
import Derived.LaidEqlPtr
namespace Go.Proofs.Qxb6603483a
open Go.RowKit
set_option linter.unusedSimpArgs false

/-- A free node: its block, its two slices. -/
structure FN where
  q : Nat
  iv : Value
  cv : Value

def fnF (ns : List FN) : Nat → Nat := fun k => (ns.map (fun n => nodeF n.q n.iv n.cv k)).sum
theorem fnF_nil (k : Nat) : fnF [] k = 0 := rfl
theorem fnF_append (a b : List FN) (k : Nat) : fnF (a ++ b) k = fnF a k + fnF b k := by simp [fnF]
theorem fnF_one (n : FN) (k : Nat) : fnF [n] k = nodeF n.q n.iv n.cv k := by simp [fnF]
theorem fnF_mem {ns : List FN} {n : FN} (h : n ∈ ns) (k : Nat) : nodeF n.q n.iv n.cv k ≤ fnF ns k := by
  induction ns with
  | nil => cases h
  | cons x t ih =>
    have e : fnF (x :: t) k = nodeF x.q x.iv x.cv k + fnF t k := by simp [fnF]
    rw [e]
    rcases List.mem_cons.1 h with rfl | h
    · omega
    · have := ih h; omega
theorem fnF_pos {ns : List FN} {k : Nat} (h : 1 ≤ fnF ns k) : ∃ n ∈ ns, 1 ≤ nodeF n.q n.iv n.cv k := by
  induction ns with
  | nil => cases h
  | cons x t ih =>
    have e : fnF (x :: t) k = nodeF x.q x.iv x.cv k + fnF t k := by simp [fnF]
    rw [e] at h
    by_cases h1 : 1 ≤ nodeF x.q x.iv x.cv k
    · exact ⟨x, List.mem_cons_self, h1⟩
    · obtain ⟨n, hn, hk⟩ := ih (by omega)
      exact ⟨n, List.mem_cons_of_mem _ hn, hk⟩

/-- The function value that compares entries. -/
def lessV : Value := .func (.func 29) #[] #[]

/-- The pool's blocks. -/
def poolF (c f : Nat) (fv : Value) (ns : List FN) : Nat → Nat := fun k => one c k + one f k + ob fv k + fnF ns k

def ptrs (ns : List FN) : List Value := ns.map (fun n => ptr n.q)
theorem ptrs_one (ns : List FN) : ∀ v ∈ ptrs ns, v.oneCell' = true := fun v hv => by obtain ⟨p, _, rfl⟩ := List.mem_map.1 hv; rfl

structure PoolAt (w : World) (c f : Nat) (fv : Value) (ns : List FN) : Prop where
  cow : w.heap[c]? = some (.cells #[ptr f, lessV] 115 (0, 0))
  fl : w.heap[f]? = some (.cells #[.int .i32 0, .int .u32 0, fv] 124 (0, 0))
  row : Row1 w fv (ptrs ns)
  nodes : ∀ n ∈ ns, NodeAt w n.q n.iv n.cv (.pointer none) [] []
  uniq : ∀ k, poolF c f fv ns k ≤ 1

theorem PoolAt.lt {w : World} {c f : Nat} {fv : Value} {ns : List FN} (h : PoolAt w c f fv ns) {k : Nat} (hk : 1 ≤ poolF c f fv ns k) : k < w.heap.size := by
  unfold poolF at hk
  by_cases h1 : 1 ≤ one c k
  · rw [one_pos h1]; exact (Array.getElem?_eq_some_iff.1 h.cow).1
  by_cases h2 : 1 ≤ one f k
  · rw [one_pos h2]; exact (Array.getElem?_eq_some_iff.1 h.fl).1
  by_cases h3 : 1 ≤ ob fv k
  · exact h.row.lt h3
  obtain ⟨n, hn, h4⟩ := fnF_pos (ns := ns) (k := k) (by omega)
  exact (h.nodes n hn).lt h4

theorem PoolAt.same {w w' : World} {c f : Nat} {fv : Value} {ns : List FN} (h : PoolAt w c f fv ns) (hs : ∀ k, 1 ≤ poolF c f fv ns k → w'.heap[k]? = w.heap[k]?) : PoolAt w' c f fv ns :=
  ⟨(hs c (by unfold poolF; rw [one_self]; omega)).trans h.cow, (hs f (by unfold poolF; rw [one_self]; omega)).trans h.fl, h.row.same (fun k hk => hs k (by unfold poolF; omega)),
    fun n hn => (h.nodes n hn).same (fun k hk => hs k (by have := fnF_mem hn k; unfold poolF; omega)), h.uniq⟩

/-- The list of free nodes turned: the free list's block, its row; R lies beside. -/
theorem pool_turned {w w' : World} {c f : Nat} {fv fv' : Value} {ns ns' : List FN} {R : Nat → Nat} (h : PoolAt w c f fv ns)
    (hc : Chg (fun k => one f k + ob fv k) w w') (hb : w'.heap[f]? = some (.cells #[.int .i32 0, .int .u32 0, fv'] 124 (0, 0))) (hr : Row1 w' fv' (ptrs ns'))
    (hfv : ∀ k, k < w.heap.size → ob fv' k ≤ ob fv k) (hn : ∀ n ∈ ns', NodeAt w n.q n.iv n.cv (.pointer none) [] [])
    (hs : ∀ k, poolF c f fv ns' k + R k ≤ 1) (hR : ∀ k, 1 ≤ R k → k < w.heap.size) :
    PoolAt w' c f fv' ns' ∧ Stp (fun k => poolF c f fv ns' k + R k) w w' (fun k => poolF c f fv' ns' k + R k) := by
  have hcl := (Array.getElem?_eq_some_iff.1 h.cow).1
  have hfl := (Array.getElem?_eq_some_iff.1 h.fl).1
  have hnl : ∀ k, 1 ≤ fnF ns' k → k < w.heap.size := fun k hk => by obtain ⟨n, hm, h4⟩ := fnF_pos hk; exact (hn n hm).lt h4
  have hu : ∀ k, poolF c f fv' ns' k + R k ≤ 1 := fun k => by
    by_cases hk : k < w.heap.size
    · have h1 := hs k; have h2 := hfv k hk; unfold poolF at h1 ⊢; omega
    · have h1 : one c k = 0 := one_other (by omega)
      have h2 : one f k = 0 := one_other (by omega)
      have h3 := hnl k
      have h4 := hR k
      have h5 := ob_le fv' k
      unfold poolF
      omega
  have hp : PoolAt w' c f fv' ns' := by
    refine ⟨(hc.same c hcl ?_).trans h.cow, hb, hr, fun n hm => hc.node (hn n hm) (fun k hk => ?_), fun k => by have := hu k; omega⟩
    · have := hs c; unfold poolF at this; rw [one_self] at this; show one f c + ob fv c = 0; omega
    · have h1 := hs k; have h2 := fnF_mem hm k; unfold poolF at h1; show one f k + ob fv k = 0; omega
  refine ⟨hp, hc.mono (fun k _ h0 => ?_), fun k hk => ?_, hu, fun k hk => ?_⟩
  · have h0 : poolF c f fv ns' k + R k = 0 := h0
    unfold poolF at h0
    show one f k + ob fv k = 0
    omega
  · have := hfv k hk; unfold poolF; omega
  · have hk : 1 ≤ poolF c f fv' ns' k + R k := hk
    by_cases h1 : 1 ≤ R k
    · exact Nat.lt_of_lt_of_le (hR k h1) hc.size
    · exact hp.lt (by omega)

/-- The pool, its blocks counted by G. -/
def Pool (w : World) (c : Nat) (G : Nat → Nat) : Prop := ∃ f fv ns, PoolAt w c f fv ns ∧ ∀ k, G k = poolF c f fv ns k

theorem Pool.same {w w' : World} {c : Nat} {G : Nat → Nat} (h : Pool w c G) (hs : ∀ k, 1 ≤ G k → w'.heap[k]? = w.heap[k]?) : Pool w' c G := by
  obtain ⟨f, fv, ns, h, e⟩ := h
  exact ⟨f, fv, ns, h.same (fun k hk => hs k (by rw [e]; exact hk)), e⟩
theorem Pool.lt {w : World} {c : Nat} {G : Nat → Nat} (h : Pool w c G) {k : Nat} (hk : 1 ≤ G k) : k < w.heap.size := by
  obtain ⟨f, fv, ns, h, e⟩ := h
  exact h.lt (by rw [← e]; exact hk)
theorem Pool.uniq {w : World} {c : Nat} {G : Nat → Nat} (h : Pool w c G) (k : Nat) : G k ≤ 1 := by
  obtain ⟨f, fv, ns, h, e⟩ := h
  rw [e]; exact h.uniq k
theorem Pool.chg {w w' : World} {c : Nat} {G A : Nat → Nat} (h : Pool w c G) (hc : Chg A w w') (h0 : ∀ k, 1 ≤ G k → A k = 0) : Pool w' c G :=
  h.same (fun k hk => hc.same k (h.lt hk) (h0 k hk))
theorem Pool.cow {w : World} {c : Nat} {G : Nat → Nat} (h : Pool w c G) : ∃ f, w.heap[c]? = some (.cells #[ptr f, lessV] 115 (0, 0)) ∧ 1 ≤ G c := by
  obtain ⟨f, fv, ns, h, e⟩ := h
  exact ⟨f, h.cow, by rw [e]; unfold poolF; rw [one_self]; omega⟩

/-- A node's context set. -/
theorem NodeAt.setCow {w : World} {p : Nat} {iv cv cp : Value} {its : List Ent} {cps : List Value} (h : NodeAt w p iv cv cp its cps) (u : Value) :
    NodeAt (w.setCell ⟨p, 2, none⟩ u) p iv cv u its cps ∧ Stp (nodeF p iv cv) w (w.setCell ⟨p, 2, none⟩ u) (nodeF p iv cv) ∧ Chg (one p) w (w.setCell ⟨p, 2, none⟩ u) := by
  have hu := h.uniq
  have hsame : ∀ k, k ≠ p → (w.setCell ⟨p, 2, none⟩ u).heap[k]? = w.heap[k]? := fun k hk => Below.heap_setCell _ _ _ _ hk
  have hN : NodeAt (w.setCell ⟨p, 2, none⟩ u) p iv cv u its cps :=
    ⟨by rw [heap_setCell_blk h.blk]; rfl, h.ri.same (fun k hk => hsame k (fun e => by subst e; have := hu k; rw [one_self] at this; omega)),
      h.rc.same (fun k hk => hsame k (fun e => by subst e; have := hu k; rw [one_self] at this; omega)), hu⟩
  have hc : Chg (one p) w (w.setCell ⟨p, 2, none⟩ u) := (Chg.refl (one p) w).setCell (p := ⟨p, 2, none⟩) (fun _ => by show 1 ≤ one p p; rw [one_self]; exact Nat.le_refl _) _
  exact ⟨hN, ⟨hc.mono (fun k _ h0 => by unfold nodeF at h0; omega), fun _ _ => Nat.le_refl _, hN.fit, fun k hk => hN.lt hk⟩, hc⟩

theorem NodeAt.iform {w : World} {p : Nat} {iv cv cp : Value} {its : List Ent} {cps : List Value} (h : NodeAt w p iv cv cp its cps) : ∃ a cap, iv = .slice a its.length cap := by
  rcases h.ri.form with ⟨h1, h2⟩ | ⟨g, cap, h1⟩
  · exact ⟨none, 0, by rw [h1, h2]; rfl⟩
  · exact ⟨_, _, h1⟩
theorem NodeAt.cform {w : World} {p : Nat} {iv cv cp : Value} {its : List Ent} {cps : List Value} (h : NodeAt w p iv cv cp its cps) : ∃ a cap, cv = .slice a cps.length cap := by
  rcases h.rc.form with ⟨h1, h2⟩ | ⟨g, cap, h1⟩
  · exact ⟨none, 0, by rw [h1, h2]; rfl⟩
  · exact ⟨_, _, h1⟩

theorem info115 : (Try.prog.info? 115).map (·.size) = some 2 := by kernel_rfl
theorem cow_eql (a : Addr) (w : World) : (binOp .eql 85 (.pointer (some a)) (.pointer (some a))).run Try.prog w = .ok (.bool true) w := by
  obtain ⟨j, hj, _⟩ := Option.map_eq_some_iff.1 info115
  exact run_eql_ptr_same w a Try.underlying85 hj

end Go.Proofs.Qxb6603483a
