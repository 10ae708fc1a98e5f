/-
  Results laid in a box of the call's own.
-/
import Derived.Test.Qxb6603483aTree
namespace Go.Proofs.Qxb6603483a
open Go.RowKit
set_option linter.unusedSimpArgs false

/-- An entry put into a box. -/
def boxPut (w : World) (b : Nat) (e : Ent) : World := ((w.setCell ⟨b, 0, none⟩ (.string e.key)).setCell ⟨b, 1, none⟩ (.int .u64 e.ver)).setCell ⟨b, 2, none⟩ (.slice e.va e.vn e.vc)

theorem boxPut_other {w : World} {b k : Nat} (e : Ent) (h : k ≠ b) : (boxPut w b e).heap[k]? = w.heap[k]? := by
  unfold boxPut
  rw [Below.heap_setCell _ _ _ _ h, Below.heap_setCell _ _ _ _ h, Below.heap_setCell _ _ _ _ h]
theorem boxPut_at {w : World} {b : Nat} (e : Ent) {x y z : Value} (h : w.heap[b]? = some (.cells #[x, y, z] 33 (0, 0))) : (boxPut w b e).heap[b]? = some (.cells #[.string e.key, .int .u64 e.ver, .slice e.va e.vn e.vc] 33 (0, 0)) := by
  have h1 := heap_setCell_blk h 0 (.string e.key)
  have h2 := heap_setCell_blk h1 1 (.int .u64 e.ver)
  have h3 := heap_setCell_blk h2 2 (.slice e.va e.vn e.vc)
  exact h3
theorem Stp.boxPut {A B : Nat → Nat} {w w' : World} (h : Stp A w w' B) {b : Nat} (hf : w.heap.size ≤ b) (e : Ent) : Stp A w (boxPut w' b e) B :=
  ((h.setFresh (a := ⟨b, 0, none⟩) hf _).setFresh (a := ⟨b, 1, none⟩) hf _).setFresh (a := ⟨b, 2, none⟩) hf _
theorem NodeAt.boxPut {w : World} {p : Nat} {iv cv cp : Value} {its : List Ent} {cps : List Value} (h : NodeAt w p iv cv cp its cps) {b : Nat} (h0 : nodeF p iv cv b = 0) (e : Ent) : NodeAt (boxPut w b e) p iv cv cp its cps :=
  h.same (fun k hk => boxPut_other e (fun e => by subst e; omega))
theorem Pool.boxPut {w : World} {c : Nat} {G : Nat → Nat} (h : Pool w c G) {b : Nat} (h0 : G b = 0) (e : Ent) : Pool (boxPut w b e) c G :=
  h.same (fun k hk => boxPut_other e (fun e => by subst e; omega))
theorem IsT.boxPut {w : World} {c h : Nat} {s : Sub} (H : IsT w c h s) {b : Nat} (h0 : s.F b = 0) (e : Ent) : IsT (boxPut w b e) c h s :=
  H.same (fun k hk => boxPut_other e (fun e => by subst e; omega))

/-- A block of old that the steps do not count is as it was. -/
theorem Stp.blk {A B : Nat → Nat} {w w' : World} (h : Stp A w w' B) {k : Nat} {o : Obj} (hk : w.heap[k]? = some o) (h0 : A k = 0) : w'.heap[k]? = some o :=
  (h.chg.same k (Array.getElem?_eq_some_iff.1 hk).1 h0).trans hk
theorem Stp.zero {A B : Nat → Nat} {w w' : World} (h : Stp A w w' B) {k : Nat} {o : Obj} (hk : w.heap[k]? = some o) (h0 : A k = 0) : B k = 0 := by
  have := h.le k (Array.getElem?_eq_some_iff.1 hk).1
  omega

/-- Draws ahead count for nothing. -/
theorem Stp.predrew {A B : Nat → Nat} {w w' : World} (h : Stp A w.drew w' B) : Stp A w w' B := ⟨⟨h.chg.os, h.chg.tape, h.chg.output, h.chg.size, h.chg.same⟩, h.le, h.uniq, h.lt⟩
theorem Stp.predrewN {A B : Nat → Nat} {w w' : World} {n : Nat} (h : Stp A (w.drewN n) w' B) : Stp A w w' B := ⟨⟨h.chg.os, h.chg.tape, h.chg.output, h.chg.size, h.chg.same⟩, h.le, h.uniq, h.lt⟩
/-- Blocks come behind. -/
theorem Stp.post {A B : Nat → Nat} {w w' w'' : World} (h : Stp A w w' B) (hc : Chg (fun _ => 0) w' w'') : Stp A w w'' B :=
  ⟨⟨hc.os.trans h.chg.os, hc.tape.trans h.chg.tape, hc.output.trans h.chg.output, Nat.le_trans h.chg.size hc.size, fun k hk h0 => (hc.same k (Nat.lt_of_lt_of_le hk h.chg.size) rfl).trans (h.chg.same k hk h0)⟩, h.le, h.uniq, fun k hk => Nat.lt_of_lt_of_le (h.lt k hk) hc.size⟩

end Go.Proofs.Qxb6603483a
