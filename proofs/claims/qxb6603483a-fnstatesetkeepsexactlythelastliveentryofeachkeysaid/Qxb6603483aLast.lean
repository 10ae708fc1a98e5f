/-
  A region that draws its order and ends with a store (number n, which waits for all the others): what is held of the world is held till that store alone. So a cell that the region loads and then stores may be among what is held.
-/
import Derived.Test.Qxb6603483aBase
import Derived.Deep.RegionHeld3
namespace Go.Proofs.Qxb6603483a
open Go.RowKit

section
variable {P : Program} {md : Region.Mode} {ops : Array Oper} {Q : Exit → Act → World → Prop} {S : World → Prop} {n : Nat}

/-- In whatever order, S holding behind every operation but number n. -/
def AnyX (P : Program) (md : Region.Mode) (ops : Array Oper) (Q : Exit → Act → World → Prop) (S : World → Prop) (n : Nat) : Nat → Array Bool → Act → World → Prop
  | 0, listed, a, w => Region.ready md ops listed = [] ∧ Q .normal a w
  | fuel + 1, listed, a, w => (Region.ready md ops listed = [] → Q .normal a w) ∧
      ∀ i ∈ Region.ready md ops listed, wpOp P ops Q i (fun a' w' => (i ≠ n → S w') ∧ AnyX P md ops Q S n fuel (listed.setIfInBounds i true) a' w') a w

theorem AnyX.any : ∀ (fuel : Nat) (listed : Array Bool) (a : Act) (w : World), AnyX P md ops Q S n fuel listed a w → wpAny P md ops Q fuel listed a w
  | 0, _, _, _, h => h
  | fuel + 1, _, _, _, h => ⟨h.1, fun i hi => wpOp_mono (fun a' w' k => AnyX.any fuel _ a' w' k.2) (h.2 i hi)⟩

/-- Number n waits for number i. -/
def waits (md : Region.Mode) (ops : Array Oper) (n i : Nat) : Bool :=
  match ops[n]? with
  | some o => o.after.any fun e => Region.binds md e && e.on == i
  | none => false

theorem waits_spec {i : Nat} (h : waits md ops n i = true) : ∃ o, ops[n]? = some o ∧ ∃ e ∈ o.after, Region.binds md e = true ∧ e.on = i := by
  unfold waits at h
  split at h
  · rename_i o ho
    obtain ⟨e, he, hb⟩ := Array.any_eq_true'.1 h
    simp only [Bool.and_eq_true, beq_iff_eq] at hb
    exact ⟨o, ho, e, he, hb.1, hb.2⟩
  · cases h

/-- An operation on which another waits is listed when that one may come up. -/
theorem not_both {i j : Nat} {o : Oper} {listed : Array Bool} (hi : i ∈ Region.ready md ops listed) (hj : j ∈ Region.ready md ops listed) (ho : ops[j]? = some o) : ∀ e ∈ o.after, Region.binds md e = true → e.on ≠ i := fun e he hb heq => by
  obtain ⟨_, o', ho', hall⟩ := mem_ready.1 hj
  rw [ho] at ho'
  cases ho'
  have h1 := hall e he hb
  have h0 := (mem_ready.1 hi).1
  rw [heq] at h1
  rcases Nat.lt_or_ge i listed.size with h' | h'
  · simp [h'] at h0 h1
    rw [h0] at h1
    cases h1
  · simp [Array.getElem?_eq_none h'] at h1

theorem AnyX.first {i : Nat} {oi : Oper} {v : Value} (hi : ops[i]? = some oi) (hsel : ∀ (j : Nat) (o : Oper) cs b, ops[j]? = some o → o.op ≠ .select cs b) (hQ : ∀ c a w, Q (.panic c) (a.put oi.dst v) w → Q (.panic c) a w) (hn : waits md ops n i = true) :
    ∀ (fuel : Nat) (listed : Array Bool) (a : Act) (w : World), (∀ j oj, ops[j]? = some oj → j ≠ i → listed.getD j true = false → (∀ e ∈ oj.after, Region.binds md e = true → e.on ≠ i) → oi.apart ops oj = true) →
      i ∈ Region.ready md ops listed → YieldsIf P ops S oi v a → S w → AnyX P md ops Q S n fuel (listed.setIfInBounds i true) (a.put oi.dst v) w → AnyX P md ops Q S n (fuel + 1) listed a w := by
  obtain ⟨on, hon, en, hen, hbn, hein⟩ := waits_spec hn
  intro fuel
  induction fuel with
  | zero =>
    intro listed a w _ hr hy hS H
    refine ⟨fun h => (by rw [h] at hr; cases hr), fun j hj => ?_⟩
    by_cases hji : j = i
    · rw [hji]; exact hy.wpOp hi hS ⟨fun _ => hS, H⟩
    · have k := ready_mono hj hji
      rw [H.1] at k
      cases k
  | succ fuel ih =>
    intro listed a w hfree hr hy hS H
    refine ⟨fun h => (by rw [h] at hr; cases hr), fun j hj => ?_⟩
    by_cases hji : j = i
    · rw [hji]; exact hy.wpOp hi hS ⟨fun _ => hS, H⟩
    · obtain ⟨hjun, oj, hoj, _⟩ := mem_ready.1 hj
      have hnot := not_both hr hj hoj
      have hjn : j ≠ n := fun e => by
        subst e
        rw [hon] at hoj
        cases hoj
        exact hnot en hen hbn hein
      have h2 := wpOp_putIf hoj (hfree j oj hoj hji hjun hnot) (fun cs b => hsel i oi cs b hi) (fun cs b => hsel j oj cs b hoj) hQ hy (H.2 j (ready_mono hj hji))
      refine wpOp_mono (fun a' w' h3 => ⟨fun _ => h3.2.1 hjn, ih (listed.setIfInBounds j true) a' w' (fun k ok hk hki hun hno => ?_) (ready_mono hr (Ne.symm hji)) h3.1 (h3.2.1 hjn) ?_⟩) h2
      · refine hfree k ok hk hki ?_ hno
        by_cases hjk : j = k
        · rw [← hjk]; exact hjun
        · rw [getD_set_ne true hjk] at hun; exact hun
      · rw [Array.setIfInBounds_comm _ _ hji]
        exact h3.2.2

/-- Number i is taken first; the frame is written out. -/
theorem takeX {i d : Nat} {oi : Oper} {v : Value} {fuel : Nat} {listed : Array Bool} {l : List Value} {df : List Deferred} {w : World} (hi : ops[i]? = some oi) (hd : oi.dst = some d)
    (hs : Region.noSelect ops = true) (hf : Region.free md ops listed i = true) (hr : (Region.ready md ops listed).contains i = true) (hn : waits md ops n i = true)
    (hQ : ∀ c a w, Q (.panic c) (a.put oi.dst v) w → Q (.panic c) a w) (hS : S w) (hy : YieldsIf P ops S oi v ⟨l.toArray, df⟩)
    (h : AnyX P md ops Q S n fuel (listed.setIfInBounds i true) ⟨(l.set d v).toArray, df⟩ w) : AnyX P md ops Q S n (fuel + 1) listed ⟨l.toArray, df⟩ w := by
  refine AnyX.first hi (Region.noSelect_spec hs) hQ hn fuel listed _ w (Region.free_spec hi hf) (by simpa using hr) hy hS ?_
  rw [hd]
  simp only [Act.put, List.setIfInBounds_toArray]
  exact h

/-- Number i alone may come up. -/
theorem stepX {i : Nat} {o : Oper} {fuel : Nat} {listed : Array Bool} {a : Act} {w : World} (hr : Region.ready md ops listed = [i]) (ho : ops[i]? = some o)
    (h : ∀ K' : Act → World → Prop, Shut (∀ a w, S w → (S w → AnyX P md ops Q S n fuel (listed.setIfInBounds i true) a w) → K' a w) → if Region.wanted o (yielded ops a.tmps) = true then Oper.wp P o a w K' Q else K' (a.put o.dst undef) w) :
    AnyX P md ops Q S n (fuel + 1) listed a w := by
  refine ⟨fun h0 => (by rw [hr] at h0; cases h0), fun j hj => ?_⟩
  rw [hr] at hj
  rw [List.mem_singleton.1 hj]
  exact wpOp_step ho (fun K' hK => h K' (fun a w hS hW => hK a w ⟨fun _ => hS, hW hS⟩))

/-- The last: number n. -/
theorem lastX {o : Oper} {fuel : Nat} {listed : Array Bool} {a : Act} {w : World} (hr : Region.ready md ops listed = [n]) (hd : Region.ready md ops (listed.setIfInBounds n true) = []) (ho : ops[n]? = some o)
    (h : ∀ K' : Act → World → Prop, Shut (∀ a w, Q .normal a w → K' a w) → if Region.wanted o (yielded ops a.tmps) = true then Oper.wp P o a w K' Q else K' (a.put o.dst undef) w) :
    AnyX P md ops Q S n (fuel + 1) listed a w := by
  refine ⟨fun h0 => (by rw [hr] at h0; cases h0), fun j hj => ?_⟩
  rw [hr] at hj
  rw [List.mem_singleton.1 hj]
  refine wpOp_step ho (fun K' hK => h K' (fun a w hQ => hK a w ⟨fun h => absurd rfl h, ?_⟩))
  cases fuel with
  | zero => exact ⟨hd, hQ⟩
  | succ fuel => exact ⟨fun _ => hQ, by rw [hd]; intro i hi; cases hi⟩

theorem startX (S : World → Prop) (n : Nat) {id : Nat} {a : Act} {w : World} (hm : P.follows .mixedOrders = true) (hS : S w.drew)
    (h : S w.drew → AnyX P .any ops Q S n ops.size (Array.replicate ops.size false) a w.drew) : (Code.region id ops true).wp P Q a w :=
  wp_region_any hm (AnyX.any _ _ _ _ (h hS))

end
end Go.Proofs.Qxb6603483a
