/-
  A region that draws its order and holds a call (number n): what is held of the world is held till that call alone. All that is taken first comes ahead of it, by a chain of waits.
-/
import Derived.Test.Qxb6603483aLast
namespace Go.Proofs.Qxb6603483a
open Go.RowKit

section
variable {P : Program} {md : Region.Mode} {ops : Array Oper} {Q : Exit → Act → World → Prop} {S : World → Prop} {n : Nat}

/-- What is listed has all listed on which it waits. -/
def Shutd (md : Region.Mode) (ops : Array Oper) (listed : Array Bool) : Prop := ∀ j o, ops[j]? = some o → listed.getD j false = true → ∀ e ∈ o.after, Region.binds md e = true → listed.getD e.on false = true
def shutB (md : Region.Mode) (ops : Array Oper) (listed : Array Bool) : Bool :=
  (List.range ops.size).all fun j => !(listed.getD j false) || (match ops[j]? with | some o => o.after.all (fun e => !(Region.binds md e) || listed.getD e.on false) | none => true)
theorem shutB_spec {listed : Array Bool} (h : shutB md ops listed = true) : Shutd md ops listed := fun j o ho hl e he hb => by
  have hj := (Array.getElem?_eq_some_iff.1 ho).1
  have h1 := (List.all_eq_true.1 h) j (List.mem_range.2 hj)
  simp only [hl, ho, Bool.not_true, Bool.false_or] at h1
  have h2 := Array.all_eq_true'.1 h1 e he
  simpa [hb] using h2

/-- Number j waits for number i, in so many steps. -/
def reach (md : Region.Mode) (ops : Array Oper) (i : Nat) : Nat → Nat → Bool
  | 0, j => waits md ops j i
  | f + 1, j => waits md ops j i || (List.range ops.size).any fun k => waits md ops j k && reach md ops i f k

theorem waits_listed {i j : Nat} {listed : Array Bool} (hc : Shutd md ops listed) (hl : listed.getD j false = true) (h : waits md ops j i = true) : listed.getD i false = true := by
  obtain ⟨o, ho, e, he, hb, hi⟩ := waits_spec h
  rw [← hi]
  exact hc j o ho hl e he hb
theorem reach_listed {i : Nat} {listed : Array Bool} (hc : Shutd md ops listed) : ∀ (f j : Nat), listed.getD j false = true → reach md ops i f j = true → listed.getD i false = true
  | 0, j, hl, h => waits_listed hc hl h
  | f + 1, j, hl, h => by
    unfold reach at h
    rcases (Bool.or_eq_true _ _).mp h with h | h
    · exact waits_listed hc hl h
    · obtain ⟨k, _, hk⟩ := List.any_eq_true.1 h
      have hk := (Bool.and_eq_true _ _).mp hk
      exact reach_listed hc f k (waits_listed hc hl hk.1) hk.2
theorem waits_ready {i j : Nat} {listed : Array Bool} (hj : j ∈ Region.ready md ops listed) (h : waits md ops j i = true) : listed.getD i false = true := by
  obtain ⟨o, ho, e, he, hb, hi⟩ := waits_spec h
  obtain ⟨_, o', ho', hall⟩ := mem_ready.1 hj
  rw [ho] at ho'
  cases ho'
  rw [← hi]
  exact hall e he hb
theorem reach_ready {i : Nat} {listed : Array Bool} (hc : Shutd md ops listed) {f j : Nat} (hj : j ∈ Region.ready md ops listed) (h : reach md ops i f j = true) : listed.getD i false = true := by
  cases f with
  | zero => exact waits_ready hj h
  | succ f =>
    unfold reach at h
    rcases (Bool.or_eq_true _ _).mp h with h | h
    · exact waits_ready hj h
    · obtain ⟨k, _, hk⟩ := List.any_eq_true.1 h
      have hk := (Bool.and_eq_true _ _).mp hk
      exact reach_listed hc f k (waits_ready hj hk.1) hk.2
theorem Shutd.set {listed : Array Bool} {j : Nat} (hc : Shutd md ops listed) (hj : j ∈ Region.ready md ops listed) : Shutd md ops (listed.setIfInBounds j true) := fun k o ho hl e he hb => by
  by_cases hjk : j = k
  · subst hjk
    obtain ⟨_, o', ho', hall⟩ := mem_ready.1 hj
    rw [ho] at ho'
    cases ho'
    exact getD_set_true (hall e he hb)
  · rw [getD_set_ne false hjk] at hl
    exact getD_set_true (hc k o ho hl e he hb)

/-- In whatever order, S holding behind every operation till number n has come. -/
def AnyZ (P : Program) (md : Region.Mode) (ops : Array Oper) (Q : Exit → Act → World → Prop) (S : World → Prop) (n : Nat) : Nat → Array Bool → Act → World → Prop
  | 0, listed, a, w => Region.ready md ops listed = [] ∧ Q .normal a w
  | fuel + 1, listed, a, w => (Region.ready md ops listed = [] → Q .normal a w) ∧
      ∀ i ∈ Region.ready md ops listed, wpOp P ops Q i (fun a' w' => ((listed.setIfInBounds i true).getD n false = false → S w') ∧ AnyZ P md ops Q S n fuel (listed.setIfInBounds i true) a' w') a w

theorem AnyZ.any : ∀ (fuel : Nat) (listed : Array Bool) (a : Act) (w : World), AnyZ P md ops Q S n fuel listed a w → wpAny P md ops Q fuel listed a w
  | 0, _, _, _, h => h
  | fuel + 1, _, _, _, h => ⟨h.1, fun i hi => wpOp_mono (fun a' w' k => AnyZ.any fuel _ a' w' k.2) (h.2 i hi)⟩
theorem AnyZ.of_any : ∀ (fuel : Nat) (listed : Array Bool) (a : Act) (w : World), listed.getD n false = true → wpAny P md ops Q fuel listed a w → AnyZ P md ops Q S n fuel listed a w
  | 0, _, _, _, _, h => h
  | fuel + 1, _, _, _, hl, h => ⟨h.1, fun i hi => wpOp_mono (fun a' w' k => ⟨fun h0 => (by rw [getD_set_true hl] at h0; cases h0), AnyZ.of_any fuel _ a' w' (getD_set_true hl) k⟩) (h.2 i hi)⟩

theorem AnyZ.first {i f : Nat} {oi : Oper} {v : Value} (hi : ops[i]? = some oi) (hsel : ∀ (j : Nat) (o : Oper) cs b, ops[j]? = some o → o.op ≠ .select cs b) (hQ : ∀ c a w, Q (.panic c) (a.put oi.dst v) w → Q (.panic c) a w) (hn : reach md ops i f n = true) (hne : i ≠ n) :
    ∀ (fuel : Nat) (listed : Array Bool) (a : Act) (w : World), Shutd md ops listed → listed.getD n false = false → (∀ j oj, ops[j]? = some oj → j ≠ i → listed.getD j true = false → (∀ e ∈ oj.after, Region.binds md e = true → e.on ≠ i) → oi.apart ops oj = true) →
      i ∈ Region.ready md ops listed → YieldsIf P ops S oi v a → S w → AnyZ P md ops Q S n fuel (listed.setIfInBounds i true) (a.put oi.dst v) w → AnyZ P md ops Q S n (fuel + 1) listed a w := by
  intro fuel
  induction fuel with
  | zero =>
    intro listed a w _ hnl _ hr hy hS H
    refine ⟨fun h => (by rw [h] at hr; cases hr), fun j hj => ?_⟩
    by_cases hji : j = i
    · rw [hji]; exact hy.wpOp hi hS ⟨fun _ => hS, H⟩
    · have k := ready_mono hj hji
      rw [H.1] at k
      cases k
  | succ fuel ih =>
    intro listed a w hsh hnl hfree hr hy hS H
    refine ⟨fun h => (by rw [h] at hr; cases hr), fun j hj => ?_⟩
    by_cases hji : j = i
    · rw [hji]; exact hy.wpOp hi hS ⟨fun _ => hS, H⟩
    · obtain ⟨hjun, oj, hoj, _⟩ := mem_ready.1 hj
      have hnot := not_both hr hj hoj
      have hjn : j ≠ n := fun e => by
        subst e
        have h1 := reach_ready hsh hj hn
        have h0 := (mem_ready.1 hr).1
        rcases Nat.lt_or_ge i listed.size with h' | h'
        · simp [h'] at h0 h1
          rw [h0] at h1
          cases h1
        · simp [Array.getElem?_eq_none h'] at h1
      have hnl' : (listed.setIfInBounds j true).getD n false = false := by rw [getD_set_ne false hjn]; exact hnl
      have h2 := wpOp_putIf hoj (hfree j oj hoj hji hjun hnot) (fun cs b => hsel i oi cs b hi) (fun cs b => hsel j oj cs b hoj) hQ hy (H.2 j (ready_mono hj hji))
      have hnl2 : ((listed.setIfInBounds i true).setIfInBounds j true).getD n false = false := by rw [getD_set_ne false hjn, getD_set_ne false hne]; exact hnl
      refine wpOp_mono (fun a' w' h3 => ⟨fun _ => h3.2.1 hnl2, ih (listed.setIfInBounds j true) a' w' (hsh.set hj) hnl' (fun k ok hk hki hun hno => ?_) (ready_mono hr (Ne.symm hji)) h3.1 (h3.2.1 hnl2) ?_⟩) h2
      · refine hfree k ok hk hki ?_ hno
        by_cases hjk : j = k
        · rw [← hjk]; exact hjun
        · rw [getD_set_ne true hjk] at hun; exact hun
      · rw [Array.setIfInBounds_comm _ _ hji]
        exact h3.2.2

/-- Number i is taken first; the frame is written out. -/
theorem takeZ {i d : Nat} {oi : Oper} {v : Value} {fuel : Nat} {listed : Array Bool} {l : List Value} {df : List Deferred} {w : World} (hi : ops[i]? = some oi) (hd : oi.dst = some d)
    (hs : Region.noSelect ops = true) (hf : Region.free md ops listed i = true) (hr : (Region.ready md ops listed).contains i = true) (hn : (reach md ops i 8 n && shutB md ops listed && !(listed.getD n false) && !(i == n)) = true)
    (hQ : ∀ c a w, Q (.panic c) (a.put oi.dst v) w → Q (.panic c) a w) (hS : S w) (hy : YieldsIf P ops S oi v ⟨l.toArray, df⟩)
    (h : AnyZ P md ops Q S n fuel (listed.setIfInBounds i true) ⟨(l.set d v).toArray, df⟩ w) : AnyZ P md ops Q S n (fuel + 1) listed ⟨l.toArray, df⟩ w := by
  simp only [Bool.and_eq_true, Bool.not_eq_true', beq_eq_false_iff_ne] at hn
  refine AnyZ.first hi (Region.noSelect_spec hs) hQ hn.1.1.1 hn.2 fuel listed _ w (shutB_spec hn.1.1.2) hn.1.2 (Region.free_spec hi hf) (by simpa using hr) hy hS ?_
  rw [hd]
  simp only [Act.put, List.setIfInBounds_toArray]
  exact h

/-- Number n alone may come up: the call. -/
theorem callZ {o : Oper} {fuel : Nat} {listed : Array Bool} {a : Act} {w : World} (hr : Region.ready md ops listed = [n]) (hl : (listed.setIfInBounds n true).getD n false = true) (ho : ops[n]? = some o)
    (h : ∀ K' : Act → World → Prop, Shut (∀ a w, wpAny P md ops Q fuel (listed.setIfInBounds n true) a w → K' a w) → if Region.wanted o (yielded ops a.tmps) = true then Oper.wp P o a w K' Q else K' (a.put o.dst undef) w) :
    AnyZ P md ops Q S n (fuel + 1) listed a w := by
  refine ⟨fun h0 => (by rw [hr] at h0; cases h0), fun j hj => ?_⟩
  rw [hr] at hj
  rw [List.mem_singleton.1 hj]
  exact wpOp_step ho (fun K' hK => h K' (fun a w hW => hK a w ⟨fun h0 => (by rw [hl] at h0; cases h0), AnyZ.of_any _ _ _ _ hl hW⟩))

/-- Behind it: what yields in whatever world is taken first. -/
theorem takeW {i d : Nat} {oi : Oper} {v : Value} {fuel : Nat} {listed : Array Bool} {l : List Value} {df : List Deferred} {w : World} (hi : ops[i]? = some oi) (hd : oi.dst = some d)
    (hs : Region.noSelect ops = true) (hf : Region.free md ops listed i = true) (hr : (Region.ready md ops listed).contains i = true)
    (hQ : ∀ c a w, Q (.panic c) (a.put oi.dst v) w → Q (.panic c) a w) (hy : Yields P ops oi v ⟨l.toArray, df⟩)
    (h : wpAny P md ops Q fuel (listed.setIfInBounds i true) ⟨(l.set d v).toArray, df⟩ w) : wpAny P md ops Q (fuel + 1) listed ⟨l.toArray, df⟩ w := by
  refine wpAny_take hi hs hf hr hQ hy ?_
  rw [hd]
  simp only [Act.put, List.setIfInBounds_toArray]
  exact h

theorem startZ (S : World → Prop) (n : Nat) {id : Nat} {a : Act} {w : World} (hm : P.follows .mixedOrders = true) (hS : S w.drew)
    (h : S w.drew → AnyZ P .any ops Q S n ops.size (Array.replicate ops.size false) a w.drew) : (Code.region id ops true).wp P Q a w :=
  wp_region_any hm (AnyZ.any _ _ _ _ (h hS))

end
end Go.Proofs.Qxb6603483a
