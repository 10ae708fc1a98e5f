/-
  'x.children = append(x.children, y.children...)', whether there are any or none.
-/
import Derived.Test.Qxb6603483aMerge
import Derived.Test.Qxb6603483aIns1
namespace Go.Proofs.Qxb6603483a
open Go.RowKit
set_option linter.unusedSimpArgs false

/-- The children's slice stored anew as it is. -/
theorem same1 {w : World} {p : Nat} {iv cv cp : Value} {its : List Ent} {cps : List Value} (h : NodeAt w p iv cv cp its cps) : NodeAt (w.setCell ⟨p, 1, none⟩ cv) p iv cv cp its cps ∧ Stp (nodeF p iv cv) w (w.setCell ⟨p, 1, none⟩ cv) (nodeF p iv cv) := by
  have hu := h.uniq
  have hb : (w.setCell ⟨p, 1, none⟩ cv).heap[p]? = some (.cells #[iv, cv, cp] 106 (0, 0)) := by rw [heap_setCell_blk h.blk]; rfl
  have ho : ∀ k, k ≠ p → (w.setCell ⟨p, 1, none⟩ cv).heap[k]? = w.heap[k]? := fun k hk => Below.heap_setCell _ _ _ _ hk
  have hsz : (w.setCell ⟨p, 1, none⟩ cv).heap.size = w.heap.size := by simp [World.setCell]
  have hc : Chg (nodeF p iv cv) w (w.setCell ⟨p, 1, none⟩ cv) := (Chg.refl _ w).setCell (p := ⟨p, 1, none⟩) (fun _ => by show 1 ≤ nodeF p iv cv p; unfold nodeF; rw [one_self]; omega) _
  exact ⟨⟨hb, h.ri.same (fun k hk => ho k (fun e => by have := hu k; rw [e, one_self] at this; subst e; omega)), h.rc.same (fun k hk => ho k (fun e => by have := hu k; rw [e, one_self] at this; subst e; omega)), h.uniq⟩, hc, fun _ _ => Nat.le_refl _, h.fit, fun k hk => by rw [hsz]; exact h.lt hk⟩

/-- What append left: a row with both, or (nothing to append) all as it was. -/
def App1 (X w' : World) (cv : Value) (cps news : List Value) (v' : Value) : Prop :=
  (∃ g cap, v' = .slice (some ⟨g, 0, none⟩) (cps.length + news.length) cap ∧ w'.ownsRow 0 84 1 (.slice (some ⟨g, 0, none⟩) (cps.length + news.length) cap) (cps.length + news.length) (cps ++ news) ∧ X.grownBy w' cv.ownBlock ∧ (cv.ownBlock = some g ∨ X.heap.size ≤ g)) ∨
  (news = [] ∧ v' = cv ∧ w' = X)

theorem App1.blk {W X w' : World} {cv v' : Value} {cps news : List Value} (h : App1 X w' cv cps news v') (hX : Chg0 W X) {p : Nat} {o : Obj} (hp : W.heap[p]? = some o) (hne : some p ≠ cv.ownBlock) : w'.heap[p]? = some o := by
  rcases h with ⟨g, cap, _, _, hg, _⟩ | ⟨_, _, rfl⟩
  · exact grown_blk hX hg hp hne
  · exact hX.blk hp

theorem App1.node {W X w' : World} {p : Nat} {iv cv cp v' : Value} {its : List Ent} {cps news : List Value} (h : App1 X w' cv cps news v') (hN : NodeAt W p iv cv cp its cps) (hX : Chg0 W X) :
    NodeAt (w'.setCell ⟨p, 1, none⟩ v') p iv v' cp its (cps ++ news) ∧ Stp (nodeF p iv cv) W (w'.setCell ⟨p, 1, none⟩ v') (nodeF p iv v') := by
  rcases h with ⟨g, cap, rfl, hown, hg, hat⟩ | ⟨rfl, rfl, rfl⟩
  · exact app1 (news := news) hN hX hown rfl hg (hat.imp id (fun h => Nat.le_trans hX.size h))
  · obtain ⟨r1, r2⟩ := same1 (hX.node hN (fun _ _ => rfl))
    rw [List.append_nil]
    exact ⟨r1, r2.pre hX⟩

theorem step_append_any {w : World} {ops : Array Oper} {o : Oper} {a : Act} {K : Act → World → Prop} {Q : Exit → Act → World → Prop} {E : Prop} (hgd : o.guard = none) (s x : Operand)
    (ho : o.op = .call { callee := .builtin .append, args := #[s, x], argTypes := #[104, 104] })
    {cv tv : Value} {cps news : List Value} (hs : a.eval s = cv) (hx : a.eval x = tv) (hr : Row1 w cv cps) (hr2 : Row1 w tv news) (h1 : ∀ u ∈ news, u.oneCell' = true) (hb : cps.length + news.length ≤ 100000)
    (h : ∀ v' w', App1 w w' cv cps news v' → (∃ b c, v' = .slice b (cps.length + news.length) c) → K (a.put o.dst v') w') :
    if Region.wanted o (yielded ops a.tmps) = true then Oper.wp Try.prog o a w K Q else E := by
  obtain ⟨i1, hi1, hy0, hy1, hy2⟩ := info_parts info84
  rcases hr2.form with ⟨htv, hnil⟩ | ⟨tg, tc, htv⟩
  · subst hnil
    rcases hr.form with ⟨hcv, hc⟩ | ⟨g, cap, hcv⟩
    · exact step_append_zero hgd s x 104 ho 84 i1 Try.underlying104 hi1 none none 0 0 0 (Nat.le_refl _) (by rw [hs, hcv]) (by rw [hx, htv]) (by rw [← hcv]; exact h cv w (Or.inr ⟨rfl, rfl, rfl⟩) ⟨none, 0, by rw [hcv, hc]; rfl⟩)
    · have hle : cps.length ≤ cap := by subst hcv; obtain ⟨_, _, _, _, h4, _⟩ := hr.open'; exact h4
      exact step_append_zero hgd s x 104 ho 84 i1 Try.underlying104 hi1 _ none cps.length cap 0 hle (by rw [hs, hcv]) (by rw [hx, htv]) (by rw [← hcv]; exact h cv w (Or.inr ⟨rfl, rfl, rfl⟩) ⟨_, cap, by rw [hcv]; rfl⟩)
  · by_cases hn : news = []
    · subst hn
      rcases hr.form with ⟨hcv, hc⟩ | ⟨g, cap, hcv⟩
      · exact step_append_zero hgd s x 104 ho 84 i1 Try.underlying104 hi1 none _ 0 0 tc (Nat.le_refl _) (by rw [hs, hcv]) (by rw [hx, htv]; rfl) (by rw [← hcv]; exact h cv w (Or.inr ⟨rfl, rfl, rfl⟩) ⟨none, 0, by rw [hcv, hc]; rfl⟩)
      · have hle : cps.length ≤ cap := by subst hcv; obtain ⟨_, _, _, _, h4, _⟩ := hr.open'; exact h4
        exact step_append_zero hgd s x 104 ho 84 i1 Try.underlying104 hi1 _ _ cps.length cap tc hle (by rw [hs, hcv]) (by rw [hx, htv]; rfl) (by rw [← hcv]; exact h cv w (Or.inr ⟨rfl, rfl, rfl⟩) ⟨_, cap, by rw [hcv]; rfl⟩)
    · have hpos : 0 < news.length := List.length_pos_iff.2 hn
      subst htv
      obtain ⟨sp, hrow⟩ := hr2.blkOf
      exact step_append_lies w hgd s x 104 ho 0 84 i1 _ 1 8 Try.underlying104 hi1 hy0 hy1 hy2 rfl (by omega) cv cps.length cps hs hr ⟨tg, 0, none⟩ news.length tc news hx (by omega) (news_of_row hrow) h1 hpos (by unfold maxLen; omega) (by omega) (Nat.zero_le _) w.heap.size rfl
        (fun g cap w' hown hg hat _ => h _ w' (Or.inl ⟨g, cap, rfl, hown, hg, hat.imp id (fun e => by omega)⟩) ⟨_, _, rfl⟩)

end Go.Proofs.Qxb6603483a
