/-
  insert, whatever the height.
-/
import Derived.Test.Qxb6603483aInsHit
import Derived.Test.Qxb6603483aInsLeaf
import Derived.Test.Qxb6603483aInsIn
namespace Go.Proofs.Qxb6603483a
open Go.RowKit
set_option linter.unusedSimpArgs false

theorem set_mid {α : Type} (A : List α) (x e : α) (B : List α) : (A ++ x :: B).set A.length e = A ++ e :: B := by
  rw [List.set_append_right _ _ (Nat.le_refl _)]; simp

theorem insOK : ∀ h, InsOK h
  | 0 => fun w c s G e H hn hs hP hd => by
    obtain ⟨iv, cv, hN, h1, hF⟩ := H
    obtain ⟨f, hcow, hGc⟩ := hP.cow
    have hc0 : nodeF s.p iv cv c = 0 := by have := hd c; rw [hF] at this; omega
    have hd' : ∀ k, nodeF s.p iv cv k + G k ≤ 1 := fun k => by rw [← hF]; exact hd k
    rcases hit_or_miss hs e with ⟨k, hk⟩ | ⟨k, hk⟩
    · refine (insert_hit hN hcow hc0 hs (by omega) hk).mono ?_
      rintro r w' ⟨old, rfl, hN', hS'⟩
      obtain ⟨A, x, B, hx, hxe, rfl⟩ := hk
      have hT := hS'.frame G hd' (fun k hk => hP.lt hk)
      refine ⟨old, true, ⟨s.p, s.n, s.xs.set A.length e, nodeF s.p iv cv⟩, G, rfl, rfl, ⟨iv, cv, hN', ?_, fun _ => rfl⟩, Nat.le_refl _, Nat.le_succ _, ?_, hP.keep hS'.chg (fun k => by have := hd' k; omega), hT.congr (fun k => by rw [hF]) (fun _ => rfl)⟩
      · show s.n = (s.xs.set A.length e).length; rw [List.length_set]; exact h1
      · show s.xs.set A.length e = _
        rw [hx] at hs ⊢
        have h2 := List.pairwise_append.1 hs
        rw [set_mid, ins_over e x hxe A B (fun a ha => by rw [← hxe]; exact h2.2.2 a ha x List.mem_cons_self) (fun a ha => by rw [← hxe]; exact (List.pairwise_cons.1 h2.2.1).1 a ha)]
    · refine (insert_leaf hN hcow hc0 hs (by omega) hk).mono ?_
      rintro r w' ⟨rfl, iv', hN', hS'⟩
      obtain ⟨A, B, hx, hA, hB, rfl⟩ := hk
      have hT := hS'.frame G hd' (fun k hk => hP.lt hk)
      have e1 : s.xs.take A.length ++ e :: s.xs.drop A.length = A ++ e :: B := by rw [hx, List.take_left, List.drop_left]
      rw [e1] at hN'
      have hl : s.xs.length = A.length + B.length := by rw [hx, List.length_append]
      refine ⟨ent0, false, ⟨s.p, s.n + 1, A ++ e :: B, nodeF s.p iv' cv⟩, G, rfl, rfl, ⟨iv', cv, hN', ?_, fun _ => rfl⟩, Nat.le_succ _, Nat.le_refl _, ?_, hP.keep hS'.chg (fun k => by have := hd' k; omega), hT.congr (fun k => by rw [hF]) (fun _ => rfl)⟩
      · show s.n + 1 = (A ++ e :: B).length; simp; omega
      · show A ++ e :: B = _
        rw [hx, ins_at e A B hA hB]
  | h + 1 => fun w c s G e H hn hs hP hd => by
    obtain ⟨iv, cv, its, h1, hsub, hmid⟩ := H.mid hP hd
    obtain ⟨f, hcow, hGc⟩ := hP.cow
    rcases hit_or_miss (hs.sub hsub) e with ⟨k, hk⟩ | ⟨k, hk⟩
    · obtain ⟨A, x, B, hx, hxe, hkA⟩ := hk
      obtain ⟨S, t, T, M, hw, hF⟩ := hmid A (x :: B) hx
      have hc0 : nodeF s.p iv cv c = 0 := by have := M.uniq c; omega
      subst hx
      refine (insert_hit M.node hcow hc0 (hs.sub hsub) (by omega) ⟨A, x, B, rfl, hxe, hkA⟩).mono ?_
      rintro r w' ⟨old, rfl, hN', hS'⟩
      rw [hkA, set_mid] at hN'
      obtain ⟨M', hT⟩ := M.own (A' := A) (B' := e :: B) hN' hS' rfl (by simp)
      refine ⟨old, true, _, G, rfl, ?_, M'.whole, ?_, ?_, ?_, M'.pool, hT.congr (fun k => (hF k).symm) (fun k => ?_)⟩
      · rfl
      · show s.n ≤ (A ++ e :: B).length; simp at h1 ⊢; omega
      · show (A ++ e :: B).length ≤ s.n + 1; simp at h1 ⊢; omega
      · rw [← hw]; exact weave_set M.sl (by rw [hw]; exact hs) hxe
      · rfl
    · obtain ⟨A, B, hx, hA, hB, hkA⟩ := hk
      obtain ⟨S, t, T, M, hw, hF⟩ := hmid A B hx
      subst hx
      refine (insert_inner (insOK h) M (by omega) (by rw [hw]; exact hs) hA hB).mono ?_
      rintro r w' ⟨old, b, s', G', rfl, hp, H', hn1, hn2, hxs, hP', hS'⟩
      exact ⟨old, b, s', G', rfl, hp, H', by omega, by omega, by rw [hxs, hw], hP', hS'.congr (fun k => (hF k).symm) (fun _ => rfl)⟩

end Go.Proofs.Qxb6603483a
