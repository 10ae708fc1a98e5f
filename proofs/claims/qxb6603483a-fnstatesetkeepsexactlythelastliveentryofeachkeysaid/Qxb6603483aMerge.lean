/-
  Two neighbours made one: the memory's side; append of nothing.
-/
import Derived.Test.Qxb6603483aGrowL
import Derived.Test.Qxb6603483aFree
namespace Go.Proofs.Qxb6603483a
open Go.RowKit
set_option linter.unusedSimpArgs false

theorem run_append_zero {P : Program} {w : World} (t ty e : TypeId) (i : TypeInfo) (ht : P.underlying t = some (.slice e)) (hi : P.info? e = some i) (x y : Option Addr) (n cap c : Nat) (h : n ≤ cap) :
    (Builtin.append_ #[t, t] ty #[.slice x n cap, .slice y 0 c]).run P w = .ok (.slice x n cap) w := by
  cases x <;> cases y <;> simp [Builtin.append_, run_underlying ht, sizeOf, typeInfo, hi, Builtin.lenOf, Builtin.firstCells, h, storeCells, loadCells, loadCellsFrom]

theorem step_append_zero {P : Program} {w : World} {ops : Array Oper} {o : Oper} {a : Act} {K : Act → World → Prop} {Q : Exit → Act → World → Prop} {E : Prop} (hgd : o.guard = none) (s x : Operand) (t : TypeId)
    (ho : o.op = .call { callee := .builtin .append, args := #[s, x], argTypes := #[t, t] })
    (e : TypeId) (i : TypeInfo) (ht : P.underlying t = some (.slice e)) (hi : P.info? e = some i)
    (sa xa : Option Addr) (n cap c : Nat) (hn : n ≤ cap) (hs : a.eval s = .slice sa n cap) (hx : a.eval x = .slice xa 0 c)
    (h : K (a.put o.dst (.slice sa n cap)) w) :
    if Region.wanted o (yielded ops a.tmps) = true then Oper.wp P o a w K Q else E := by
  have hw : Region.wanted o (yielded ops a.tmps) = true := by simp [Region.wanted, hgd]
  rw [if_pos hw]
  have hrun := run_append_zero (P := P) (w := w) t o.type e i ht hi sa xa n cap c hn
  unfold Oper.wp
  simp [execOp, ho, resolve, invoke, builtin, hs, hx, hrun, Result.andThen]
  exact h

theorem news_of_row {w : World} {B : Nat} {xs sp : List Value} {t : TypeId} {fr : Nat × Nat} (hb : w.heap[B]? = some (.cells (xs ++ sp).toArray t fr)) : ∀ j u, xs[j]? = some u → w.cell? ((⟨B, 0, none⟩ : Addr).add j) = some u := fun j u hu => by
  refine World.news_of_block hb j u ?_
  show (xs ++ sp)[j]? = some u
  rw [List.getElem?_append_left (List.getElem?_eq_some_iff.1 hu).1]
  exact hu

theorem merge_kids {w : World} {c h : Nat} {lsubs tsubs : List Sub} {a : Ent} {lits tits : List Ent} (H1 : KidsOK w c h lsubs lits.length) (H2 : KidsOK w c h tsubs tits.length) : KidsOK w c h (lsubs ++ tsubs) (lits ++ a :: tits).length := by
  cases h with
  | zero =>
    have H1 : lsubs = [] := H1
    have H2 : tsubs = [] := H2
    rw [H1, H2]; rfl
  | succ h =>
    exact ⟨by have := H1.1; have := H2.1; simp; omega, fun t ht => by
      rcases List.mem_append.1 ht with ht | ht
      · exact H1.2 t ht
      · exact H2.2 t ht⟩
theorem merge_weave {w : World} {c h : Nat} {lsubs tsubs : List Sub} {a : Ent} {lits tits : List Ent} (H1 : KidsOK w c h lsubs lits.length) (H2 : KidsOK w c h tsubs tits.length) : weave (lits ++ a :: tits) (lsubs ++ tsubs) = weave lits lsubs ++ a :: weave tits tsubs := by
  cases h with
  | zero =>
    have H1 : lsubs = [] := H1
    have H2 : tsubs = [] := H2
    rw [H1, H2]; simp [weave_nil]
  | succ h => rw [weave_split lits lsubs a tits tsubs H1.1]

theorem Pair.rest_lt {w : World} {c h p : Nat} {iv cv : Value} {A : List Ent} {a : Ent} {B : List Ent} {S : List Sub} {l : Nat} {liv lcv : Value} {lits : List Ent} {lsubs : List Sub} {t : Nat} {tiv tcv : Value} {tits : List Ent} {tsubs : List Sub} {T : List Sub} {G : Nat → Nat}
    (P : Pair w c h p iv cv A a B S l liv lcv lits lsubs t tiv tcv tits tsubs T G) : ∀ k, 1 ≤ restF S lsubs tsubs T G k → k < w.heap.size := fun k hk => by
  have hr : restF S lsubs tsubs T G k = sumF lsubs k + sumF tsubs k + sumF S k + sumF T k + G k := rfl
  rw [hr] at hk
  by_cases h1 : 1 ≤ sumF lsubs k
  · exact P.lk.lt h1
  by_cases h2 : 1 ≤ sumF tsubs k
  · exact P.tk.lt h2
  by_cases h3 : 1 ≤ sumF S k
  · exact kids_lt P.sk h3
  by_cases h4 : 1 ≤ sumF T k
  · exact kids_lt P.tk2 h4
  exact P.pool.lt (by omega)

/-- The pool is still there, apart from the three. -/
theorem Pair.pool' {w w' : World} {c h p : Nat} {iv cv iv' cv' : Value} {A : List Ent} {a : Ent} {B : List Ent} {S : List Sub} {l : Nat} {liv lcv liv' lcv' : Value} {lits : List Ent} {lsubs : List Sub} {t : Nat} {tiv tcv tiv' tcv' : Value} {tits : List Ent} {tsubs : List Sub} {T : List Sub} {G : Nat → Nat}
    (P : Pair w c h p iv cv A a B S l liv lcv lits lsubs t tiv tcv tits tsubs T G)
    (hS : Stp (triF p iv cv l liv lcv t tiv tcv) w w' (triF p iv' cv' l liv' lcv' t tiv' tcv')) :
    Pool w' c G ∧ ∀ k, G k + nodeF t tiv' tcv' k ≤ 1 := by
  have hu := P.uniq
  have hT0 := hS.frame (restF S lsubs tsubs T G) hu P.rest_lt
  refine ⟨P.pool.keep hS.chg (fun k => by have := hu k; unfold restF at this; omega), fun k => ?_⟩
  have h1 := hT0.uniq k
  unfold restF triF at h1
  omega

theorem Pair.merge {w w' w'' : World} {c h p : Nat} {iv cv iv' cv' : Value} {A : List Ent} {a : Ent} {B : List Ent} {S : List Sub} {l : Nat} {liv lcv liv' lcv' : Value} {lits : List Ent} {lsubs : List Sub} {t : Nat} {tiv tcv tiv' tcv' : Value} {tits tits' : List Ent} {tcps' : List Value} {tsubs : List Sub} {T : List Sub} {G G' : Nat → Nat}
    (P : Pair w c h p iv cv A a B S l liv lcv lits lsubs t tiv tcv tits tsubs T G)
    (X : Tri w' c p iv' cv' (A ++ B) (kids S ++ ptr l :: kids T) l liv' lcv' (lits ++ a :: tits) (kids (lsubs ++ tsubs)) t tiv' tcv' tits' tcps')
    (hS : Stp (triF p iv cv l liv lcv t tiv tcv) w w' (triF p iv' cv' l liv' lcv' t tiv' tcv'))
    (hn : (lits ++ a :: tits).length = 63)
    (hP : Pool w'' c G') (hS2 : Stp (fun k => G k + nodeF t tiv' tcv' k) w' w'' G') :
    Mid w'' c h p iv' cv' A B S ⟨l, (lits ++ a :: tits).length, weave (lits ++ a :: tits) (lsubs ++ tsubs), opnF l liv' lcv' (lsubs ++ tsubs)⟩ T G' ∧
      Stp (fun k => triF p iv cv l liv lcv t tiv tcv k + restF S lsubs tsubs T G k) w w'' (midF p iv' cv' S ⟨l, (lits ++ a :: tits).length, weave (lits ++ a :: tits) (lsubs ++ tsubs), opnF l liv' lcv' (lsubs ++ tsubs)⟩ T G') := by
  have hu := P.uniq
  have hT0 := hS.frame (restF S lsubs tsubs T G) hu P.rest_lt
  have hu0 : ∀ k, nodeF p iv' cv' k + nodeF l liv' lcv' k + nodeF t tiv' tcv' k + (sumF lsubs k + sumF tsubs k + sumF S k + sumF T k + G k) ≤ 1 := fun k => hT0.uniq k
  have hT1 := hS2.frame (fun k => nodeF p iv' cv' k + nodeF l liv' lcv' k + sumF lsubs k + sumF tsubs k + sumF S k + sumF T k) (fun k => by have := hu0 k; omega) (fun k hk => hT0.lt k (by show 1 ≤ nodeF p iv' cv' k + nodeF l liv' lcv' k + nodeF t tiv' tcv' k + (sumF lsubs k + sumF tsubs k + sumF S k + sumF T k + G k); omega))
  have hF : ∀ k, G' k + (nodeF p iv' cv' k + nodeF l liv' lcv' k + sumF lsubs k + sumF tsubs k + sumF S k + sumF T k) = midF p iv' cv' S ⟨l, (lits ++ a :: tits).length, weave (lits ++ a :: tits) (lsubs ++ tsubs), opnF l liv' lcv' (lsubs ++ tsubs)⟩ T G' k := fun k => by
    unfold midF
    rw [sum_mid]
    show _ = nodeF p iv' cv' k + (sumF S k + (nodeF l liv' lcv' k + sumF (lsubs ++ tsubs) k) + sumF T k) + G' k
    rw [sumF_append]
    omega
  have hT := hT0.trans ((hT1.congr (A' := fun k => triF p iv' cv' l liv' lcv' t tiv' tcv' k + restF S lsubs tsubs T G k) (fun k => by unfold triF restF; omega) hF))
  have hchg2 : ∀ (R : Nat → Nat), (∀ k, R k ≤ sumF lsubs k + sumF tsubs k + sumF S k + sumF T k) → ∀ k, R k + triF p iv cv l liv lcv t tiv tcv k ≤ 1 := fun R hR k => by have := hu k; have := hR k; unfold restF at *; omega
  have hchg3 : ∀ (R : Nat → Nat), (∀ k, R k ≤ nodeF p iv' cv' k + nodeF l liv' lcv' k + sumF lsubs k + sumF tsubs k + sumF S k + sumF T k) → ∀ k, R k + (G k + nodeF t tiv' tcv' k) ≤ 1 := fun R hR k => by have := hu0 k; have := hR k; omega
  have kS := kids_keep (kids_keep P.sk hS.chg (hchg2 _ (fun k => by omega))) hS2.chg (hchg3 (sumF S) (fun k => by omega))
  have kT := kids_keep (kids_keep P.tk2 hS.chg (hchg2 _ (fun k => by omega))) hS2.chg (hchg3 (sumF T) (fun k => by omega))
  have kL := ((merge_kids (a := a) P.lk P.tk).keep hS.chg (hchg2 _ (fun k => by rw [sumF_append]; omega))).keep hS2.chg (hchg3 (sumF (lsubs ++ tsubs)) (fun k => by rw [sumF_append]; omega))
  have nP := X.np.keep hS2.chg (hchg3 (nodeF p iv' cv') (fun k => by omega))
  have nL := X.nl.keep hS2.chg (hchg3 (nodeF l liv' lcv') (fun k => by omega))
  refine ⟨⟨P.sl, P.tl, ?_, fun u hm => ?_, hP, hT.uniq⟩, hT⟩
  · have e1 : kids (S ++ (⟨l, (lits ++ a :: tits).length, weave (lits ++ a :: tits) (lsubs ++ tsubs), opnF l liv' lcv' (lsubs ++ tsubs)⟩ : Sub) :: T) = kids S ++ ptr l :: kids T := by simp [kids]
    rw [e1]; exact nP
  · rcases List.mem_append.1 hm with hm | hm
    · exact kS u hm
    · rcases List.mem_cons.1 hm with rfl | hm
      · refine ⟨Opn.shut ⟨nL, kL, fun k => ?_⟩, by show 31 ≤ (lits ++ a :: tits).length; omega, by show (lits ++ a :: tits).length ≤ 63; omega⟩
        have := hu0 k; rw [sumF_append]; omega
      · exact kT u hm

end Go.Proofs.Qxb6603483a
