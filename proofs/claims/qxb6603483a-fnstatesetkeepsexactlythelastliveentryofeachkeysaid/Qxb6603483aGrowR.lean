/-
  growChildAndRemove: an item stolen from the right.
-/
import Derived.Test.Qxb6603483aGrowL
import Derived.Test.Qxb6603483aRem3
import Derived.Test.Qxb6603483aPoor
import Derived.Test.Qxb6603483aLast
namespace Go.Proofs.Qxb6603483a
open Go.RowKit
set_option linter.unusedSimpArgs false
attribute [local go_sem ↓] Go.wp_at_zero Go.wp_at_succ

theorem steal_kids_r {w : World} {c h n : Nat} {lsubs tsubs ss ls : List Sub} {a : Ent} {lits : List Ent} (H1 : KidsOK w c h tsubs n) (H2 : KidsOK w c h lsubs lits.length) (hs : tsubs = ls ++ ss) (h0 : h = 0 → ls = []) (h1 : 0 < h → ∃ t, ls = [t]) : KidsOK w c h (lsubs ++ ls) (lits ++ [a]).length := by
  cases h with
  | zero =>
    have H2 : lsubs = [] := H2
    rw [h0 rfl, H2]; rfl
  | succ h =>
    obtain ⟨u, hu⟩ := h1 (by omega)
    subst hu
    exact ⟨by have := H2.1; simp; omega, fun t ht => by
      rcases List.mem_append.1 ht with ht | ht
      · exact H2.2 t ht
      · exact H1.2 t (by rw [hs]; exact List.mem_append_left _ ht)⟩
theorem steal_weave_r {w : World} {c h : Nat} {lsubs ls : List Sub} {a : Ent} {lits : List Ent} (H2 : KidsOK w c h lsubs lits.length) (h0 : h = 0 → ls = []) (h1 : 0 < h → ∃ t, ls = [t]) : weave (lits ++ [a]) (lsubs ++ ls) = weave lits lsubs ++ a :: weave [] ls := by
  cases h with
  | zero =>
    have H2 : lsubs = [] := H2
    rw [h0 rfl, H2]; simp [weave, weave_nil]
  | succ h =>
    obtain ⟨u, hu⟩ := h1 (by omega)
    subst hu
    rw [weave_split lits lsubs a [] [u] H2.1]

set_option maxRecDepth 100000 in
set_option maxHeartbeats 8000000 in
theorem grow_right {h : Nat} {typ : Int} {P : List Ent → Ent → Prop} {w : World} {c p : Nat} {iv cv : Value} {A : List Ent} {a : Ent} {B : List Ent} {S : List Sub} {l t : Sub} {T : List Sub} {G : Nat → Nat} {e : Ent}
    (M : Mid w c h p iv cv A (a :: B) S l (t :: T) G) (hl : l.n ≤ 31) (ht : 32 ≤ t.n) (hpoor : Poor S) (hn : (A ++ a :: B).length ≤ 1000)
    (HK : ∀ (w' : World) (iv' cv' : Value) (x : Ent) (l' t' : Sub), Mid w' c h p iv' cv' A (x :: B) S l' (t' :: T) G → 32 ≤ l'.n → weave (A ++ x :: B) (S ++ l' :: t' :: T) = weave (A ++ a :: B) (S ++ l :: t :: T) → a ∈ l'.xs →
      Calls Try.prog 44 #[.pointer (some ⟨p, 0, none⟩), e.v, .int .i64 31, .int .i64 typ] w' fun r w'' => RemLeft w' w'' c (h + 1) p (A ++ a :: B).length (A ++ a :: B).length (midF p iv' cv' S l' (t' :: T) G) P r) :
    Calls Try.prog 57 #[.pointer (some ⟨p, 0, none⟩), .int .i64 (S.length : Int), e.v, .int .i64 31, .int .i64 typ] w fun r w' => RemLeft w w' c (h + 1) p (A ++ a :: B).length (A ++ a :: B).length (midF p iv cv S l (t :: T) G) P r := by
  obtain ⟨i0, hi0, hz0, hz1, hz2⟩ := info_parts info33
  obtain ⟨i1, hi1, hy0, hy1, hy2⟩ := info_parts info84
  obtain ⟨liv, lcv, lits, lsubs, tiv, tcv, tits, tsubs, Pr, hl1, ht1, hl2, ht2, hF⟩ := M.pair
  have hl31 := (M.kid l (by simp)).2.1
  have ht63 := (M.kid t (by simp)).2.2
  obtain ⟨x, ti, htx⟩ : ∃ x ti, tits = x :: ti := by
    cases tits with
    | nil => simp at ht1; omega
    | cons x ti => exact ⟨x, ti, rfl⟩
  subst htx
  obtain ⟨k, hk⟩ : ∃ k, k = S.length := ⟨_, rfl⟩
  rw [← hk]
  have hsl := Pr.sl
  -- shapes
  obtain ⟨m, hml⟩ : ∃ m, m = (kids S ++ ptr l.p :: ptr t.p :: kids T).length := ⟨_, rfl⟩
  have hml2 : m = k + (T.length + 2) := by rw [hml, List.length_append, kids_length, hk]; simp [kids]
  obtain ⟨gc, cc, hcv⟩ : ∃ gc cc, cv = .slice (some ⟨gc, 0, none⟩) m cc := by
    rcases Pr.tri.np.rc.form with ⟨_, h1⟩ | ⟨gc, cc, h1⟩
    · simp at h1
    · exact ⟨gc, cc, by rw [h1, hml]⟩
  subst hcv
  obtain ⟨n, hnl⟩ : ∃ n, n = (A ++ a :: B).length := ⟨_, rfl⟩
  obtain ⟨g, cap, hiv⟩ : ∃ g cap, iv = .slice (some ⟨g, 0, none⟩) n cap := by
    rcases Pr.tri.np.ri.form with ⟨_, h1⟩ | ⟨g, cap, h1⟩
    · simp at h1
    · exact ⟨g, cap, by rw [h1, hnl]⟩
  subst hiv
  obtain ⟨q, hq⟩ : ∃ q, q = (x :: ti).length := ⟨_, rfl⟩
  obtain ⟨ta, tc, htiv⟩ : ∃ a cap, tiv = .slice a q cap := by obtain ⟨a, cap, h1⟩ := Pr.tri.nt.iform; exact ⟨a, cap, by rw [h1, hq]⟩
  subst htiv
  have hkn : k < n := by rw [hnl, hk, hsl]; simp
  have hn2 : n ≤ 1000 := by omega
  have hq31 : 31 < q := by omega
  have hq31' : (31 : Int) < (q : Int) := by omega
  have hk0 : (0 : Int) ≤ (k : Int) := Int.natCast_nonneg _
  have hk1 : (k : Int) ≤ 1000 := by omega
  have hkn' : (k : Int) < (n : Int) := by omega
  have hwk : IntKind.i64.wrap ((k : Int) + 1) = (k : Int) + 1 := by rw [IntKind.wrap_i64]; omega
  have hix : ∀ w', (Instr.indexAt 104 (.slice (some ⟨gc, 0, none⟩) m cc) (.int .i64 ((k : Int) + 1))).run Try.prog w' = .ok (.pointer (some ⟨gc, k + 1, none⟩)) w' :=
    fun w' => by have := run_ix (P := Try.prog) 104 1 gc m cc (k + 1) ((k : Int) + 1) rfl (by omega) Try.underlying104 (fun _ => by kernel_rfl) w'; rw [Nat.mul_one] at this; exact this
  have hiy : ∀ w', (Instr.indexAt 102 (.slice (some ⟨g, 0, none⟩) n cap) (.int .i64 (k : Int))).run Try.prog w' = .ok (.pointer (some ⟨g, k * 3, none⟩)) w' :=
    fun w' => run_ix (P := Try.prog) 102 3 g n cap k (k : Int) rfl hkn Try.underlying102 (fun _ => by kernel_rfl) w'
  have hkat : (kids S ++ ptr l.p :: ptr t.p :: kids T)[k]? = some (ptr l.p) := by rw [hk, ← kids_length S, List.getElem?_append_right (Nat.le_refl _)]; simp
  have hkat1 : (kids S ++ ptr l.p :: ptr t.p :: kids T)[k + 1]? = some (ptr t.p) := by rw [hk, ← kids_length S, List.getElem?_append_right (by omega)]; simp
  have hak : (A ++ a :: B)[k]? = some a := by rw [hk, hsl, List.getElem?_append_right (Nat.le_refl _)]; simp
  obtain ⟨W, hW, ⟨hbox, hzero⟩, hchg⟩ : ∃ W, W = (w.alloc (Obj.cells #[Value.string e.key, Value.int IntKind.u64 e.ver, Value.slice e.va e.vn e.vc] 33)).alloc (Obj.cells #[Value.string { data := #[] }, Value.int IntKind.u64 0, Value.slice none 0 0] 33) ∧
      (W.heap[w.heap.size]? = some (.cells #[Value.string e.key, Value.int IntKind.u64 e.ver, Value.slice e.va e.vn e.vc] 33 (0, 0)) ∧
      W.heap[w.heap.size + 1]? = some (.cells #[Value.string { data := #[] }, Value.int IntKind.u64 0, Value.slice none 0 0] 33 (0, 0))) ∧ Chg0 w W :=
    ⟨_, rfl, two_boxes w _ _ _ _, ((Chg.refl _ w).alloc _).alloc _⟩
  have XW := Pr.tri.grew hchg
  have HB0 : Hid (∀ j, triF p (.slice (some ⟨g, 0, none⟩) n cap) (.slice (some ⟨gc, 0, none⟩) m cc) l.p liv lcv t.p (.slice ta q tc) tcv (w.heap.size + j) = 0) := fun j => Pr.tri.zero (by omega)
  have HB1 : Hid (∀ j, midF p (.slice (some ⟨g, 0, none⟩) n cap) (.slice (some ⟨gc, 0, none⟩) m cc) S l (t :: T) G (w.heap.size + j) = 0) := fun j => M.zero (by omega)
  obtain ⟨spc, hrc⟩ := XW.np.rc.blkOf
  have x0 : W.cell? ⟨gc, k + 1, none⟩ = some (.pointer (some ⟨t.p, 0, none⟩)) := ptr_at hrc hkat1
  have Hrc := hide hrc
  have c0 : W.cell? ⟨p, 0, none⟩ = some (.slice (some ⟨g, 0, none⟩) n cap) := cell_blk XW.np.blk 0
  have c1 : W.cell? ⟨p, 1, none⟩ = some (.slice (some ⟨gc, 0, none⟩) m cc) := cell_blk XW.np.blk 1
  have d0 : W.cell? ⟨t.p, 0, none⟩ = some (.slice ta q tc) := cell_blk XW.nt.blk 0
  have lc2 : W.cell? ⟨l.p, 2, none⟩ = some (.pointer (some ⟨c, 0, none⟩)) := cell_blk XW.nl.blk 2
  have Hpoor := hide hpoor
  have HM := hide (M.grew hchg)
  have hW' := hW.symm
  clear hW hrc hpoor
  have Hall := hide (And.intro hl (And.intro ht (And.intro hn (And.intro hl1 (And.intro ht1 (And.intro hl2 (And.intro ht2 (And.intro hF (And.intro hsl (And.intro hml (And.intro hml2 (And.intro hnl (And.intro hq (And.intro hkn (And.intro hkat (And.intro hkat1 (And.intro hak (And.intro hl31 (And.intro ht63 (And.intro hk hchg))))))))))))))))))))
  have HHK := hide HK
  clear hl ht hn hl1 ht1 hl2 ht2 hF hsl hml hml2 hnl hq hkn hkat hkat1 hak hl31 ht63 hk hchg HK M hn2 hq31
  unfold Ent.v
  go_enter Try.func57, Try.ntmps57
  go_upto_region 1 with (fail)
  clear hW'
  generalize hbb : w.heap.size = b at *
  have Hb := hide hbb
  clear hbb
  go_cut [38] (fun s38 wd => s38 = .bool false ∧ wd = W)
  case first =>
    rcases Hpoor.out with hS0 | ⟨S', u, hS', hu⟩
    · have hk00 : k = 0 := by rw [Hall.out.2.2.2.2.2.2.2.2.2.2.2.2.2.2.2.2.2.2.2.1, hS0]; rfl
      have hnk : ¬ (0 : Int) < (k : Int) := by omega
      clear hk00 hS0
      go_wp2
      go_meet
      case rel => exact ⟨rfl, rfl⟩
    · obtain ⟨j, hj⟩ : ∃ j, j = S'.length := ⟨_, rfl⟩
      have hkj : k = j + 1 := by rw [Hall.out.2.2.2.2.2.2.2.2.2.2.2.2.2.2.2.2.2.2.2.1, hS', hj]; simp
      have hpk : (0 : Int) < (k : Int) := by omega
      have hwj : IntKind.i64.wrap ((k : Int) - 1) = (j : Int) := by rw [IntKind.wrap_i64]; omega
      have hjat : (kids S ++ ptr l.p :: ptr t.p :: kids T)[j]? = some (ptr u.p) := by
        have hj2 : (kids S)[j]? = some (ptr u.p) := by rw [hS', kids_append, hj, ← kids_length S', List.getElem?_append_right (Nat.le_refl _)]; simp [kids]
        rw [List.getElem?_append_left (List.getElem?_eq_some_iff.1 hj2).1]; exact hj2
      have hixj : ∀ w', (Instr.indexAt 104 (.slice (some ⟨gc, 0, none⟩) m cc) (.int .i64 (j : Int))).run Try.prog w' = .ok (.pointer (some ⟨gc, j, none⟩)) w' :=
        fun w' => by have := run_ix (P := Try.prog) 104 1 gc m cc j (j : Int) rfl (by have := Hall.out.2.2.2.2.2.2.2.2.2.2.1; omega) Try.underlying104 (fun _ => by kernel_rfl) w'; rw [Nat.mul_one] at this; exact this
      have xj : W.cell? ⟨gc, j, none⟩ = some (.pointer (some ⟨u.p, 0, none⟩)) := ptr_at Hrc.out hjat
      obtain ⟨uiv, ucv, uits, ucps, hNu, hul, _, _, _⟩ := (HM.out.kid u (by rw [hS']; simp)).1.node
      obtain ⟨ua, uc, huiv⟩ := hNu.iform
      subst huiv
      rw [← hul] at hNu
      have du : W.cell? ⟨u.p, 0, none⟩ = some (.slice ua u.n uc) := cell_blk hNu.blk 0
      have hun : ¬ (31 : Int) < (u.n : Int) := by omega
      clear hS' hu hj hkj hjat hNu hul
      go_wp2
      go_meet
      case rel => exact ⟨rfl, rfl⟩
  case rest =>
    obtain ⟨rfl, hw0⟩ := hcut
    have hw1 := hw0.symm
    clear hw0
    subst hw1
    go_wp2_with (fail)
    have Hkat := hide (Hall.out.2.2.2.2.2.2.2.2.2.2.2.2.2.2.1)
    have Hkat1 := hide (Hall.out.2.2.2.2.2.2.2.2.2.2.2.2.2.2.2.1)
    have Hak := hide (Hall.out.2.2.2.2.2.2.2.2.2.2.2.2.2.2.2.2.1)
    refine (mutableChild (q := l.p) XW.np Hkat.out lc2).mono ?_
    rintro _ w1 ⟨rfl, hN1, hS1⟩
    unfold ptr
    obtain ⟨X1, hT1⟩ := XW.onP hN1 hS1
    clear hN1 hS1 x0 c1 d0 c0 lc2 XW
    have tc2 : w1.cell? ⟨t.p, 2, none⟩ = some (.pointer (some ⟨c, 0, none⟩)) := cell_blk X1.nt.blk 2
    go_wp2_with (fail)
    have hmc := mutableChild (i := k + 1) (q := t.p) X1.np Hkat1.out tc2
    rw [show ((k + 1 : Nat) : Int) = (k : Int) + 1 from rfl] at hmc
    refine hmc.mono ?_
    clear hmc
    rintro _ w2 ⟨rfl, hN2, hS2⟩
    unfold ptr
    obtain ⟨X2, hT2'⟩ := X1.onP hN2 hS2
    have hT2 := hT1.trans hT2'
    clear hN2 hS2 hT1 hT2' tc2 X1
    go_wp2_with (fail)
    refine (removeAt3 X2.nt 0 x rfl (by have h1 := Hall.out.2.2.2.2.1; have h2 := Hall.out.2.2.2.2.2.2.2.2.2.2.2.2.2.2.2.2.2.2.1; omega)).mono ?_
    rintro _ w3 ⟨rfl, tiv3, hN3, hS3⟩
    unfold Ent.v
    obtain ⟨X3, hT3'⟩ := X2.onT hN3 hS3
    have hT3 := hT2.trans hT3'
    rw [show (x :: ti).eraseIdx 0 = ti from rfl] at X3
    clear hN3 hS3 hT2 hT3' X2
    go_wp2
    obtain ⟨w4, hw4, hbx, hch4⟩ : ∃ w4, w4 = w3.alloc (Obj.cells #[Value.string x.key, Value.int IntKind.u64 x.ver, Value.slice x.va x.vn x.vc] 33) ∧
        w4.heap[w3.heap.size]? = some (.cells #[Value.string x.key, Value.int IntKind.u64 x.ver, Value.slice x.va x.vn x.vc] 33 (0, 0)) ∧ Chg0 w3 w4 := ⟨_, rfl, (MapKept.heap_alloc w3 _).1, (Chg.refl _ w3).alloc _⟩
    rw [← hw4]
    have X4 := X3.grew hch4
    have hT4 := hT3.post hch4
    have hd0 := X3.zero (Nat.le_refl w3.heap.size)
    clear hw4 hch4 X3 hT3
    generalize w3.heap.size = d at *
    obtain ⟨sp4, hrow4⟩ := X4.np.ri.blkOf
    obtain ⟨a0, a1, a2⟩ := ent_at hrow4 Hak.out
    have Hrow4 := hide hrow4
    clear hrow4
    have c0 : w4.cell? ⟨p, 0, none⟩ = some (.slice (some ⟨g, 0, none⟩) n cap) := cell_blk X4.np.blk 0
    have l0 : w4.cell? ⟨l.p, 0, none⟩ = some liv := cell_blk X4.nl.blk 0
    have ca : ∀ o, (w4.alloc o).cell? ⟨l.p, 0, none⟩ = some liv := fun o => (World.cell?_alloc_some w4 _ o (by rw [l0]; rfl)).trans l0
    have Hlb : Hid (lits.length ≤ 1000) := by have h1 := Hall.out.1; have h2 := Hall.out.2.2.2.1; show _ ≤ _; omega
    have hlb := Hlb.out
    have hNl := X4.nl
    have hNp := X4.np
    have hu4 := X4.uniq
    have hpp : ∀ k, 1 ≤ nodeF p (.slice (some ⟨g, 0, none⟩) n cap) (.slice (some ⟨gc, 0, none⟩) m cc) k → nodeF l.p liv lcv k = 0 := fun k hk => by have := hu4 k; omega
    have hp1 : nodeF l.p liv lcv p = 0 := hpp p (by unfold nodeF; rw [one_self]; omega)
    have hg1 : nodeF l.p liv lcv g = 0 := hpp g (by unfold nodeF; rw [ob_slice, one_self]; omega)
    have hne_p : some p ≠ liv.ownBlock := fun e => by unfold nodeF at hp1; rw [ob_of e.symm] at hp1; omega
    have hne_g : some g ≠ liv.ownBlock := fun e => by unfold nodeF at hg1; rw [ob_of e.symm] at hg1; omega
    have ma : ∀ (o : Obj) (x : Addr) (v : Value), w4.cell? x = some v → (w4.alloc o).drew.cell? x = some v := fun o x v hx => (World.cell?_alloc_some w4 x o (by rw [hx]; rfl)).trans hx
    clear hu4 hpp hp1 hg1
    refine startX (fun w' => w'.cell? ⟨l.p, 0, none⟩ = some liv ∧ w'.cell? ⟨p, 0, none⟩ = some (.slice (some ⟨g, 0, none⟩) n cap) ∧ w'.cell? ⟨g, k * 3, none⟩ = some (.string a.key) ∧ w'.cell? ⟨g, k * 3 + 1, none⟩ = some (.int .u64 a.ver) ∧ w'.cell? ⟨g, k * 3 + 2, none⟩ = some (.slice a.va a.vn a.vc)) 16 (by kernel_rfl) ?_ (fun hHeld => ?_)
    · exact ⟨l0, c0, a0, a1, a2⟩
    refine takeX (i := 0) (v := ?_) rfl rfl (by kernel_rfl) (by kernel_rfl) (by kernel_rfl) (by kernel_rfl) (fun _ _ _ h => h) (by assumption) (Or.inl ⟨by rfl, ?_⟩) ?_
    rotate_left
    · intro w hSw; (try dsimp only at hSw); go_simp <;> with_reducible rfl
    dsimp only [List.set_cons_zero, List.set_cons_succ]
    refine takeX (i := 1) (v := ?_) rfl rfl (by kernel_rfl) (by kernel_rfl) (by kernel_rfl) (by kernel_rfl) (fun _ _ _ h => h) (by assumption) (Or.inl ⟨by rfl, ?_⟩) ?_
    rotate_left
    · intro w hSw; (try dsimp only at hSw); go_simp <;> with_reducible rfl
    dsimp only [List.set_cons_zero, List.set_cons_succ]
    refine takeX (i := 2) (v := ?_) rfl rfl (by kernel_rfl) (by kernel_rfl) (by kernel_rfl) (by kernel_rfl) (fun _ _ _ h => h) (by assumption) (Or.inl ⟨by rfl, ?_⟩) ?_
    rotate_left
    · intro w hSw; (try dsimp only at hSw); go_simp <;> with_reducible rfl
    dsimp only [List.set_cons_zero, List.set_cons_succ]
    refine takeX (i := 3) (v := ?_) rfl rfl (by kernel_rfl) (by kernel_rfl) (by kernel_rfl) (by kernel_rfl) (fun _ _ _ h => h) (by assumption) (Or.inl ⟨by rfl, ?_⟩) ?_
    rotate_left
    · intro w hSw; (try dsimp only at hSw); go_simp <;> with_reducible rfl
    dsimp only [List.set_cons_zero, List.set_cons_succ]
    refine takeX (i := 4) (v := ?_) rfl rfl (by kernel_rfl) (by kernel_rfl) (by kernel_rfl) (by kernel_rfl) (fun _ _ _ h => h) (by assumption) (Or.inl ⟨by rfl, ?_⟩) ?_
    rotate_left
    · intro w hSw; (try dsimp only at hSw); go_simp <;> with_reducible rfl
    dsimp only [List.set_cons_zero, List.set_cons_succ]
    refine takeX (i := 5) (v := ?_) rfl rfl (by kernel_rfl) (by kernel_rfl) (by kernel_rfl) (by kernel_rfl) (fun _ _ _ h => h) (by assumption) (Or.inl ⟨by rfl, ?_⟩) ?_
    rotate_left
    · intro w hSw; (try dsimp only at hSw); go_simp <;> with_reducible rfl
    dsimp only [List.set_cons_zero, List.set_cons_succ]
    refine takeX (i := 6) (v := ?_) rfl rfl (by kernel_rfl) (by kernel_rfl) (by kernel_rfl) (by kernel_rfl) (fun _ _ _ h => h) (by assumption) (Or.inl ⟨by rfl, ?_⟩) ?_
    rotate_left
    · intro w hSw; (try dsimp only at hSw); go_simp <;> with_reducible rfl
    dsimp only [List.set_cons_zero, List.set_cons_succ]
    refine takeX (i := 7) (v := ?_) rfl rfl (by kernel_rfl) (by kernel_rfl) (by kernel_rfl) (by kernel_rfl) (fun _ _ _ h => h) (by assumption) (Or.inl ⟨by rfl, ?_⟩) ?_
    rotate_left
    · intro w hSw; (try dsimp only at hSw); go_simp <;> with_reducible rfl
    dsimp only [List.set_cons_zero, List.set_cons_succ]
    refine takeX (i := 8) (v := ?_) rfl rfl (by kernel_rfl) (by kernel_rfl) (by kernel_rfl) (by kernel_rfl) (fun _ _ _ h => h) (by assumption) (Or.inl ⟨by rfl, ?_⟩) ?_
    rotate_left
    · intro w hSw; (try dsimp only at hSw); go_simp <;> with_reducible rfl
    dsimp only [List.set_cons_zero, List.set_cons_succ]
    refine takeX (i := 9) (v := ?_) rfl rfl (by kernel_rfl) (by kernel_rfl) (by kernel_rfl) (by kernel_rfl) (fun _ _ _ h => h) (by assumption) (Or.inl ⟨by rfl, ?_⟩) ?_
    rotate_left
    · intro w hSw; (try dsimp only at hSw); go_simp <;> with_reducible rfl
    dsimp only [List.set_cons_zero, List.set_cons_succ]
    refine takeX (i := 10) (v := ?_) rfl rfl (by kernel_rfl) (by kernel_rfl) (by kernel_rfl) (by kernel_rfl) (fun _ _ _ h => h) (by assumption) (Or.inl ⟨by rfl, ?_⟩) ?_
    rotate_left
    · intro w hSw; (try dsimp only at hSw); go_simp <;> with_reducible rfl
    dsimp only [List.set_cons_zero, List.set_cons_succ]
    refine takeX (i := 11) (v := ?_) rfl rfl (by kernel_rfl) (by kernel_rfl) (by kernel_rfl) (by kernel_rfl) (fun _ _ _ h => h) (by assumption) (Or.inl ⟨by rfl, ?_⟩) ?_
    rotate_left
    · intro w hSw; (try dsimp only at hSw); go_simp <;> with_reducible rfl
    dsimp only [List.set_cons_zero, List.set_cons_succ]
    refine stepX (i := 12) (by kernel_rfl) rfl (fun K hK => ?_)
    go_simp
    clear hHeld
    refine hK.out _ _ ?_ (fun hHeld => ?_)
    · exact ⟨ma _ _ _ l0, ma _ _ _ c0, ma _ _ _ a0, ma _ _ _ a1, ma _ _ _ a2⟩
    clear hK K
    try simp only [Act.put, List.setIfInBounds_toArray, List.set_cons_zero, List.set_cons_succ]
    refine stepX (i := 13) (by kernel_rfl) rfl (fun K hK => ?_)
    (refine step_append_lies _ (by rfl) _ _ _ (by rfl) 0 33 i0 _ 3 48 Try.underlying102 hi0 hz0 hz1 hz2 rfl (by omega) liv lits.length (cellsOf lits) (by rfl) ((hNl.ri.alloc _).drew) ⟨w4.heap.size, 0, none⟩ 1 1 [.string a.key, .int .u64 a.ver, .slice a.va a.vn a.vc] (by rfl) (by rfl) (World.news_of_block (cs := #[.string a.key, .int .u64 a.ver, .slice a.va a.vn a.vc]) (t := 33) (fr := (0, 0)) (heap_alloc_new w4 _)) (by simp [Value.oneCell']) (by omega) (by unfold maxLen; omega) (by omega) (Nat.zero_le _) (w4.heap.size + 1) (by simp) ?_; intro g5 cap5 w5 hown5 hgrow hat hlt; have hX := ((Chg.refl (fun _ => 0) w4).alloc (Obj.cells #[.string a.key, .int .u64 a.ver, .slice a.va a.vn a.vc] 33)).drew; have hb1 := grown_blk hX hgrow hNl.blk hNl.ne_i; have c1 : w5.cell? ⟨l.p, 0, none⟩ = some liv := cell_blk hb1 0; have f1 : w5.frozen? ⟨l.p, 0, none⟩ = false := frozen_blk hb1 0; have hS5 := And.intro c1 (And.intro (cell_blk (grown_blk hX hgrow hNp.blk hne_p) 0) (ent_at (grown_blk hX hgrow Hrow4.out hne_g) Hak.out)))
    clear hHeld
    refine hK.out _ _ ?_ (fun hHeld => ?_)
    · exact hS5
    clear hK K
    try simp only [Act.put, List.setIfInBounds_toArray, List.set_cons_zero, List.set_cons_succ]
    refine stepX (i := 14) (by kernel_rfl) rfl (fun K hK => ?_)
    go_simp
    clear hHeld
    refine hK.out _ _ ?_ (fun hHeld => ?_)
    · exact hS5
    clear hK K
    try simp only [Act.put, List.setIfInBounds_toArray, List.set_cons_zero, List.set_cons_succ]
    refine stepX (i := 15) (by kernel_rfl) rfl (fun K hK => ?_)
    go_simp
    clear hHeld
    refine hK.out _ _ ?_ (fun hHeld => ?_)
    · exact hS5
    clear hK K
    try simp only [Act.put, List.setIfInBounds_toArray, List.set_cons_zero, List.set_cons_succ]
    refine lastX (by kernel_rfl) (by kernel_rfl) rfl (fun K hK => ?_)
    go_simp
    refine hK.out _ _ ?_
    clear hK K
    try simp only [Act.put, List.setIfInBounds_toArray, List.set_cons_zero, List.set_cons_succ]
    obtain ⟨hN5, hS5'⟩ := app3 (news := [a]) hNl hX hown5 (by simp) hgrow (hat.imp id (fun h => by omega))
    obtain ⟨X5, hT5'⟩ := X4.onL hN5 hS5'
    have hT5 := hT4.trans hT5'
    have hbx5 := hT5'.blk hbx hd0
    have hd5 := hT5'.zero hbx hd0
    clear hS5 hown5 hgrow hat hlt hX hb1 c1 f1 hHeld ma
    generalize hw5 : w5.setCell ⟨l.p, 0, none⟩ (.slice (some ⟨g5, 0, none⟩) (lits.length + 1) cap5) = wc at *
    clear hw5
    obtain ⟨liv5, hl5⟩ : ∃ liv5, liv5 = Value.slice (some ⟨g5, 0, none⟩) (lits.length + 1) cap5 := ⟨_, rfl⟩
    rw [← hl5] at X5 hT5 hd5
    clear hl5 hN5 hS5' hT4 hT5' X4 a0 a1 a2 c0 l0 ca Hrow4 hbx hd0 hNl hNp hne_p hne_g
    clear w5
    obtain ⟨sp5, hrow5⟩ := X5.np.ri.blkOf
    obtain ⟨a0, a1, a2⟩ := ent_at hrow5 Hak.out
    have g0 := frozen_blk hrow5 (k * 3)
    have g1 := frozen_blk hrow5 (k * 3 + 1)
    have g2 := frozen_blk hrow5 (k * 3 + 2)
    clear hrow5
    have c0 : wc.cell? ⟨p, 0, none⟩ = some (.slice (some ⟨g, 0, none⟩) n cap) := cell_blk X5.np.blk 0
    obtain ⟨d0, d1, d2⟩ := box_cells hbx5
    have hpg : p ≠ g := fun e => by have := X5.np.uniq p; rw [one_self, ob_slice, e, one_self] at this; omega
    have hdg : d ≠ g := fun e => by unfold triF nodeF at hd5; rw [ob_slice, e, one_self] at hd5; omega
    go_wp2
    go_region_held3 (fun w' => w'.cell? ⟨p, 0, none⟩ = some (.slice (some ⟨g, 0, none⟩) n cap) ∧ w'.cell? ⟨d, 0, none⟩ = some (.string x.key) ∧ w'.cell? ⟨d, 1, none⟩ = some (.int .u64 x.ver) ∧ w'.cell? ⟨d, 2, none⟩ = some (.slice x.va x.vn x.vc))
      (first | exact ⟨c0, d0, d1, d2⟩ | exact ⟨(kept3 hpg).trans c0, (kept3 hdg).trans d0, (kept3 hdg).trans d1, (kept3 hdg).trans d2⟩) (fail)
    obtain ⟨r1, r2, r3⟩ := store3 X5.np k (List.getElem?_eq_some_iff.1 Hak.out).1 x
    have eset : (A ++ a :: B).set k x = A ++ x :: B := by
      have h1 := Hall.out.2.2.2.2.2.2.2.2.1
      have h2 := Hall.out.2.2.2.2.2.2.2.2.2.2.2.2.2.2.2.2.2.2.2.1
      rw [h2, h1, List.set_append_right _ _ (Nat.le_refl _)]; simp
    rw [eset] at r1
    obtain ⟨X6, hT6'⟩ := X5.onP r1.drew r2.drew
    have hT6 := hT5.trans hT6'
    generalize (((wc.setCell ⟨g, k * 3, none⟩ (.string x.key)).setCell ⟨g, k * 3 + 1, none⟩ (.int .u64 x.ver)).setCell ⟨g, k * 3 + 2, none⟩ (.slice x.va x.vn x.vc)).drew = w6 at *
    clear r1 r2 r3 eset hT5 hT6' X5 a0 a1 a2 g0 g1 g2 c0 d0 d1 d2 hbx5 hd5
    -- the subtree that goes along
    obtain ⟨ls, ss, hsub, hkl, hls0, hls1, hwl⟩ := weave_first Pr.tk
    obtain ⟨lm, hlm⟩ : ∃ lm, lm = (kids tsubs).length := ⟨_, rfl⟩
    obtain ⟨lca, lcc, hlcv⟩ : ∃ a cap, tcv = .slice a lm cap := by obtain ⟨a, cap, h1⟩ := X6.nt.cform; exact ⟨a, cap, by rw [h1, hlm]⟩
    subst hlcv
    have htsb : (kids tsubs).length ≤ 1000 := by
      have h1 := Hall.out.2.2.2.2.1
      have h2 := Hall.out.2.2.2.2.2.2.2.2.2.2.2.2.2.2.2.2.2.2.1
      rw [kids_length]
      cases h with
      | zero => have := Pr.tk; have e : tsubs = [] := this; rw [e]; simp
      | succ h => have := Pr.tk.1; omega
    have hlsb : (kids lsubs).length ≤ 1000 := by
      have h1 := Hall.out.2.2.2.1
      have h2 := Hall.out.1
      rw [kids_length]
      cases h with
      | zero => have := Pr.lk; have e : lsubs = [] := this; rw [e]; simp
      | succ h => have := Pr.lk.1; omega
    have Htsb := hide htsb
    have Hlsb := hide hlsb
    have Hlm := hide hlm
    have c1 : w6.cell? ⟨t.p, 1, none⟩ = some (.slice lca lm lcc) := cell_blk X6.nt.blk 1
    clear hlm htsb hlsb
    have Hsub := hide hsub
    have Hkl := hide hkl
    have Hwl := hide hwl
    have Hls0 := hide hls0
    have Hls1 := hide hls1
    clear hsub hkl hwl hls0 hls1
    go_upto_if 146 with (fail)
    go_cut [] (fun wd => ∃ lcv' tcv', Tri wd c p (.slice (some ⟨g, 0, none⟩) n cap) (.slice (some ⟨gc, 0, none⟩) m cc) (A ++ x :: B) (kids S ++ ptr l.p :: ptr t.p :: kids T) l.p liv5 lcv' (lits ++ [a]) (kids (lsubs ++ ls)) t.p tiv3 tcv' ti (kids ss) ∧
      Stp (triF p (.slice (some ⟨g, 0, none⟩) n cap) (.slice (some ⟨gc, 0, none⟩) m cc) l.p liv lcv t.p (.slice ta q tc) (.slice lca lm lcc)) W wd (triF p (.slice (some ⟨g, 0, none⟩) n cap) (.slice (some ⟨gc, 0, none⟩) m cc) l.p liv5 lcv' t.p tiv3 tcv'))
    case first =>
     rcases Nat.eq_zero_or_pos h with h0 | h0
     · have hls := Hls0.out h0
       have hsub := Hsub.out
       have hl0 : tsubs = [] := by cases h0; exact Pr.tk
       have hlm0 : lm = 0 := by rw [Hlm.out, hl0]; rfl
       have hnl : ¬ (0 : Int) < (lm : Int) := by omega
       have hss : ss = [] := by rw [hl0] at hsub; simpa using (List.append_eq_nil_iff.1 hsub.symm).2
       have X7 := X6
       rw [hl0, ← hss] at X7
       have Hls := hide hls
       clear hls hsub hl0 hlm0 hss
       go_wp2
       go_meet
       case rel => exact ⟨_, _, by rw [Hls.out, List.append_nil]; exact X7, hT6⟩
     · obtain ⟨u, hu⟩ := Hls1.out h0
       have hsub := Hsub.out
       have hks : kids tsubs = ptr u.p :: kids ss := by rw [hsub, hu, kids_append]; rfl
       have hlp : (0 : Int) < (lm : Int) := by rw [Hlm.out, hks]; simp
       have X7 := X6
       have htsb := Htsb.out
       rw [hks] at X7 htsb
       have Htsb := hide htsb
       have hlsb := Hlsb.out
       have Hu := hide hu
       have Hone : Hid (∀ v ∈ (ptr u.p :: kids ss), v.oneCell' = true) := fun v hv => by { rcases List.mem_cons.1 hv with rfl | hv; { rfl }; { exact kids_one _ v hv } }
       have Hu0 : Hid ((ptr u.p :: kids ss)[0]? = some (ptr u.p)) := rfl
       have l0 : w6.cell? ⟨l.p, 1, none⟩ = some lcv := cell_blk X7.nl.blk 1
       clear hu hsub hks X6 htsb
       go_wp2
       clear Hall HHK HM HB0 HB1 hbox hzero hq31' hix hwk Hkat Hkat1 Hak Hrc Hpoor Hb Hsub Hkl Hwl Hls0 Hls1
       refine startX (fun w' => w'.cell? ⟨l.p, 1, none⟩ = some lcv) 13 (by kernel_rfl) ?_ (fun hHeld => ?_)
       · exact l0
       refine takeX (i := 0) (v := ?_) rfl rfl (by kernel_rfl) (by kernel_rfl) (by kernel_rfl) (by kernel_rfl) (fun _ _ _ h => h) (by assumption) (Or.inl ⟨by rfl, ?_⟩) ?_
       rotate_left
       · intro w hSw; (try dsimp only at hSw); go_simp <;> with_reducible rfl
       dsimp only [List.set_cons_zero, List.set_cons_succ]
       refine takeX (i := 1) (v := ?_) rfl rfl (by kernel_rfl) (by kernel_rfl) (by kernel_rfl) (by kernel_rfl) (fun _ _ _ h => h) (by assumption) (Or.inl ⟨by rfl, ?_⟩) ?_
       rotate_left
       · intro w hSw; (try dsimp only at hSw); go_simp <;> with_reducible rfl
       dsimp only [List.set_cons_zero, List.set_cons_succ]
       refine takeX (i := 2) (v := ?_) rfl rfl (by kernel_rfl) (by kernel_rfl) (by kernel_rfl) (by kernel_rfl) (fun _ _ _ h => h) (by assumption) (Or.inl ⟨by rfl, ?_⟩) ?_
       rotate_left
       · intro w hSw; (try dsimp only at hSw); go_simp <;> with_reducible rfl
       dsimp only [List.set_cons_zero, List.set_cons_succ]
       refine takeX (i := 3) (v := ?_) rfl rfl (by kernel_rfl) (by kernel_rfl) (by kernel_rfl) (by kernel_rfl) (fun _ _ _ h => h) (by assumption) (Or.inl ⟨by rfl, ?_⟩) ?_
       rotate_left
       · intro w hSw; (try dsimp only at hSw); go_simp <;> with_reducible rfl
       dsimp only [List.set_cons_zero, List.set_cons_succ]
       refine takeX (i := 4) (v := ?_) rfl rfl (by kernel_rfl) (by kernel_rfl) (by kernel_rfl) (by kernel_rfl) (fun _ _ _ h => h) (by assumption) (Or.inl ⟨by rfl, ?_⟩) ?_
       rotate_left
       · intro w hSw; (try dsimp only at hSw); go_simp <;> with_reducible rfl
       dsimp only [List.set_cons_zero, List.set_cons_succ]
       refine takeX (i := 5) (v := ?_) rfl rfl (by kernel_rfl) (by kernel_rfl) (by kernel_rfl) (by kernel_rfl) (fun _ _ _ h => h) (by assumption) (Or.inl ⟨by rfl, ?_⟩) ?_
       rotate_left
       · intro w hSw; (try dsimp only at hSw); go_simp <;> with_reducible rfl
       dsimp only [List.set_cons_zero, List.set_cons_succ]
       refine takeX (i := 6) (v := ?_) rfl rfl (by kernel_rfl) (by kernel_rfl) (by kernel_rfl) (by kernel_rfl) (fun _ _ _ h => h) (by assumption) (Or.inl ⟨by rfl, ?_⟩) ?_
       rotate_left
       · intro w hSw; (try dsimp only at hSw); go_simp <;> with_reducible rfl
       dsimp only [List.set_cons_zero, List.set_cons_succ]
       refine takeX (i := 7) (v := ?_) rfl rfl (by kernel_rfl) (by kernel_rfl) (by kernel_rfl) (by kernel_rfl) (fun _ _ _ h => h) (by assumption) (Or.inl ⟨by rfl, ?_⟩) ?_
       rotate_left
       · intro w hSw; (try dsimp only at hSw); go_simp <;> with_reducible rfl
       dsimp only [List.set_cons_zero, List.set_cons_succ]
       refine stepX (i := 8) (by kernel_rfl) rfl (fun K hK => ?_)
       (go_simp; go_at_call 63; refine (removeAt1 X7.nt.drew Hone.out 0 u.p Hu0.out (by have := Htsb.out; omega)).mono ?_; rintro _ w7 ⟨rfl, tcv7, hN7, hS7⟩; unfold ptr; have hNl7 := (X7.onT hN7 hS7.predrew).1.nl; have l7 : w7.cell? ⟨l.p, 1, none⟩ = some lcv := cell_blk hNl7.blk 1; have ma7 : ∀ o, (w7.alloc o).cell? ⟨l.p, 1, none⟩ = some lcv := fun o => (World.cell?_alloc_some w7 _ o (by rw [l7]; rfl)).trans l7; go_wp2_with (fail))
       clear hHeld
       refine hK.out _ _ ?_ (fun hHeld => ?_)
       · exact l7
       clear hK K
       try simp only [Act.put, List.setIfInBounds_toArray, List.set_cons_zero, List.set_cons_succ]
       refine stepX (i := 9) (by kernel_rfl) rfl (fun K hK => ?_)
       go_simp
       clear hHeld
       refine hK.out _ _ ?_ (fun hHeld => ?_)
       · exact ma7 _
       clear hK K
       try simp only [Act.put, List.setIfInBounds_toArray, List.set_cons_zero, List.set_cons_succ]
       refine stepX (i := 10) (by kernel_rfl) rfl (fun K hK => ?_)
       (refine step_append_lies _ (by rfl) _ _ _ (by rfl) 0 84 i1 _ 1 8 Try.underlying104 hi1 hy0 hy1 hy2 rfl (by omega) lcv (kids lsubs).length (kids lsubs) (by rfl) (hNl7.rc.alloc _) ⟨w7.heap.size, 0, none⟩ 1 1 [.pointer (some ⟨u.p, 0, none⟩)] (by rfl) (by rfl) (World.news_of_block (cs := #[.pointer (some ⟨u.p, 0, none⟩)]) (t := 84) (fr := (0, 0)) (heap_alloc_new w7 _)) (by simp [Value.oneCell']) (by omega) (by unfold maxLen; omega) (by omega) (Nat.zero_le _) (w7.heap.size + 1) (by simp) ?_; intro g8 cap8 w8 hown8 hgrow hat hlt; have hX := (Chg.refl (fun _ => 0) w7).alloc (Obj.cells #[.pointer (some ⟨u.p, 0, none⟩)] 84); have hb1 := grown_blk hX hgrow hNl7.blk hNl7.ne_c; have c1 : w8.cell? ⟨l.p, 1, none⟩ = some lcv := cell_blk hb1 1; have f1 : w8.frozen? ⟨l.p, 1, none⟩ = false := frozen_blk hb1 1)
       clear hHeld
       refine hK.out _ _ ?_ (fun hHeld => ?_)
       · exact c1
       clear hK K
       try simp only [Act.put, List.setIfInBounds_toArray, List.set_cons_zero, List.set_cons_succ]
       refine stepX (i := 11) (by kernel_rfl) rfl (fun K hK => ?_)
       go_simp
       clear hHeld
       refine hK.out _ _ ?_ (fun hHeld => ?_)
       · exact c1
       clear hK K
       try simp only [Act.put, List.setIfInBounds_toArray, List.set_cons_zero, List.set_cons_succ]
       refine stepX (i := 12) (by kernel_rfl) rfl (fun K hK => ?_)
       go_simp
       clear hHeld
       refine hK.out _ _ ?_ (fun hHeld => ?_)
       · exact c1
       clear hK K
       try simp only [Act.put, List.setIfInBounds_toArray, List.set_cons_zero, List.set_cons_succ]
       refine lastX (by kernel_rfl) (by kernel_rfl) rfl (fun K hK => ?_)
       go_simp
       refine hK.out _ _ ?_
       clear hK K
       try simp only [Act.put, List.setIfInBounds_toArray, List.set_cons_zero, List.set_cons_succ]
       go_wp2
       go_meet
       case rel =>
         have hat' : lcv.ownBlock = some g8 ∨ w7.heap.size ≤ g8 := hat.imp id (fun h => by omega)
         obtain ⟨r1, r2⟩ := app1 (news := [.pointer (some ⟨u.p, 0, none⟩)]) hNl7 hX hown8 (by simp) hgrow hat'
         obtain ⟨X8, hT8⟩ := X7.onT hN7 hS7.predrew
         obtain ⟨X9, hT9⟩ := X8.onL r1 r2
         rw [show (ptr u.p :: kids ss).eraseIdx 0 = kids ss from rfl] at X9
         exact ⟨_, _, by rw [Hu.out, kids_append]; exact X9, (hT6.trans hT8).trans hT9⟩
    case rest =>
      obtain ⟨lcv', tcv', X9, hT9⟩ := hcut
      have hall := Hall.out
      obtain ⟨hl, ht, hn, hl1, ht1, hl2, ht2, hF, hsl, hml, hml2, hnl, hq, hkn, hkat, hkat1, hak, hl31, ht63, hk, hchg⟩ := hall
      have PW := Pr.grew hchg
      have hb9 := hT9.blk hbox (HB0.out 0)
      obtain ⟨b0, b1, b2⟩ := box_cells hb9
      have hz0 : triF p (.slice (some ⟨g, 0, none⟩) n cap) (.slice (some ⟨gc, 0, none⟩) m cc) l.p liv lcv t.p (.slice ta q tc) (.slice lca lm lcc) (b + 1) + restF S lsubs tsubs T G (b + 1) = 0 := by rw [← hF]; exact HB1.out 1
      have hkl2 : KidsOK w c h ss ti.length := Hkl.out
      have hk2 : KidsOK w c h (lsubs ++ ls) (lits ++ [a]).length := steal_kids_r Pr.tk Pr.lk Hsub.out Hls0.out Hls1.out
      have hxs := steal_weave_r (a := a) (lits := lits) Pr.lk Hls0.out Hls1.out
      obtain ⟨M9, hS9⟩ := PW.shut X9 hT9 (hk2.grew hchg) (hkl2.grew hchg) (fun k => by rw [Hsub.out, sumF_append, sumF_append]; omega) (by simp; omega) (by simp at ht1; omega)
      have hw9 : weave (A ++ x :: B) (S ++ (⟨l.p, (lits ++ [a]).length, weave (lits ++ [a]) (lsubs ++ ls), opnF l.p liv5 lcv' (lsubs ++ ls)⟩ : Sub) :: (⟨t.p, ti.length, weave ti ss, opnF t.p tiv3 tcv' ss⟩ : Sub) :: T) = weave (A ++ a :: B) (S ++ l :: t :: T) := by
        rw [weave_at A S (x :: B) _ _ hsl, weave_at A S (a :: B) _ _ hsl]
        simp only [wtail, weave_cons]
        rw [ht2, Hwl.out, hxs, hl2]
        simp
      have HC := HHK.out wc _ _ x _ _ M9 (by simp; omega) hw9 (by rw [hxs]; simp)
      have hz9 := hS9.blk hzero hz0
      have hz := hS9.zero hzero hz0
      have hSw := (hS9.congr (fun k => (hF k).symm) (fun _ => rfl)).pre hchg
      have HSw := hide hSw
      have Hz := hide hz
      clear hl ht hn hl1 ht1 hl2 ht2 hF hsl hml hml2 hnl hq hkn hkat hkat1 hak hl31 ht63 hk hchg hz hSw hS9 hT9 X9 hk2 hkl2 hw9 hxs hz0 PW Hall HHK M9 X6 hT6 c1
      go_wp2_with (fail)
      refine HC.mono ?_
      clear HC
      rintro _ w10 ⟨out, ob, s', G', rfl, hp', H', hlo, hhi, hP', hPl', hS'⟩
      unfold Ent.v
      have hz10 := hS'.blk hz9 Hz.out
      have Hz10 := hide (hS'.zero hz9 Hz.out)
      have HS := hide (HSw.out.trans hS')
      have Hfin := hide (And.intro hp' (And.intro hlo (And.intro hhi hP')))
      obtain ⟨z0, z1, z2⟩ := box_cells hz10
      have y0 := frozen_blk hz10 0
      have y1 := frozen_blk hz10 1
      have y2 := frozen_blk hz10 2
      clear hp' hlo hhi hP' b0 b1 b2 hb9 hS'
      go_wp2
      have r0 := boxPut_at out hz10
      refine bodyPost_ret (v := .tuple #[out.v, .bool ob]) (by
        have r1 := cell_blk r0 0
        have r2 := cell_blk r0 1
        have r3 := cell_blk r0 2
        unfold boxPut at r1 r2 r3
        simp [results, Try.results57, go_sem, r1, r2, r3, Ent.v, ptr]) rfl ?_
      obtain ⟨hp', hlo, hhi, hP'⟩ := Hfin.out
      have hz11 : s'.F (b + 1) + G' (b + 1) = 0 := Hz10.out
      exact ⟨out, ob, s', G', rfl, hp', H'.boxPut (b := b + 1) (by omega) out, hlo, hhi, hP', hPl'.boxPut (b := b + 1) (by omega) out, HS.out.boxPut (b := b + 1) (by rw [Hb.out]; omega) out⟩

end Go.Proofs.Qxb6603483a
