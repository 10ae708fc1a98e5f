/-
  growChildAndRemove: an item stolen from the left.
-/
import Derived.Test.Qxb6603483aPair
import Derived.Test.Qxb6603483aRemBig
import Derived.Test.Qxb6603483aPop3
import Derived.Test.Qxb6603483aRem1
import Derived.Test.Qxb6603483aIns3
namespace Go.Proofs.Qxb6603483a
open Go.RowKit
set_option linter.unusedSimpArgs false
attribute [local go_sem ↓] Go.wp_at_zero Go.wp_at_succ

theorem KidsOK.grew {w w' : World} {c h n : Nat} {subs : List Sub} (H : KidsOK w c h subs n) (hc : Chg0 w w') : KidsOK w' c h subs n := by
  cases h with
  | zero => exact H
  | succ h => exact ⟨H.1, fun t ht => ⟨(H.2 t ht).1.same (fun k hk => hc.same k ((H.2 t ht).1.lt hk) rfl), (H.2 t ht).2⟩⟩
theorem Pair.grew {w w' : World} {c h p : Nat} {iv cv : Value} {A : List Ent} {a : Ent} {B : List Ent} {S : List Sub} {l : Nat} {liv lcv : Value} {lits : List Ent} {lsubs : List Sub} {t : Nat} {tiv tcv : Value} {tits : List Ent} {tsubs : List Sub} {T : List Sub} {G : Nat → Nat}
    (P : Pair w c h p iv cv A a B S l liv lcv lits lsubs t tiv tcv tits tsubs T G) (hc : Chg0 w w') : Pair w' c h p iv cv A a B S l liv lcv lits lsubs t tiv tcv tits tsubs T G :=
  ⟨P.sl, P.tl, P.tri.grew hc, P.lk.grew hc, P.tk.grew hc, fun u hu => ⟨(P.sk u hu).1.same (fun k hk => hc.same k ((P.sk u hu).1.lt hk) rfl), (P.sk u hu).2⟩, fun u hu => ⟨(P.tk2 u hu).1.same (fun k hk => hc.same k ((P.tk2 u hu).1.lt hk) rfl), (P.tk2 u hu).2⟩, P.pool.same (fun k hk => hc.same k (P.pool.lt hk) rfl), P.uniq⟩
theorem steal_kids {w : World} {c h n : Nat} {lsubs tsubs ss ls : List Sub} {a : Ent} {tits : List Ent} (H1 : KidsOK w c h lsubs n) (H2 : KidsOK w c h tsubs tits.length) (hs : lsubs = ss ++ ls) (h0 : h = 0 → ls = []) (h1 : 0 < h → ∃ t, ls = [t]) : KidsOK w c h (ls ++ tsubs) (a :: tits).length := by
  cases h with
  | zero =>
    have H2 : tsubs = [] := H2
    rw [h0 rfl, H2]; rfl
  | succ h =>
    obtain ⟨u, hu⟩ := h1 (by omega)
    subst hu
    exact ⟨by have := H2.1; simp; omega, fun t ht => by
      rcases List.mem_append.1 ht with ht | ht
      · exact H1.2 t (by rw [hs]; exact List.mem_append_right _ ht)
      · exact H2.2 t ht⟩
theorem steal_weave {w : World} {c h : Nat} {tsubs ls : List Sub} {a : Ent} {tits : List Ent} (H2 : KidsOK w c h tsubs tits.length) (h0 : h = 0 → ls = []) (h1 : 0 < h → ∃ t, ls = [t]) : weave (a :: tits) (ls ++ tsubs) = weave [] ls ++ a :: weave tits tsubs := by
  cases h with
  | zero =>
    have H2 : tsubs = [] := H2
    rw [h0 rfl, H2]; simp [weave]
  | succ h =>
    obtain ⟨u, hu⟩ := h1 (by omega)
    subst hu
    simp [weave]

set_option maxRecDepth 100000 in
set_option maxHeartbeats 8000000 in
theorem grow_left {h : Nat} {typ : Int} {P : List Ent → Ent → Prop} {w : World} {c p : Nat} {iv cv : Value} {A : List Ent} {a : Ent} {B : List Ent} {S : List Sub} {l t : Sub} {T : List Sub} {G : Nat → Nat} {e : Ent}
    (M : Mid w c h p iv cv A (a :: B) S l (t :: T) G) (hl : 32 ≤ l.n) (ht : t.n ≤ 31) (hn : (A ++ a :: B).length ≤ 1000)
    (HK : ∀ (w' : World) (iv' cv' : Value) (x : Ent) (l' t' : Sub), Mid w' c h p iv' cv' A (x :: B) S l' (t' :: T) G → 32 ≤ t'.n → weave (A ++ x :: B) (S ++ l' :: t' :: T) = weave (A ++ a :: B) (S ++ l :: t :: T) → a ∈ t'.xs →
      Calls Try.prog 44 #[.pointer (some ⟨p, 0, none⟩), e.v, .int .i64 31, .int .i64 typ] w' fun r w'' => RemLeft w' w'' c (h + 1) p (A ++ a :: B).length (A ++ a :: B).length (midF p iv' cv' S l' (t' :: T) G) P r) :
    Calls Try.prog 57 #[.pointer (some ⟨p, 0, none⟩), .int .i64 ((S.length : Int) + 1), e.v, .int .i64 31, .int .i64 typ] w fun r w' => RemLeft w w' c (h + 1) p (A ++ a :: B).length (A ++ a :: B).length (midF p iv cv S l (t :: T) G) P r := by
  obtain ⟨liv, lcv, lits, lsubs, tiv, tcv, tits, tsubs, Pr, hl1, ht1, hl2, ht2, hF⟩ := M.pair
  have hl63 := (M.kid l (by simp)).2.2
  have ht31 := (M.kid t (by simp)).2.1
  obtain ⟨li, x, hlx⟩ : ∃ li x, lits = li ++ [x] := by
    rcases List.eq_nil_or_concat lits with h0 | ⟨li, x, h0⟩
    · rw [h0] at hl1; simp at hl1; omega
    · exact ⟨li, x, by rw [h0, List.concat_eq_append]⟩
  subst hlx
  obtain ⟨k, hk⟩ : ∃ k, k = S.length := ⟨_, rfl⟩
  rw [← hk]
  have hsl := Pr.sl
  -- shapes
  obtain ⟨m, hml⟩ : ∃ m, m = (kids S ++ ptr l.p :: ptr t.p :: kids T).length := ⟨_, rfl⟩
  have hml2 : m = k + (T.length + 2) := by rw [hml, List.length_append, kids_length, hk]; simp [kids]
  obtain ⟨gc, cc, hcv⟩ : ∃ gc cc, cv = .slice (some ⟨gc, 0, none⟩) m cc := by
    rcases Pr.tri.np.rc.form with ⟨_, h1⟩ | ⟨gc, cc, h1⟩
    · simp at h1
    · exact ⟨gc, cc, by rw [h1, hml]⟩
  subst hcv
  obtain ⟨n, hnl⟩ : ∃ n, n = (A ++ a :: B).length := ⟨_, rfl⟩
  obtain ⟨g, cap, hiv⟩ : ∃ g cap, iv = .slice (some ⟨g, 0, none⟩) n cap := by
    rcases Pr.tri.np.ri.form with ⟨_, h1⟩ | ⟨g, cap, h1⟩
    · simp at h1
    · exact ⟨g, cap, by rw [h1, hnl]⟩
  subst hiv
  obtain ⟨q, hq⟩ : ∃ q, q = (li ++ [x]).length := ⟨_, rfl⟩
  obtain ⟨la, lc, hliv⟩ : ∃ a cap, liv = .slice a q cap := by obtain ⟨a, cap, h1⟩ := Pr.tri.nl.iform; exact ⟨a, cap, by rw [h1, hq]⟩
  subst hliv
  have hkn : k < n := by rw [hnl, hk, hsl]; simp
  have hn2 : n ≤ 1000 := by omega
  have hq31 : 31 < q := by omega
  have hq31' : (31 : Int) < (q : Int) := by omega
  have hk0 : (0 : Int) ≤ (k : Int) := Int.natCast_nonneg _
  have hk1 : (k : Int) ≤ 1000 := by omega
  have hkp : (0 : Int) < (k : Int) + 1 := by omega
  have hwk : IntKind.i64.wrap (k : Int) = (k : Int) := by rw [IntKind.wrap_i64]; omega
  have hix : ∀ w', (Instr.indexAt 104 (.slice (some ⟨gc, 0, none⟩) m cc) (.int .i64 (k : Int))).run Try.prog w' = .ok (.pointer (some ⟨gc, k, none⟩)) w' :=
    fun w' => by have := run_ix (P := Try.prog) 104 1 gc m cc k (k : Int) rfl (by omega) Try.underlying104 (fun _ => by kernel_rfl) w'; rw [Nat.mul_one] at this; exact this
  have hiy : ∀ w', (Instr.indexAt 102 (.slice (some ⟨g, 0, none⟩) n cap) (.int .i64 (k : Int))).run Try.prog w' = .ok (.pointer (some ⟨g, k * 3, none⟩)) w' :=
    fun w' => run_ix (P := Try.prog) 102 3 g n cap k (k : Int) rfl hkn Try.underlying102 (fun _ => by kernel_rfl) w'
  have hkat : (kids S ++ ptr l.p :: ptr t.p :: kids T)[k]? = some (ptr l.p) := by rw [hk, ← kids_length S, List.getElem?_append_right (Nat.le_refl _)]; simp
  have hkat1 : (kids S ++ ptr l.p :: ptr t.p :: kids T)[k + 1]? = some (ptr t.p) := by rw [hk, ← kids_length S, List.getElem?_append_right (by omega)]; simp
  have hak : (A ++ a :: B)[k]? = some a := by rw [hk, hsl, List.getElem?_append_right (Nat.le_refl _)]; simp
  obtain ⟨W, hW, ⟨hbox, hzero⟩, hchg⟩ : ∃ W, W = (w.alloc (Obj.cells #[Value.string e.key, Value.int IntKind.u64 e.ver, Value.slice e.va e.vn e.vc] 33)).alloc (Obj.cells #[Value.string { data := #[] }, Value.int IntKind.u64 0, Value.slice none 0 0] 33) ∧
      (W.heap[w.heap.size]? = some (.cells #[Value.string e.key, Value.int IntKind.u64 e.ver, Value.slice e.va e.vn e.vc] 33 (0, 0)) ∧
      W.heap[w.heap.size + 1]? = some (.cells #[Value.string { data := #[] }, Value.int IntKind.u64 0, Value.slice none 0 0] 33 (0, 0))) ∧ Chg0 w W :=
    ⟨_, rfl, two_boxes w _ _ _ _, ((Chg.refl _ w).alloc _).alloc _⟩
  have XW := Pr.tri.grew hchg
  have HB0 : Hid (∀ j, triF p (.slice (some ⟨g, 0, none⟩) n cap) (.slice (some ⟨gc, 0, none⟩) m cc) l.p (.slice la q lc) lcv t.p tiv tcv (w.heap.size + j) = 0) := fun j => Pr.tri.zero (by omega)
  have HB1 : Hid (∀ j, midF p (.slice (some ⟨g, 0, none⟩) n cap) (.slice (some ⟨gc, 0, none⟩) m cc) S l (t :: T) G (w.heap.size + j) = 0) := fun j => M.zero (by omega)
  obtain ⟨spc, hrc⟩ := XW.np.rc.blkOf
  have x0 : W.cell? ⟨gc, k, none⟩ = some (.pointer (some ⟨l.p, 0, none⟩)) := ptr_at hrc hkat
  have c1 : W.cell? ⟨p, 1, none⟩ = some (.slice (some ⟨gc, 0, none⟩) m cc) := cell_blk XW.np.blk 1
  have d0 : W.cell? ⟨l.p, 0, none⟩ = some (.slice la q lc) := cell_blk XW.nl.blk 0
  have tc2 : W.cell? ⟨t.p, 2, none⟩ = some (.pointer (some ⟨c, 0, none⟩)) := cell_blk XW.nt.blk 2
  have hW' := hW.symm
  clear hW hrc
  have Hall := hide (And.intro hl (And.intro ht (And.intro hn (And.intro hl1 (And.intro ht1 (And.intro hl2 (And.intro ht2 (And.intro hF (And.intro hsl (And.intro hml (And.intro hml2 (And.intro hnl (And.intro hq (And.intro hkn (And.intro hkat (And.intro hkat1 (And.intro hak (And.intro hl63 (And.intro ht31 (And.intro hk hchg))))))))))))))))))))
  have HHK := hide HK
  clear hl ht hn hl1 ht1 hl2 ht2 hF hsl hml hml2 hnl hq hkn hkat hkat1 hak hl63 ht31 hk hchg HK M hn2 hq31
  unfold Ent.v
  go_enter Try.func57, Try.ntmps57
  go_wp2_with (fail)
  clear hW'
  generalize hbb : w.heap.size = b at *
  have Hb := hide hbb
  clear hbb
  have hall := Hall.out
  obtain ⟨hl, ht, hn, hl1, ht1, hl2, ht2, hF, hsl, hml, hml2, hnl, hq, hkn, hkat, hkat1, hak, hl63, ht31, hk, hchg⟩ := hall
  have hmc := mutableChild (i := k + 1) (q := t.p) XW.np hkat1 tc2
  rw [show ((k + 1 : Nat) : Int) = (k : Int) + 1 from rfl] at hmc
  have Hkat := hide hkat
  have Hak := hide hak
  have Hq := hide hq
  have Hl1 := hide hl1
  have Hhn := hide hn
  clear hl ht hn hl1 ht1 hl2 ht2 hF hsl hml hml2 hnl hq hkn hkat hkat1 hak hl63 ht31 hk hchg
  refine hmc.mono ?_
  clear hmc
  rintro _ w1 ⟨rfl, hN1, hS1⟩
  unfold ptr
  obtain ⟨X1, hT1⟩ := XW.onP hN1 hS1
  clear hN1 hS1 x0 c1 d0 tc2 XW
  have lc2 : w1.cell? ⟨l.p, 2, none⟩ = some (.pointer (some ⟨c, 0, none⟩)) := cell_blk X1.nl.blk 2
  go_wp2_with (fail)
  refine (mutableChild (q := l.p) X1.np Hkat.out lc2).mono ?_
  rintro _ w2 ⟨rfl, hN2, hS2⟩
  unfold ptr
  obtain ⟨X2, hT2'⟩ := X1.onP hN2 hS2
  have hT2 := hT1.trans hT2'
  clear hN2 hS2 hT1 hT2' lc2 X1
  go_wp2_with (fail)
  refine (pop3 X2.nl (by have := Hq.out; rw [List.length_append] at this; have := Hall.out.2.2.2.1; have := Hall.out.2.2.2.2.2.2.2.2.2.2.2.2.2.2.2.2.2.1; simp at *; omega)).mono ?_
  rintro _ w3 ⟨rfl, liv3, hN3, hS3⟩
  unfold Ent.v
  obtain ⟨X3, hT3'⟩ := X2.onL hN3 hS3
  have hT3 := hT2.trans hT3'
  clear hN3 hS3 hT2 hT3' X2
  go_wp2
  obtain ⟨w4, hw4, hbx, hch4⟩ : ∃ w4, w4 = w3.alloc (Obj.cells #[Value.string x.key, Value.int IntKind.u64 x.ver, Value.slice x.va x.vn x.vc] 33) ∧
      w4.heap[w3.heap.size]? = some (.cells #[Value.string x.key, Value.int IntKind.u64 x.ver, Value.slice x.va x.vn x.vc] 33 (0, 0)) ∧ Chg0 w3 w4 := ⟨_, rfl, (MapKept.heap_alloc w3 _).1, (Chg.refl _ w3).alloc _⟩
  rw [← hw4]
  have X4 := X3.grew hch4
  have hT4 := hT3.post hch4
  have hd0 := X3.zero (Nat.le_refl w3.heap.size)
  clear hw4 hch4 X3 hT3
  generalize w3.heap.size = d at *
  obtain ⟨sp4, hrow4⟩ := X4.np.ri.blkOf
  have Hrow4 := hide hrow4
  obtain ⟨a0, a1, a2⟩ := ent_at hrow4 Hak.out
  clear hrow4
  have c0 : w4.cell? ⟨p, 0, none⟩ = some (.slice (some ⟨g, 0, none⟩) n cap) := cell_blk X4.np.blk 0
  have hu4 := X4.uniq
  have tp0 : nodeF t.p tiv tcv p = 0 := by have := hu4 p; have h1 : 1 ≤ nodeF p (.slice (some ⟨g, 0, none⟩) n cap) (.slice (some ⟨gc, 0, none⟩) m cc) p := by { unfold nodeF; rw [one_self]; omega }; omega
  have tg0 : nodeF t.p tiv tcv g = 0 := by have := hu4 g; have h1 : 1 ≤ nodeF p (.slice (some ⟨g, 0, none⟩) n cap) (.slice (some ⟨gc, 0, none⟩) m cc) g := by { unfold nodeF; rw [ob_slice, one_self]; omega }; omega
  have Htl : Hid (tits.length ≤ 1000) := by have h1 := Hall.out.2.1; have h2 := Hall.out.2.2.2.2.1; show _ ≤ _; omega
  go_region_held3 (fun w' => w'.cell? ⟨p, 0, none⟩ = some (.slice (some ⟨g, 0, none⟩) n cap) ∧ w'.cell? ⟨g, k * 3, none⟩ = some (.string a.key) ∧ w'.cell? ⟨g, k * 3 + 1, none⟩ = some (.int .u64 a.ver) ∧ w'.cell? ⟨g, k * 3 + 2, none⟩ = some (.slice a.va a.vn a.vc))
    (first | exact ⟨c0, a0, a1, a2⟩ | exact ⟨cell_blk (hS5.blk X4.np.blk tp0) 0, ent_at (hS5.blk Hrow4.out tg0) Hak.out⟩)
    ((go_at_call 50; refine (insertAt3 X4.nt.drew 0 (Nat.zero_le _) (by have := Htl.out; omega) a).mono ?_; rintro _ w5 ⟨rfl, tiv5, hN5, hS5⟩))
  obtain ⟨X5, hT5'⟩ := X4.onT hN5 hS5.predrew
  have hT5 := hT4.trans hT5'
  have hbx5 := hT5'.blk hbx hd0
  have hd5 := hT5'.zero hbx hd0
  rw [List.take_zero, List.drop_zero, List.nil_append] at X5
  clear hN5 hS5 hT4 hT5' X4 hu4 tp0 tg0 a0 a1 a2 c0 Hrow4 hbx hd0
  obtain ⟨sp5, hrow5⟩ := X5.np.ri.blkOf
  obtain ⟨a0, a1, a2⟩ := ent_at hrow5 Hak.out
  have g0 := frozen_blk hrow5 (k * 3)
  have g1 := frozen_blk hrow5 (k * 3 + 1)
  have g2 := frozen_blk hrow5 (k * 3 + 2)
  clear hrow5
  have c0 : w5.cell? ⟨p, 0, none⟩ = some (.slice (some ⟨g, 0, none⟩) n cap) := cell_blk X5.np.blk 0
  obtain ⟨d0, d1, d2⟩ := box_cells hbx5
  have hpg : p ≠ g := fun e => by have := X5.np.uniq p; rw [one_self, ob_slice, e, one_self] at this; omega
  have hdg : d ≠ g := fun e => by unfold triF nodeF at hd5; rw [ob_slice, e, one_self] at hd5; omega
  go_wp2
  go_region_held3 (fun w' => w'.cell? ⟨p, 0, none⟩ = some (.slice (some ⟨g, 0, none⟩) n cap) ∧ w'.cell? ⟨d, 0, none⟩ = some (.string x.key) ∧ w'.cell? ⟨d, 1, none⟩ = some (.int .u64 x.ver) ∧ w'.cell? ⟨d, 2, none⟩ = some (.slice x.va x.vn x.vc))
    (first | exact ⟨c0, d0, d1, d2⟩ | exact ⟨(kept3 hpg).trans c0, (kept3 hdg).trans d0, (kept3 hdg).trans d1, (kept3 hdg).trans d2⟩) (fail)
  obtain ⟨r1, r2, r3⟩ := store3 X5.np k (List.getElem?_eq_some_iff.1 Hak.out).1 x
  have eset : (A ++ a :: B).set k x = A ++ x :: B := by
    have h1 := Hall.out.2.2.2.2.2.2.2.2.1
    have h2 := Hall.out.2.2.2.2.2.2.2.2.2.2.2.2.2.2.2.2.2.2.2.1
    rw [h2, h1, List.set_append_right _ _ (Nat.le_refl _)]; simp
  rw [eset] at r1
  obtain ⟨X6, hT6'⟩ := X5.onP r1.drew r2.drew
  have hT6 := hT5.trans hT6'
  generalize (((w5.setCell ⟨g, k * 3, none⟩ (.string x.key)).setCell ⟨g, k * 3 + 1, none⟩ (.int .u64 x.ver)).setCell ⟨g, k * 3 + 2, none⟩ (.slice x.va x.vn x.vc)).drew = w6 at *
  clear r1 r2 r3 eset hT5 hT6' X5 a0 a1 a2 g0 g1 g2 c0 d0 d1 d2 hbx5 hd5
  -- the subtree that goes along
  obtain ⟨ss, ls, hsub, hkl, hls0, hls1, hwl⟩ := weave_last Pr.lk
  obtain ⟨lm, hlm⟩ : ∃ lm, lm = (kids lsubs).length := ⟨_, rfl⟩
  obtain ⟨lca, lcc, hlcv⟩ : ∃ a cap, lcv = .slice a lm cap := by obtain ⟨a, cap, h1⟩ := X6.nl.cform; exact ⟨a, cap, by rw [h1, hlm]⟩
  subst hlcv
  have hlmb : lm ≤ 1000 := by
    have h1 := Hall.out.2.2.2.1
    have h2 := Hall.out.2.2.2.2.2.2.2.2.2.2.2.2.2.2.2.2.2.1
    rw [hlm, kids_length]
    cases h with
    | zero => have := Pr.lk; have e : lsubs = [] := this; rw [e]; simp
    | succ h => have := Pr.lk.1; omega
  have htsb : (kids tsubs).length ≤ 1000 := by
    have h1 := Hall.out.2.2.2.2.1
    have h2 := Hall.out.2.1
    rw [kids_length]
    cases h with
    | zero => have := Pr.tk; have e : tsubs = [] := this; rw [e]; simp
    | succ h => have := Pr.tk.1; omega
  have Htsb := hide htsb
  have Hlmb := hide hlmb
  have Hlm := hide hlm
  have e1 : W.heap.size = W.heap.size := rfl
  have c1 : w6.cell? ⟨l.p, 1, none⟩ = some (.slice lca lm lcc) := cell_blk X6.nl.blk 1
  clear hlm hlmb htsb e1
  have Hsub := hide hsub
  have Hkl := hide hkl
  have Hwl := hide hwl
  have Hls0 := hide hls0
  have Hls1 := hide hls1
  clear hsub hkl hwl hls0 hls1
  go_upto_if 75 with (fail)
  go_cut [] (fun wd => ∃ lcv' tcv', Tri wd c p (.slice (some ⟨g, 0, none⟩) n cap) (.slice (some ⟨gc, 0, none⟩) m cc) (A ++ x :: B) (kids S ++ ptr l.p :: ptr t.p :: kids T) l.p liv3 lcv' li (kids ss) t.p tiv5 tcv' (a :: tits) (kids (ls ++ tsubs)) ∧
    Stp (triF p (.slice (some ⟨g, 0, none⟩) n cap) (.slice (some ⟨gc, 0, none⟩) m cc) l.p (.slice la q lc) (.slice lca lm lcc) t.p tiv tcv) W wd (triF p (.slice (some ⟨g, 0, none⟩) n cap) (.slice (some ⟨gc, 0, none⟩) m cc) l.p liv3 lcv' t.p tiv5 tcv'))
  case first =>
    rcases Nat.eq_zero_or_pos h with h0 | h0
    · have hls := Hls0.out h0
      have hsub := Hsub.out
      have hl0 : lsubs = [] := by cases h0; exact Pr.lk
      have hlm0 : lm = 0 := by rw [Hlm.out, hl0]; rfl
      have hnl : ¬ (0 : Int) < (lm : Int) := by omega
      have hss : ss = [] := by rw [hl0] at hsub; simpa using (List.append_eq_nil_iff.1 hsub.symm).1
      have X7 := X6
      rw [hl0, ← hss] at X7
      have Hls := hide hls
      clear hls hsub hl0 hlm0 hss
      go_wp2
      go_meet
      case rel => exact ⟨_, _, by rw [Hls.out, List.nil_append]; exact X7, hT6⟩
    · obtain ⟨u, hu⟩ := Hls1.out h0
      have hsub := Hsub.out
      have hks : kids lsubs = kids ss ++ [ptr u.p] := by rw [hsub, hu, kids_append]; rfl
      have hlp : (0 : Int) < (lm : Int) := by rw [Hlm.out, hks]; simp
      have X7 := X6
      rw [hks] at X7
      have hssb : Hid ((kids ss).length ≤ 1000) := by have h1 := Hlm.out; rw [hks] at h1; simp at h1; have := Hlmb.out; show _ ≤ _; omega
      have Hu := hide hu
      clear hu hsub hks X6
      go_wp2
      go_region_held3 (fun _ => True) (exact trivial)
        ((first
          | (go_at_call 62; refine (pop1 X7.nl.drew (by have := hssb.out; omega)).mono ?_; rintro _ w7 ⟨rfl, lcv7, hN7, hS7⟩; unfold ptr)
          | (go_at_call 61; refine (insertAt1 (X7.onL hN7 hS7.predrew).1.nt (kids_one _) 0 (Nat.zero_le _) (by have := Htsb.out; omega) u.p).mono ?_; rintro _ w8 ⟨rfl, tcv8, hN8, hS8⟩)))
      obtain ⟨X8, hT8⟩ := X7.onL hN7 hS7.predrew
      obtain ⟨X9, hT9⟩ := X8.onT hN8 hS8
      have hT10 := (hT6.trans hT8).trans hT9
      rw [List.take_zero, List.drop_zero, List.nil_append] at X9
      go_wp2
      go_meet
      case rel => exact ⟨_, _, by rw [Hu.out]; exact X9, hT10⟩
  case rest =>
    obtain ⟨lcv', tcv', X9, hT9⟩ := hcut
    have hall := Hall.out
    obtain ⟨hl, ht, hn, hl1, ht1, hl2, ht2, hF, hsl, hml, hml2, hnl, hq, hkn, hkat, hkat1, hak, hl63, ht31, hk, hchg⟩ := hall
    have PW := Pr.grew hchg
    have hb9 := hT9.blk hbox (HB0.out 0)
    obtain ⟨b0, b1, b2⟩ := box_cells hb9
    have hz0 : triF p (.slice (some ⟨g, 0, none⟩) n cap) (.slice (some ⟨gc, 0, none⟩) m cc) l.p (.slice la q lc) (.slice lca lm lcc) t.p tiv tcv (b + 1) + restF S lsubs tsubs T G (b + 1) = 0 := by rw [← hF]; exact HB1.out 1
    have hkl2 : KidsOK w c h ss li.length := Hkl.out
    have hk2 : KidsOK w c h (ls ++ tsubs) (a :: tits).length := steal_kids Pr.lk Pr.tk Hsub.out Hls0.out Hls1.out
    have hxs := steal_weave (a := a) (tits := tits) Pr.tk Hls0.out Hls1.out
    obtain ⟨M9, hS9⟩ := PW.shut X9 hT9 (hkl2.grew hchg) (hk2.grew hchg) (fun k => by rw [Hsub.out, sumF_append, sumF_append]; omega) (by rw [List.length_append] at hl1; simp at hl1; omega) (by simp; omega)
    have hw9 : weave (A ++ x :: B) (S ++ (⟨l.p, li.length, weave li ss, opnF l.p liv3 lcv' ss⟩ : Sub) :: (⟨t.p, (a :: tits).length, weave (a :: tits) (ls ++ tsubs), opnF t.p tiv5 tcv' (ls ++ tsubs)⟩ : Sub) :: T) = weave (A ++ a :: B) (S ++ l :: t :: T) := by
      rw [weave_at A S (x :: B) _ _ hsl, weave_at A S (a :: B) _ _ hsl]
      simp only [wtail, weave_cons]
      rw [hl2, Hwl.out, hxs, ht2]
      simp
    have HC := HHK.out wc _ _ x _ _ M9 (by simp; omega) hw9 (by rw [hxs]; simp)
    have hz9 := hS9.blk hzero hz0
    have hz := hS9.zero hzero hz0
    have hSw := (hS9.congr (fun k => (hF k).symm) (fun _ => rfl)).pre hchg
    have HSw := hide hSw
    have Hz := hide hz
    clear hl ht hn hl1 ht1 hl2 ht2 hF hsl hml hml2 hnl hq hkn hkat hkat1 hak hl63 ht31 hk hchg hz hSw hS9 hT9 X9 hk2 hkl2 hw9 hxs hz0 PW Hall HHK M9 X6 hT6 c1
    go_wp2_with (fail)
    refine HC.mono ?_
    clear HC
    rintro _ w10 ⟨out, ob, s', G', rfl, hp', H', hlo, hhi, hP', hPl', hS'⟩
    unfold Ent.v
    have hz10 := hS'.blk hz9 Hz.out
    have Hz10 := hide (hS'.zero hz9 Hz.out)
    have HS := hide (HSw.out.trans hS')
    have Hfin := hide (And.intro hp' (And.intro hlo (And.intro hhi hP')))
    obtain ⟨z0, z1, z2⟩ := box_cells hz10
    have y0 := frozen_blk hz10 0
    have y1 := frozen_blk hz10 1
    have y2 := frozen_blk hz10 2
    clear hp' hlo hhi hP' b0 b1 b2 hb9 hS'
    go_wp2
    have r0 := boxPut_at out hz10
    refine bodyPost_ret (v := .tuple #[out.v, .bool ob]) (by
      have r1 := cell_blk r0 0
      have r2 := cell_blk r0 1
      have r3 := cell_blk r0 2
      unfold boxPut at r1 r2 r3
      simp [results, Try.results57, go_sem, r1, r2, r3, Ent.v, ptr]) rfl ?_
    obtain ⟨hp', hlo, hhi, hP'⟩ := Hfin.out
    have hz11 : s'.F (b + 1) + G' (b + 1) = 0 := Hz10.out
    exact ⟨out, ob, s', G', rfl, hp', H'.boxPut (b := b + 1) (by omega) out, hlo, hhi, hP', hPl'.boxPut (b := b + 1) (by omega) out, HS.out.boxPut (b := b + 1) (by rw [Hb.out]; omega) out⟩

end Go.Proofs.Qxb6603483a
