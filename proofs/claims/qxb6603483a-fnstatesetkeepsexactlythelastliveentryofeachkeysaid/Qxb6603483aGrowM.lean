/-
  growChildAndRemove: two children made one.
-/
import Derived.Test.Qxb6603483aApp
import Derived.Test.Qxb6603483aLast
import Derived.Test.Qxb6603483aPoor
import Derived.Test.Qxb6603483aRem3
namespace Go.Proofs.Qxb6603483a
open Go.RowKit
set_option linter.unusedSimpArgs false
attribute [local go_sem ↓] Go.wp_at_zero Go.wp_at_succ

/-- Which child was too small: the left one of the two, with no riches to its left; or the right one, being the last. -/
def Which (i : Nat) (S : List Sub) (B : List Ent) : Prop := (i = S.length ∧ Poor S) ∨ (i = S.length + 1 ∧ B = [])

set_option maxRecDepth 100000 in
set_option maxHeartbeats 8000000 in
theorem grow_merge {h : Nat} {typ : Int} {P : List Ent → Ent → Prop} {w : World} {c p i : Nat} {iv cv : Value} {A : List Ent} {a : Ent} {B : List Ent} {S : List Sub} {l t : Sub} {T : List Sub} {G : Nat → Nat} {e : Ent}
    (M : Mid w c h p iv cv A (a :: B) S l (t :: T) G) (hl : l.n ≤ 31) (ht : t.n ≤ 31) (hwh : Which i S B) (hn : (A ++ a :: B).length ≤ 1000)
    (HK : ∀ (w' : World) (iv' cv' : Value) (l' : Sub) (G' : Nat → Nat), Mid w' c h p iv' cv' A B S l' T G' → 32 ≤ l'.n → weave (A ++ B) (S ++ l' :: T) = weave (A ++ a :: B) (S ++ l :: t :: T) → a ∈ l'.xs →
      Calls Try.prog 44 #[.pointer (some ⟨p, 0, none⟩), e.v, .int .i64 31, .int .i64 typ] w' fun r w'' => RemLeft w' w'' c (h + 1) p (A ++ B).length (A ++ B).length (midF p iv' cv' S l' T G') P r) :
    Calls Try.prog 57 #[.pointer (some ⟨p, 0, none⟩), .int .i64 (i : Int), e.v, .int .i64 31, .int .i64 typ] w fun r w' => RemLeft w w' c (h + 1) p (A ++ B).length (A ++ B).length (midF p iv cv S l (t :: T) G) P r := by
  obtain ⟨i0, hi0, hz0, hz1, hz2⟩ := info_parts info33
  obtain ⟨i1, hi1, hy0, hy1, hy2⟩ := info_parts info84
  obtain ⟨liv, lcv, lits, lsubs, tiv, tcv, tits, tsubs, Pr, hl1, ht1, hl2, ht2, hF⟩ := M.pair
  have hl31 := (M.kid l (by simp)).2.1
  have ht63 := (M.kid t (by simp)).2.1
  obtain ⟨k, hk⟩ : ∃ k, k = S.length := ⟨_, rfl⟩
  have hsl := Pr.sl
  -- shapes
  obtain ⟨m, hml⟩ : ∃ m, m = (kids S ++ ptr l.p :: ptr t.p :: kids T).length := ⟨_, rfl⟩
  have hml2 : m = k + (T.length + 2) := by rw [hml, List.length_append, kids_length, hk]; simp [kids]
  obtain ⟨gc, cc, hcv⟩ : ∃ gc cc, cv = .slice (some ⟨gc, 0, none⟩) m cc := by
    rcases Pr.tri.np.rc.form with ⟨_, h1⟩ | ⟨gc, cc, h1⟩
    · simp at h1
    · exact ⟨gc, cc, by rw [h1, hml]⟩
  subst hcv
  obtain ⟨n, hnl⟩ : ∃ n, n = (A ++ a :: B).length := ⟨_, rfl⟩
  obtain ⟨g, cap, hiv⟩ : ∃ g cap, iv = .slice (some ⟨g, 0, none⟩) n cap := by
    rcases Pr.tri.np.ri.form with ⟨_, h1⟩ | ⟨g, cap, h1⟩
    · simp at h1
    · exact ⟨g, cap, by rw [h1, hnl]⟩
  subst hiv
  obtain ⟨q, hq⟩ : ∃ q, q = tits.length := ⟨_, rfl⟩
  obtain ⟨ta, tc, htiv⟩ : ∃ a cap, tiv = .slice a q cap := by obtain ⟨a, cap, h1⟩ := Pr.tri.nt.iform; exact ⟨a, cap, by rw [h1, hq]⟩
  subst htiv
  have hkn : k < n := by rw [hnl, hk, hsl]; simp
  have hn2 : n ≤ 1000 := by omega
  have hq31' : ¬ (31 : Int) < (q : Int) := by omega
  have hq31'' : q = 31 := by omega
  have hl31' : lits.length = 31 := by omega
  have hk0 : (0 : Int) ≤ (k : Int) := Int.natCast_nonneg _
  have hk1 : (k : Int) ≤ 1000 := by omega
  have hkn' : (k : Int) < (n : Int) := by omega
  have hwk : IntKind.i64.wrap ((k : Int) + 1) = (k : Int) + 1 := by rw [IntKind.wrap_i64]; omega
  have hix : ∀ w', (Instr.indexAt 104 (.slice (some ⟨gc, 0, none⟩) m cc) (.int .i64 ((k : Int) + 1))).run Try.prog w' = .ok (.pointer (some ⟨gc, k + 1, none⟩)) w' :=
    fun w' => by have := run_ix (P := Try.prog) 104 1 gc m cc (k + 1) ((k : Int) + 1) rfl (by omega) Try.underlying104 (fun _ => by kernel_rfl) w'; rw [Nat.mul_one] at this; exact this
  have hiy : ∀ w', (Instr.indexAt 102 (.slice (some ⟨g, 0, none⟩) n cap) (.int .i64 (k : Int))).run Try.prog w' = .ok (.pointer (some ⟨g, k * 3, none⟩)) w' :=
    fun w' => run_ix (P := Try.prog) 102 3 g n cap k (k : Int) rfl hkn Try.underlying102 (fun _ => by kernel_rfl) w'
  have hkat : (kids S ++ ptr l.p :: ptr t.p :: kids T)[k]? = some (ptr l.p) := by rw [hk, ← kids_length S, List.getElem?_append_right (Nat.le_refl _)]; simp
  have hkat1 : (kids S ++ ptr l.p :: ptr t.p :: kids T)[k + 1]? = some (ptr t.p) := by rw [hk, ← kids_length S, List.getElem?_append_right (by omega)]; simp
  have hak : (A ++ a :: B)[k]? = some a := by rw [hk, hsl, List.getElem?_append_right (Nat.le_refl _)]; simp
  obtain ⟨W, hW, ⟨hbox, hzero⟩, hchg⟩ : ∃ W, W = (w.alloc (Obj.cells #[Value.string e.key, Value.int IntKind.u64 e.ver, Value.slice e.va e.vn e.vc] 33)).alloc (Obj.cells #[Value.string { data := #[] }, Value.int IntKind.u64 0, Value.slice none 0 0] 33) ∧
      (W.heap[w.heap.size]? = some (.cells #[Value.string e.key, Value.int IntKind.u64 e.ver, Value.slice e.va e.vn e.vc] 33 (0, 0)) ∧
      W.heap[w.heap.size + 1]? = some (.cells #[Value.string { data := #[] }, Value.int IntKind.u64 0, Value.slice none 0 0] 33 (0, 0))) ∧ Chg0 w W :=
    ⟨_, rfl, two_boxes w _ _ _ _, ((Chg.refl _ w).alloc _).alloc _⟩
  have XW := Pr.tri.grew hchg
  have HB0 : Hid (∀ j, triF p (.slice (some ⟨g, 0, none⟩) n cap) (.slice (some ⟨gc, 0, none⟩) m cc) l.p liv lcv t.p (.slice ta q tc) tcv (w.heap.size + j) = 0) := fun j => Pr.tri.zero (by omega)
  have HB1 : Hid (∀ j, midF p (.slice (some ⟨g, 0, none⟩) n cap) (.slice (some ⟨gc, 0, none⟩) m cc) S l (t :: T) G (w.heap.size + j) = 0) := fun j => M.zero (by omega)
  obtain ⟨spc, hrc⟩ := XW.np.rc.blkOf
  have x0 : W.cell? ⟨gc, k + 1, none⟩ = some (.pointer (some ⟨t.p, 0, none⟩)) := ptr_at hrc hkat1
  have Hrc := hide hrc
  have c0 : W.cell? ⟨p, 0, none⟩ = some (.slice (some ⟨g, 0, none⟩) n cap) := cell_blk XW.np.blk 0
  have c1 : W.cell? ⟨p, 1, none⟩ = some (.slice (some ⟨gc, 0, none⟩) m cc) := cell_blk XW.np.blk 1
  have d0 : W.cell? ⟨t.p, 0, none⟩ = some (.slice ta q tc) := cell_blk XW.nt.blk 0
  obtain ⟨lia, lic, hliv⟩ : ∃ a cap, liv = .slice a lits.length cap := Pr.tri.nl.iform
  have Hliv := hide hliv
  have Hsz := hide (And.intro hq31'' hl31')
  clear hliv
  have lc2 : W.cell? ⟨l.p, 2, none⟩ = some (.pointer (some ⟨c, 0, none⟩)) := cell_blk XW.nl.blk 2
  have Hwh := hide hwh
  have HM := hide (M.grew hchg)
  have hW' := hW.symm
  clear hW hrc hwh
  have Hall := hide (And.intro hl (And.intro ht (And.intro hn (And.intro hl1 (And.intro ht1 (And.intro hl2 (And.intro ht2 (And.intro hF (And.intro hsl (And.intro hml (And.intro hml2 (And.intro hnl (And.intro hq (And.intro hkn (And.intro hkat (And.intro hkat1 (And.intro hak (And.intro hl31 (And.intro ht63 (And.intro hk hchg))))))))))))))))))))
  have HHK := hide HK
  clear hl ht hn hl1 ht1 hl2 ht2 hF hsl hml hml2 hnl hq hkn hkat hkat1 hak hl31 ht63 hk hchg HK M hn2 hq31'' hl31'
  unfold Ent.v
  go_enter Try.func57, Try.ntmps57
  go_upto_region 1 with (fail)
  clear hW'
  generalize hbb : w.heap.size = b at *
  have Hb := hide hbb
  clear hbb
  go_cut [38] (fun s38 wd => s38 = .bool false ∧ wd = W)
  case first =>
    rcases Hwh.out with ⟨hi, hS0 | ⟨S', u, hS', hu⟩⟩ | ⟨hi, hB⟩
    · have hk00 : i = 0 := by rw [hi, hS0]; rfl
      have hnk : ¬ (0 : Int) < (i : Int) := by omega
      clear hk00 hS0 hi
      go_wp2
      go_meet
      case rel => exact ⟨rfl, rfl⟩
    · obtain ⟨j, hj⟩ : ∃ j, j = S'.length := ⟨_, rfl⟩
      have hkj : i = j + 1 := by rw [hi, hS', hj]; simp
      have hkm : k = i := by rw [Hall.out.2.2.2.2.2.2.2.2.2.2.2.2.2.2.2.2.2.2.2.1, hi]
      have hpk : (0 : Int) < (i : Int) := by omega
      have hwj : IntKind.i64.wrap ((i : Int) - 1) = (j : Int) := by rw [IntKind.wrap_i64]; omega
      have hjat : (kids S ++ ptr l.p :: ptr t.p :: kids T)[j]? = some (ptr u.p) := by
        have hj2 : (kids S)[j]? = some (ptr u.p) := by rw [hS', kids_append, hj, ← kids_length S', List.getElem?_append_right (Nat.le_refl _)]; simp [kids]
        rw [List.getElem?_append_left (List.getElem?_eq_some_iff.1 hj2).1]; exact hj2
      have hixj : ∀ w', (Instr.indexAt 104 (.slice (some ⟨gc, 0, none⟩) m cc) (.int .i64 (j : Int))).run Try.prog w' = .ok (.pointer (some ⟨gc, j, none⟩)) w' :=
        fun w' => by have := run_ix (P := Try.prog) 104 1 gc m cc j (j : Int) rfl (by have := Hall.out.2.2.2.2.2.2.2.2.2.2.1; omega) Try.underlying104 (fun _ => by kernel_rfl) w'; rw [Nat.mul_one] at this; exact this
      have xj : W.cell? ⟨gc, j, none⟩ = some (.pointer (some ⟨u.p, 0, none⟩)) := ptr_at Hrc.out hjat
      obtain ⟨uiv, ucv, uits, ucps, hNu, hul, _, _, _⟩ := (HM.out.kid u (by rw [hS']; simp)).1.node
      obtain ⟨ua, uc, huiv⟩ := hNu.iform
      subst huiv
      rw [← hul] at hNu
      have du : W.cell? ⟨u.p, 0, none⟩ = some (.slice ua u.n uc) := cell_blk hNu.blk 0
      have hun : ¬ (31 : Int) < (u.n : Int) := by omega
      clear hS' hu hj hkj hjat hNu hul hi hkm
      go_wp2
      go_meet
      case rel => exact ⟨rfl, rfl⟩
    · have hki : i = k + 1 := by rw [Hall.out.2.2.2.2.2.2.2.2.2.2.2.2.2.2.2.2.2.2.2.1, hi]
      have hpk : (0 : Int) < (i : Int) := by omega
      have hwj : IntKind.i64.wrap ((i : Int) - 1) = (k : Int) := by rw [IntKind.wrap_i64]; omega
      have hixj : ∀ w', (Instr.indexAt 104 (.slice (some ⟨gc, 0, none⟩) m cc) (.int .i64 (k : Int))).run Try.prog w' = .ok (.pointer (some ⟨gc, k, none⟩)) w' :=
        fun w' => by have := run_ix (P := Try.prog) 104 1 gc m cc k (k : Int) rfl (by have := Hall.out.2.2.2.2.2.2.2.2.2.2.1; omega) Try.underlying104 (fun _ => by kernel_rfl) w'; rw [Nat.mul_one] at this; exact this
      have xj : W.cell? ⟨gc, k, none⟩ = some (.pointer (some ⟨l.p, 0, none⟩)) := ptr_at Hrc.out Hall.out.2.2.2.2.2.2.2.2.2.2.2.2.2.2.1
      have du : W.cell? ⟨l.p, 0, none⟩ = some (.slice lia lits.length lic) := by rw [cell_blk XW.nl.blk 0, Hliv.out]; rfl
      have hun : ¬ (31 : Int) < (lits.length : Int) := by have := Hsz.out.2; omega
      clear hi hB hki
      go_wp2
      go_meet
      case rel => exact ⟨rfl, rfl⟩
  case rest =>
    obtain ⟨rfl, hw0⟩ := hcut
    have hw1 := hw0.symm
    clear hw0
    subst hw1
    go_upto_region 9 with (fail)
    go_cut [106] (fun s106 wd => s106 = .bool false ∧ wd = W)
    case first =>
      rcases Hwh.out with ⟨hi, _⟩ | ⟨hi, hB⟩
      · have hki : i = k := by rw [Hall.out.2.2.2.2.2.2.2.2.2.2.2.2.2.2.2.2.2.2.2.1, hi]
        subst hki
        clear hi
        go_wp2
        go_meet
        case rel => exact ⟨rfl, rfl⟩
      · have hki : i = k + 1 := by rw [Hall.out.2.2.2.2.2.2.2.2.2.2.2.2.2.2.2.2.2.2.2.1, hi]
        have hnk : n = k + 1 := by rw [Hall.out.2.2.2.2.2.2.2.2.2.2.2.1, hB, Hall.out.2.2.2.2.2.2.2.2.2.2.2.2.2.2.2.2.2.2.2.1, Hall.out.2.2.2.2.2.2.2.2.1]; simp
        have hin : ¬ (i : Int) < (n : Int) := by omega
        clear hi hki hnk hB hkn'
        go_wp2
        go_meet
        case rel => exact ⟨rfl, rfl⟩
    case rest =>
      obtain ⟨rfl, hw0⟩ := hcut
      have hw1 := hw0.symm
      clear hw0
      subst hw1
      go_upto_if 166 with (fail)
      go_cut [1] (fun s1 wd => s1 = .int .i64 (k : Int) ∧ wd = W)
      case first =>
        rcases Hwh.out with ⟨hi, _⟩ | ⟨hi, hB⟩
        · have hki : i = k := by rw [Hall.out.2.2.2.2.2.2.2.2.2.2.2.2.2.2.2.2.2.2.2.1, hi]
          subst hki
          have hin : ¬ (n : Int) ≤ (i : Int) := by omega
          clear hi
          go_wp2
          go_meet
          case rel => exact ⟨rfl, rfl⟩
        · have hki : i = k + 1 := by rw [Hall.out.2.2.2.2.2.2.2.2.2.2.2.2.2.2.2.2.2.2.2.1, hi]
          have hnk : n = k + 1 := by rw [Hall.out.2.2.2.2.2.2.2.2.2.2.2.1, hB, Hall.out.2.2.2.2.2.2.2.2.2.2.2.2.2.2.2.2.2.2.2.1, Hall.out.2.2.2.2.2.2.2.2.1]; simp
          have hin : (n : Int) ≤ (i : Int) := by omega
          have hwj : IntKind.i64.wrap ((i : Int) - 1) = (k : Int) := by rw [IntKind.wrap_i64]; omega
          clear hi hki hnk hB hkn'
          go_wp2
          go_meet
          case rel => exact ⟨rfl, rfl⟩
      case rest =>
        obtain ⟨rfl, hw0⟩ := hcut
        have hw1 := hw0.symm
        clear hw0
        subst hw1
        have Hkat := hide (Hall.out.2.2.2.2.2.2.2.2.2.2.2.2.2.2.1)
        have Hkat1 := hide (Hall.out.2.2.2.2.2.2.2.2.2.2.2.2.2.2.2.1)
        have Hak := hide (Hall.out.2.2.2.2.2.2.2.2.2.2.2.2.2.2.2.2.1)
        go_wp2_with (fail)
        refine (mutableChild (q := l.p) XW.np Hkat.out lc2).mono ?_
        rintro _ w1 ⟨rfl, hN1, hS1⟩
        unfold ptr
        obtain ⟨X1, hT1⟩ := XW.onP hN1 hS1
        clear hN1 hS1 x0 c1 d0 c0 lc2 XW
        go_wp2_with (fail)
        refine (removeAt3 X1.np k a Hak.out (by have := Hall.out.2.2.1; omega)).mono ?_
        rintro _ w2 ⟨rfl, iv2, hN2, hS2⟩
        unfold Ent.v
        obtain ⟨X2, hT2'⟩ := X1.onP hN2 hS2
        have hT2 := hT1.trans hT2'
        have eer : (A ++ a :: B).eraseIdx k = A ++ B := by
          have h1 := Hall.out.2.2.2.2.2.2.2.2.1
          have h2 := Hall.out.2.2.2.2.2.2.2.2.2.2.2.2.2.2.2.2.2.2.2.1
          rw [h2, h1, List.eraseIdx_append_of_length_le (Nat.le_refl _)]; simp
        rw [eer] at X2
        clear hN2 hS2 hT1 hT2' X1 eer
        obtain ⟨w3, hw3, hbx, hch3⟩ : ∃ w3, w2.alloc (Obj.cells #[Value.string a.key, Value.int IntKind.u64 a.ver, Value.slice a.va a.vn a.vc] 33) = w3 ∧
            w3.heap[w2.heap.size]? = some (.cells #[Value.string a.key, Value.int IntKind.u64 a.ver, Value.slice a.va a.vn a.vc] 33 (0, 0)) ∧ Chg0 w2 w3 := ⟨_, rfl, (MapKept.heap_alloc w2 _).1, (Chg.refl _ w2).alloc _⟩
        have X3 := X2.grew hch3
        have hT3 := hT2.post hch3
        have hd0 := X2.zero (Nat.le_refl w2.heap.size)
        clear hch3 hT2 X2
        go_wp2_with (fail)
        clear hw3
        generalize w2.heap.size = d at *
        have Hone : Hid (∀ v ∈ (kids S ++ ptr l.p :: ptr t.p :: kids T), v.oneCell' = true) := by
          have e1 : kids (S ++ l :: t :: T) = kids S ++ ptr l.p :: ptr t.p :: kids T := by simp [kids]
          rw [← e1]; exact kids_one _
        have hrm := removeAt1 X3.np Hone.out (k + 1) t.p Hkat1.out (by have h1 := Hall.out.2.2.2.2.2.2.2.2.2.1; have h2 := Hall.out.2.2.2.2.2.2.2.2.2.2.1; have h3 := Pr.tl; have h4 := Hall.out.2.2.1; have h5 := Hall.out.2.2.2.2.2.2.2.2.1; have h6 := Hall.out.2.2.2.2.2.2.2.2.2.2.2.2.2.2.2.2.2.2.2.1; simp at h4; omega)
        rw [show ((k + 1 : Nat) : Int) = (k : Int) + 1 from rfl] at hrm
        refine hrm.mono ?_
        clear hrm
        rintro _ w4 ⟨rfl, cv4, hN4, hS4⟩
        unfold ptr
        obtain ⟨X4, hT4'⟩ := X3.onP hN4 hS4
        have hT4 := hT3.trans hT4'
        have hbx4 := hT4'.blk hbx hd0
        have hd4 := hT4'.zero hbx hd0
        have eer : (kids S ++ ptr l.p :: ptr t.p :: kids T).eraseIdx (k + 1) = kids S ++ ptr l.p :: kids T := by
          have h2 := Hall.out.2.2.2.2.2.2.2.2.2.2.2.2.2.2.2.2.2.2.2.1
          rw [h2, ← kids_length S, List.eraseIdx_append_of_length_le (Nat.le_succ _)]; simp
        rw [eer] at X4
        clear hN4 hS4 hT3 hT4' X3 eer hbx hd0 Hone
        obtain ⟨tg, htg⟩ : ∃ tg, ta = some ⟨tg, 0, none⟩ := by
          have h1 := Hall.out.2.2.2.2.1
          have h2 := Hall.out.2.2.2.2.2.2.2.2.2.2.2.2.2.2.2.2.2.2.1
          rcases Pr.tri.nt.ri.form with ⟨_, h3⟩ | ⟨tg, c', h3⟩
          · rw [h3] at h1; simp at h1; omega
          · injection h3 with h3; exact ⟨tg, h3⟩
        subst htg
        obtain ⟨d0, d1, d2⟩ := box_cells hbx4
        have l0 : w4.cell? ⟨l.p, 0, none⟩ = some liv := cell_blk X4.nl.blk 0
        have ca : ∀ o, (w4.alloc o).cell? ⟨l.p, 0, none⟩ = some liv := fun o => (World.cell?_alloc_some w4 _ o (by rw [l0]; rfl)).trans l0
        have hNl := X4.nl
        have hdi : some d ≠ liv.ownBlock := fun e => by unfold triF nodeF at hd4; rw [ob_of e.symm] at hd4; omega
        have hlb : lits.length ≤ 1000 := by have := Hsz.out.2; omega
        go_wp2
        have ma : ∀ (o : Obj) (x : Addr) (v : Value), w4.cell? x = some v → (w4.alloc o).drew.cell? x = some v := fun o x v hx => (World.cell?_alloc_some w4 x o (by rw [hx]; rfl)).trans hx
        refine startX (fun w' => w'.cell? ⟨l.p, 0, none⟩ = some liv ∧ w'.cell? ⟨d, 0, none⟩ = some (.string a.key) ∧ w'.cell? ⟨d, 1, none⟩ = some (.int .u64 a.ver) ∧ w'.cell? ⟨d, 2, none⟩ = some (.slice a.va a.vn a.vc)) 10 (by kernel_rfl) ?_ (fun hHeld => ?_)
        · exact ⟨l0, d0, d1, d2⟩
        refine takeX (i := 0) (v := ?_) rfl rfl (by kernel_rfl) (by kernel_rfl) (by kernel_rfl) (by kernel_rfl) (fun _ _ _ h => h) (by assumption) (Or.inl ⟨by rfl, ?_⟩) ?_
        rotate_left
        · intro w hSw; (try dsimp only at hSw); go_simp <;> with_reducible rfl
        dsimp only [List.set_cons_zero, List.set_cons_succ]
        refine takeX (i := 1) (v := ?_) rfl rfl (by kernel_rfl) (by kernel_rfl) (by kernel_rfl) (by kernel_rfl) (fun _ _ _ h => h) (by assumption) (Or.inl ⟨by rfl, ?_⟩) ?_
        rotate_left
        · intro w hSw; (try dsimp only at hSw); go_simp <;> with_reducible rfl
        dsimp only [List.set_cons_zero, List.set_cons_succ]
        refine takeX (i := 2) (v := ?_) rfl rfl (by kernel_rfl) (by kernel_rfl) (by kernel_rfl) (by kernel_rfl) (fun _ _ _ h => h) (by assumption) (Or.inl ⟨by rfl, ?_⟩) ?_
        rotate_left
        · intro w hSw; (try dsimp only at hSw); go_simp <;> with_reducible rfl
        dsimp only [List.set_cons_zero, List.set_cons_succ]
        refine takeX (i := 3) (v := ?_) rfl rfl (by kernel_rfl) (by kernel_rfl) (by kernel_rfl) (by kernel_rfl) (fun _ _ _ h => h) (by assumption) (Or.inl ⟨by rfl, ?_⟩) ?_
        rotate_left
        · intro w hSw; (try dsimp only at hSw); go_simp <;> with_reducible rfl
        dsimp only [List.set_cons_zero, List.set_cons_succ]
        refine takeX (i := 4) (v := ?_) rfl rfl (by kernel_rfl) (by kernel_rfl) (by kernel_rfl) (by kernel_rfl) (fun _ _ _ h => h) (by assumption) (Or.inl ⟨by rfl, ?_⟩) ?_
        rotate_left
        · intro w hSw; (try dsimp only at hSw); go_simp <;> with_reducible rfl
        dsimp only [List.set_cons_zero, List.set_cons_succ]
        refine takeX (i := 5) (v := ?_) rfl rfl (by kernel_rfl) (by kernel_rfl) (by kernel_rfl) (by kernel_rfl) (fun _ _ _ h => h) (by assumption) (Or.inl ⟨by rfl, ?_⟩) ?_
        rotate_left
        · intro w hSw; (try dsimp only at hSw); go_simp <;> with_reducible rfl
        dsimp only [List.set_cons_zero, List.set_cons_succ]
        refine stepX (i := 6) (by kernel_rfl) rfl (fun K hK => ?_)
        go_simp
        clear hHeld
        refine hK.out _ _ ?_ (fun hHeld => ?_)
        · exact ⟨ma _ _ _ l0, ma _ _ _ d0, ma _ _ _ d1, ma _ _ _ d2⟩
        clear hK K
        try simp only [Act.put, List.setIfInBounds_toArray, List.set_cons_zero, List.set_cons_succ]
        refine stepX (i := 7) (by kernel_rfl) rfl (fun K hK => ?_)
        (refine step_append_lies _ (by rfl) _ _ _ (by rfl) 0 33 i0 _ 3 48 Try.underlying102 hi0 hz0 hz1 hz2 rfl (by omega) liv lits.length (cellsOf lits) (by rfl) ((hNl.ri.alloc _).drew) ⟨w4.heap.size, 0, none⟩ 1 1 [.string a.key, .int .u64 a.ver, .slice a.va a.vn a.vc] (by rfl) (by rfl) (World.news_of_block (cs := #[.string a.key, .int .u64 a.ver, .slice a.va a.vn a.vc]) (t := 33) (fr := (0, 0)) (heap_alloc_new w4 _)) (by simp [Value.oneCell']) (by omega) (by unfold maxLen; omega) (by omega) (Nat.zero_le _) (w4.heap.size + 1) (by simp) ?_; intro g5 cap5 w5 hown5 hgrow hat hlt; have hX := ((Chg.refl (fun _ => 0) w4).alloc (Obj.cells #[.string a.key, .int .u64 a.ver, .slice a.va a.vn a.vc] 33)).drew; have hb1 := grown_blk hX hgrow hNl.blk hNl.ne_i; have c1 : w5.cell? ⟨l.p, 0, none⟩ = some liv := cell_blk hb1 0; have f1 : w5.frozen? ⟨l.p, 0, none⟩ = false := frozen_blk hb1 0; have hS5 := And.intro c1 (box_cells (grown_blk hX hgrow hbx4 hdi)))
        clear hHeld
        refine hK.out _ _ ?_ (fun hHeld => ?_)
        · exact hS5
        clear hK K
        try simp only [Act.put, List.setIfInBounds_toArray, List.set_cons_zero, List.set_cons_succ]
        refine stepX (i := 8) (by kernel_rfl) rfl (fun K hK => ?_)
        go_simp
        clear hHeld
        refine hK.out _ _ ?_ (fun hHeld => ?_)
        · exact hS5
        clear hK K
        try simp only [Act.put, List.setIfInBounds_toArray, List.set_cons_zero, List.set_cons_succ]
        refine stepX (i := 9) (by kernel_rfl) rfl (fun K hK => ?_)
        go_simp
        clear hHeld
        refine hK.out _ _ ?_ (fun hHeld => ?_)
        · exact hS5
        clear hK K
        try simp only [Act.put, List.setIfInBounds_toArray, List.set_cons_zero, List.set_cons_succ]
        refine lastX (by kernel_rfl) (by kernel_rfl) rfl (fun K hK => ?_)
        go_simp
        refine hK.out _ _ ?_
        clear hK K
        try simp only [Act.put, List.setIfInBounds_toArray, List.set_cons_zero, List.set_cons_succ]
        obtain ⟨hN5, hS5'⟩ := app3 (news := [a]) hNl hX hown5 (by simp) hgrow (hat.imp id (fun h => by omega))
        obtain ⟨X5, hT5'⟩ := X4.onL hN5 hS5'
        have hT5 := hT4.trans hT5'
        clear hS5 hown5 hgrow hat hlt hX hb1 c1 f1 hHeld ma
        generalize hw5 : w5.setCell ⟨l.p, 0, none⟩ (.slice (some ⟨g5, 0, none⟩) (lits.length + 1) cap5) = w5' at *
        clear hw5
        obtain ⟨liv5, hl5⟩ : ∃ liv5, liv5 = Value.slice (some ⟨g5, 0, none⟩) (lits.length + 1) cap5 := ⟨_, rfl⟩
        rw [← hl5] at X5 hT5
        clear hl5 hN5 hS5' hT4 hT5' X4 l0 ca d0 d1 d2 hbx4 hd4 hNl hdi
        clear w5
        have l0 : w5'.cell? ⟨l.p, 0, none⟩ = some liv5 := cell_blk X5.nl.blk 0
        have t0 : w5'.cell? ⟨t.p, 0, none⟩ = some (.slice (some ⟨tg, 0, none⟩) q tc) := cell_blk X5.nt.blk 0
        have hNl5 := X5.nl
        have hNt5 := X5.nt
        have hu5 := X5.uniq
        have htn : nodeF l.p liv5 lcv t.p = 0 := by have := hu5 t.p; have h1 : 1 ≤ nodeF t.p (.slice (some ⟨tg, 0, none⟩) q tc) tcv t.p := by { unfold nodeF; rw [one_self]; omega }; omega
        have hti : some t.p ≠ liv5.ownBlock := fun e => by unfold nodeF at htn; rw [ob_of e.symm] at htn; omega
        obtain ⟨sp5, hrow5⟩ := X5.nt.ri.blkOf
        have hqt : q = tits.length := Hall.out.2.2.2.2.2.2.2.2.2.2.2.2.1
        have s1 : Hid ((cellsOf tits).length = q * 3) := by show _ = _; rw [cellsOf_length, hqt]
        have s2 : Hid (∀ j u, (cellsOf tits)[j]? = some u → w5'.drew.cell? ((⟨tg, 0, none⟩ : Addr).add j) = some u) := news_of_row (w := w5'.drew) hrow5
        have s5 : Hid ((lits ++ [a]).length + q = (lits ++ [a]).length + tits.length) := by show _ = _; rw [hqt]
        have hq0 : 0 < q := by have := Hsz.out.1; omega
        have s3 : Hid ((lits ++ [a]).length + q ≤ maxLen) := by show _ ≤ _; have := Hsz.out.1; have := Hsz.out.2; unfold maxLen; simp; omega
        have s4 : Hid (((lits ++ [a]).length + q) * 48 ≤ 140737488355328) := by show _ ≤ _; have := Hsz.out.1; have := Hsz.out.2; simp; omega
        clear hqt hrow5 hu5 htn
        go_wp2
        refine startX (fun w' => w'.cell? ⟨l.p, 0, none⟩ = some liv5 ∧ w'.cell? ⟨t.p, 0, none⟩ = some (.slice (some ⟨tg, 0, none⟩) q tc)) 12 (by kernel_rfl) ?_ (fun hHeld => ?_)
        · exact ⟨l0, t0⟩
        refine takeX (i := 0) (v := ?_) rfl rfl (by kernel_rfl) (by kernel_rfl) (by kernel_rfl) (by kernel_rfl) (fun _ _ _ h => h) (by assumption) (Or.inl ⟨by rfl, ?_⟩) ?_
        rotate_left
        · intro w hSw; (try dsimp only at hSw); go_simp <;> with_reducible rfl
        dsimp only [List.set_cons_zero, List.set_cons_succ]
        refine takeX (i := 1) (v := ?_) rfl rfl (by kernel_rfl) (by kernel_rfl) (by kernel_rfl) (by kernel_rfl) (fun _ _ _ h => h) (by assumption) (Or.inl ⟨by rfl, ?_⟩) ?_
        rotate_left
        · intro w hSw; (try dsimp only at hSw); go_simp <;> with_reducible rfl
        dsimp only [List.set_cons_zero, List.set_cons_succ]
        refine takeX (i := 2) (v := ?_) rfl rfl (by kernel_rfl) (by kernel_rfl) (by kernel_rfl) (by kernel_rfl) (fun _ _ _ h => h) (by assumption) (Or.inl ⟨by rfl, ?_⟩) ?_
        rotate_left
        · intro w hSw; (try dsimp only at hSw); go_simp <;> with_reducible rfl
        dsimp only [List.set_cons_zero, List.set_cons_succ]
        refine takeX (i := 3) (v := ?_) rfl rfl (by kernel_rfl) (by kernel_rfl) (by kernel_rfl) (by kernel_rfl) (fun _ _ _ h => h) (by assumption) (Or.inl ⟨by rfl, ?_⟩) ?_
        rotate_left
        · intro w hSw; (try dsimp only at hSw); go_simp <;> with_reducible rfl
        dsimp only [List.set_cons_zero, List.set_cons_succ]
        refine takeX (i := 4) (v := ?_) rfl rfl (by kernel_rfl) (by kernel_rfl) (by kernel_rfl) (by kernel_rfl) (fun _ _ _ h => h) (by assumption) (Or.inl ⟨by rfl, ?_⟩) ?_
        rotate_left
        · intro w hSw; (try dsimp only at hSw); go_simp <;> with_reducible rfl
        dsimp only [List.set_cons_zero, List.set_cons_succ]
        refine takeX (i := 5) (v := ?_) rfl rfl (by kernel_rfl) (by kernel_rfl) (by kernel_rfl) (by kernel_rfl) (fun _ _ _ h => h) (by assumption) (Or.inl ⟨by rfl, ?_⟩) ?_
        rotate_left
        · intro w hSw; (try dsimp only at hSw); go_simp <;> with_reducible rfl
        dsimp only [List.set_cons_zero, List.set_cons_succ]
        refine takeX (i := 6) (v := ?_) rfl rfl (by kernel_rfl) (by kernel_rfl) (by kernel_rfl) (by kernel_rfl) (fun _ _ _ h => h) (by assumption) (Or.inl ⟨by rfl, ?_⟩) ?_
        rotate_left
        · intro w hSw; (try dsimp only at hSw); go_simp <;> with_reducible rfl
        dsimp only [List.set_cons_zero, List.set_cons_succ]
        refine takeX (i := 7) (v := ?_) rfl rfl (by kernel_rfl) (by kernel_rfl) (by kernel_rfl) (by kernel_rfl) (fun _ _ _ h => h) (by assumption) (Or.inl ⟨by rfl, ?_⟩) ?_
        rotate_left
        · intro w hSw; (try dsimp only at hSw); go_simp <;> with_reducible rfl
        dsimp only [List.set_cons_zero, List.set_cons_succ]
        refine takeX (i := 8) (v := ?_) rfl rfl (by kernel_rfl) (by kernel_rfl) (by kernel_rfl) (by kernel_rfl) (fun _ _ _ h => h) (by assumption) (Or.inl ⟨by rfl, ?_⟩) ?_
        rotate_left
        · intro w hSw; (try dsimp only at hSw); go_simp <;> with_reducible rfl
        dsimp only [List.set_cons_zero, List.set_cons_succ]
        refine stepX (i := 9) (by kernel_rfl) rfl (fun K hK => ?_)
        (refine step_append_lies _ (by rfl) _ _ _ (by rfl) 0 33 i0 _ 3 48 Try.underlying102 hi0 hz0 hz1 hz2 rfl (by omega) liv5 (lits ++ [a]).length (cellsOf (lits ++ [a])) (by rfl) (hNl5.ri.drew) ⟨tg, 0, none⟩ q tc (cellsOf tits) (by rfl) s1.out s2.out (cellsOf_one _) hq0 s3.out s4.out (Nat.zero_le _) w5'.heap.size (by rfl) ?_; intro g6 cap6 w6 hown6 hgrow hat hlt; have hX := (Chg.refl (fun _ => 0) w5').drew; have hb1 := grown_blk hX hgrow hNl5.blk hNl5.ne_i; have c1 : w6.cell? ⟨l.p, 0, none⟩ = some liv5 := cell_blk hb1 0; have f1 : w6.frozen? ⟨l.p, 0, none⟩ = false := frozen_blk hb1 0; have hS6 : w6.cell? ⟨l.p, 0, none⟩ = some liv5 ∧ w6.cell? ⟨t.p, 0, none⟩ = some (.slice (some ⟨tg, 0, none⟩) q tc) := ⟨c1, cell_blk (grown_blk hX hgrow hNt5.blk hti) 0⟩)
        clear hHeld
        refine hK.out _ _ ?_ (fun hHeld => ?_)
        · exact hS6
        clear hK K
        try simp only [Act.put, List.setIfInBounds_toArray, List.set_cons_zero, List.set_cons_succ]
        refine stepX (i := 10) (by kernel_rfl) rfl (fun K hK => ?_)
        go_simp
        clear hHeld
        refine hK.out _ _ ?_ (fun hHeld => ?_)
        · exact hS6
        clear hK K
        try simp only [Act.put, List.setIfInBounds_toArray, List.set_cons_zero, List.set_cons_succ]
        refine stepX (i := 11) (by kernel_rfl) rfl (fun K hK => ?_)
        go_simp
        clear hHeld
        refine hK.out _ _ ?_ (fun hHeld => ?_)
        · exact hS6
        clear hK K
        try simp only [Act.put, List.setIfInBounds_toArray, List.set_cons_zero, List.set_cons_succ]
        refine lastX (by kernel_rfl) (by kernel_rfl) rfl (fun K hK => ?_)
        go_simp
        refine hK.out _ _ ?_
        clear hK K
        try simp only [Act.put, List.setIfInBounds_toArray, List.set_cons_zero, List.set_cons_succ]
        obtain ⟨hN6, hS6'⟩ := app3 (news := tits) hNl5 hX hown6 s5.out hgrow (hat.imp id (fun h => by omega))
        rw [show (lits ++ [a]).length + q = lits.length + 1 + q by simp] at hN6 hS6'
        obtain ⟨X6, hT6'⟩ := X5.onL hN6 hS6'
        have hT6 := hT5.trans hT6'
        clear hS6 hown6 hgrow hat hlt hX hb1 c1 f1 hHeld
        obtain ⟨liv6, hl6⟩ : ∃ liv6, liv6 = Value.slice (some ⟨g6, 0, none⟩) (lits.length + 1 + q) cap6 := ⟨_, rfl⟩
        generalize hw6 : w6.setCell ⟨l.p, 0, none⟩ (.slice (some ⟨g6, 0, none⟩) (lits.length + 1 + q) cap6) = w6' at *
        clear hw6
        rw [← hl6] at X6 hT6
        clear hl6 hN6 hS6' hT5 hT6' X5 l0 t0 hNl5 hNt5 hti s1 s2 s3 s4 s5
        clear w6
        have l1 : w6'.cell? ⟨l.p, 1, none⟩ = some lcv := cell_blk X6.nl.blk 1
        have t1 : w6'.cell? ⟨t.p, 1, none⟩ = some tcv := cell_blk X6.nt.blk 1
        have hNl6 := X6.nl
        have hNt6 := X6.nt
        have hu6 := X6.uniq
        have htn : nodeF l.p liv6 lcv t.p = 0 := by have := hu6 t.p; have h1 : 1 ≤ nodeF t.p (.slice (some ⟨tg, 0, none⟩) q tc) tcv t.p := by { unfold nodeF; rw [one_self]; omega }; omega
        have hti6 : some t.p ≠ lcv.ownBlock := fun e => by unfold nodeF at htn; rw [ob_of e.symm] at htn; omega
        have hbd : Hid ((kids lsubs).length + (kids tsubs).length ≤ 100000) := by
          have h1 := Hsz.out.2
          have h2 := Hall.out.2.2.2.2.1
          have h3 := Hall.out.2.1
          show _ ≤ _
          rw [kids_length, kids_length]
          cases h with
          | zero => have e1 : lsubs = [] := Pr.lk; have e2 : tsubs = [] := Pr.tk; rw [e1, e2]; simp
          | succ h => have := Pr.lk.1; have := Pr.tk.1; omega
        clear hu6 htn
        go_wp2
        refine startX (fun w' => w'.cell? ⟨l.p, 1, none⟩ = some lcv ∧ w'.cell? ⟨t.p, 1, none⟩ = some tcv) 12 (by kernel_rfl) ?_ (fun hHeld => ?_)
        · exact ⟨l1, t1⟩
        refine takeX (i := 0) (v := ?_) rfl rfl (by kernel_rfl) (by kernel_rfl) (by kernel_rfl) (by kernel_rfl) (fun _ _ _ h => h) (by assumption) (Or.inl ⟨by rfl, ?_⟩) ?_
        rotate_left
        · intro w hSw; (try dsimp only at hSw); go_simp <;> with_reducible rfl
        dsimp only [List.set_cons_zero, List.set_cons_succ]
        refine takeX (i := 1) (v := ?_) rfl rfl (by kernel_rfl) (by kernel_rfl) (by kernel_rfl) (by kernel_rfl) (fun _ _ _ h => h) (by assumption) (Or.inl ⟨by rfl, ?_⟩) ?_
        rotate_left
        · intro w hSw; (try dsimp only at hSw); go_simp <;> with_reducible rfl
        dsimp only [List.set_cons_zero, List.set_cons_succ]
        refine takeX (i := 2) (v := ?_) rfl rfl (by kernel_rfl) (by kernel_rfl) (by kernel_rfl) (by kernel_rfl) (fun _ _ _ h => h) (by assumption) (Or.inl ⟨by rfl, ?_⟩) ?_
        rotate_left
        · intro w hSw; (try dsimp only at hSw); go_simp <;> with_reducible rfl
        dsimp only [List.set_cons_zero, List.set_cons_succ]
        refine takeX (i := 3) (v := ?_) rfl rfl (by kernel_rfl) (by kernel_rfl) (by kernel_rfl) (by kernel_rfl) (fun _ _ _ h => h) (by assumption) (Or.inl ⟨by rfl, ?_⟩) ?_
        rotate_left
        · intro w hSw; (try dsimp only at hSw); go_simp <;> with_reducible rfl
        dsimp only [List.set_cons_zero, List.set_cons_succ]
        refine takeX (i := 4) (v := ?_) rfl rfl (by kernel_rfl) (by kernel_rfl) (by kernel_rfl) (by kernel_rfl) (fun _ _ _ h => h) (by assumption) (Or.inl ⟨by rfl, ?_⟩) ?_
        rotate_left
        · intro w hSw; (try dsimp only at hSw); go_simp <;> with_reducible rfl
        dsimp only [List.set_cons_zero, List.set_cons_succ]
        refine takeX (i := 5) (v := ?_) rfl rfl (by kernel_rfl) (by kernel_rfl) (by kernel_rfl) (by kernel_rfl) (fun _ _ _ h => h) (by assumption) (Or.inl ⟨by rfl, ?_⟩) ?_
        rotate_left
        · intro w hSw; (try dsimp only at hSw); go_simp <;> with_reducible rfl
        dsimp only [List.set_cons_zero, List.set_cons_succ]
        refine takeX (i := 6) (v := ?_) rfl rfl (by kernel_rfl) (by kernel_rfl) (by kernel_rfl) (by kernel_rfl) (fun _ _ _ h => h) (by assumption) (Or.inl ⟨by rfl, ?_⟩) ?_
        rotate_left
        · intro w hSw; (try dsimp only at hSw); go_simp <;> with_reducible rfl
        dsimp only [List.set_cons_zero, List.set_cons_succ]
        refine takeX (i := 7) (v := ?_) rfl rfl (by kernel_rfl) (by kernel_rfl) (by kernel_rfl) (by kernel_rfl) (fun _ _ _ h => h) (by assumption) (Or.inl ⟨by rfl, ?_⟩) ?_
        rotate_left
        · intro w hSw; (try dsimp only at hSw); go_simp <;> with_reducible rfl
        dsimp only [List.set_cons_zero, List.set_cons_succ]
        refine takeX (i := 8) (v := ?_) rfl rfl (by kernel_rfl) (by kernel_rfl) (by kernel_rfl) (by kernel_rfl) (fun _ _ _ h => h) (by assumption) (Or.inl ⟨by rfl, ?_⟩) ?_
        rotate_left
        · intro w hSw; (try dsimp only at hSw); go_simp <;> with_reducible rfl
        dsimp only [List.set_cons_zero, List.set_cons_succ]
        refine stepX (i := 9) (by kernel_rfl) rfl (fun K hK => ?_)
        (refine step_append_any (by rfl) _ _ (by rfl) (cv := lcv) (tv := tcv) (by rfl) (by rfl) hNl6.rc.drew hNt6.rc.drew (kids_one _) hbd.out ?_; rintro v7 w7 hA ⟨va, vc, hv7⟩; have hX := (Chg.refl (fun _ => 0) w6').drew; have hb1 := hA.blk hX hNl6.blk hNl6.ne_c; have c1 : w7.cell? ⟨l.p, 1, none⟩ = some lcv := cell_blk hb1 1; have f1 : w7.frozen? ⟨l.p, 1, none⟩ = false := frozen_blk hb1 1; have hS7 : w7.cell? ⟨l.p, 1, none⟩ = some lcv ∧ w7.cell? ⟨t.p, 1, none⟩ = some tcv := ⟨c1, cell_blk (hA.blk hX hNt6.blk hti6) 1⟩; have HA := hide hA; subst hv7; clear hA)
        clear hHeld
        refine hK.out _ _ ?_ (fun hHeld => ?_)
        · exact hS7
        clear hK K
        try simp only [Act.put, List.setIfInBounds_toArray, List.set_cons_zero, List.set_cons_succ]
        refine stepX (i := 10) (by kernel_rfl) rfl (fun K hK => ?_)
        go_simp
        clear hHeld
        refine hK.out _ _ ?_ (fun hHeld => ?_)
        · exact hS7
        clear hK K
        try simp only [Act.put, List.setIfInBounds_toArray, List.set_cons_zero, List.set_cons_succ]
        refine stepX (i := 11) (by kernel_rfl) rfl (fun K hK => ?_)
        go_simp
        clear hHeld
        refine hK.out _ _ ?_ (fun hHeld => ?_)
        · exact hS7
        clear hK K
        try simp only [Act.put, List.setIfInBounds_toArray, List.set_cons_zero, List.set_cons_succ]
        refine lastX (by kernel_rfl) (by kernel_rfl) rfl (fun K hK => ?_)
        go_simp
        refine hK.out _ _ ?_
        clear hK K
        try simp only [Act.put, List.setIfInBounds_toArray, List.set_cons_zero, List.set_cons_succ]
        obtain ⟨hN7, hS7'⟩ := HA.out.node hNl6 hX
        rw [← kids_append] at hN7
        obtain ⟨X7, hT7'⟩ := X6.onL hN7 hS7'
        have hT7 := hT6.trans hT7'
        clear hS7 HA hX hb1 c1 f1 hHeld hN7 hS7' hT6 hT7' X6 l1 t1 hNl6 hNt6 hti6 hbd
        generalize hw7 : w7.setCell ⟨l.p, 1, none⟩ _ = w7' at *
        clear hw7
        clear w7
        generalize hlc : Value.slice va ((kids lsubs).length + (kids tsubs).length) vc = lcv7 at *
        clear hlc
        have p2 : w7'.cell? ⟨p, 2, none⟩ = some (.pointer (some ⟨c, 0, none⟩)) := cell_blk X7.np.blk 2
        have hall := Hall.out
        obtain ⟨hl, ht, hn, hl1, ht1, hl2, ht2, hF, hsl, hml, hml2, hnl, hq, hkn, hkat, hkat1, hak, hl31, ht63, hk, hchg⟩ := hall
        have PW := Pr.grew hchg
        obtain ⟨hP7, hd7⟩ := PW.pool' hT7
        have htb : Hid (tits.length ≤ 100000 ∧ (kids tsubs).length ≤ 100000) := by
          refine ⟨by omega, ?_⟩
          rw [kids_length]
          cases h with
          | zero => have := Pr.tk; have e : tsubs = [] := this; rw [e]; simp
          | succ h => have := Pr.tk.1; omega
        have HF := hide hF
        have Hchg := hide hchg
        have Hfacts := hide (And.intro hl1 (And.intro ht1 (And.intro hl2 (And.intro ht2 (And.intro hsl (And.intro hl (And.intro ht (And.intro hl31 ht63))))))))
        clear hl ht hn hl1 ht1 hl2 ht2 hF hsl hml hml2 hnl hq hkn hkat hkat1 hak hl31 ht63 hk hchg
        go_wp2_with (fail)
        refine (freeNode hP7 X7.nt hd7 htb.out.1 htb.out.2).mono ?_
        rintro _ w8 ⟨x8, G', rfl, hP8, hS8⟩
        have Hn63 : Hid ((lits ++ a :: tits).length = 63) := by obtain ⟨h1, h2, _, _, _, h3, h4, h5, h6⟩ := Hfacts.out; show _ = _; simp; omega
        have eas : lits ++ [a] ++ tits = lits ++ a :: tits := by simp
        rw [eas] at X7
        obtain ⟨M9, hS9⟩ := PW.merge X7 hT7 Hn63.out hP8 hS8
        have hz0 : ∀ j, triF p (.slice (some ⟨g, 0, none⟩) n cap) (.slice (some ⟨gc, 0, none⟩) m cc) l.p liv lcv t.p (.slice (some ⟨tg, 0, none⟩) q tc) tcv (b + j) + restF S lsubs tsubs T G (b + j) = 0 := fun j => by rw [← HF.out]; exact HB1.out j
        have hb9 := hS9.blk hbox (hz0 0)
        obtain ⟨b0, b1, b2⟩ := box_cells hb9
        have hxs := merge_weave (a := a) Pr.lk Pr.tk
        have hw9 : weave (A ++ B) (S ++ (⟨l.p, (lits ++ a :: tits).length, weave (lits ++ a :: tits) (lsubs ++ tsubs), opnF l.p liv6 lcv7 (lsubs ++ tsubs)⟩ : Sub) :: T) = weave (A ++ a :: B) (S ++ l :: t :: T) := by
          obtain ⟨_, _, hl2, ht2, hsl, _⟩ := Hfacts.out
          rw [weave_at A S B _ _ hsl, weave_at A S (a :: B) _ _ hsl]
          simp only [wtail, weave_cons]
          rw [hl2, ht2, hxs]
          simp
        have HC := HHK.out w8 _ _ _ _ M9 (by show 32 ≤ (lits ++ a :: tits).length; have := Hn63.out; omega) hw9 (by show a ∈ weave (lits ++ a :: tits) (lsubs ++ tsubs); rw [hxs]; simp)
        have hz9 := hS9.blk hzero (hz0 1)
        have hz := hS9.zero hzero (hz0 1)
        have hSw := (hS9.congr (fun k => (HF.out k).symm) (fun _ => rfl)).pre Hchg.out
        have HSw := hide hSw
        have Hz := hide hz
        clear hz hSw hS9 hT7 X7 hw9 hxs hz0 PW Hall HHK M9 eas HF hP8 hS8 hP7 hd7 p2
        go_wp2_with (fail)
        refine HC.mono ?_
        clear HC
        rintro _ w10 ⟨out, ob, s', G'', rfl, hp', H', hlo, hhi, hP', hPl', hS'⟩
        unfold Ent.v
        have hz10 := hS'.blk hz9 Hz.out
        have Hz10 := hide (hS'.zero hz9 Hz.out)
        have HS := hide (HSw.out.trans hS')
        have Hfin := hide (And.intro hp' (And.intro hlo (And.intro hhi hP')))
        obtain ⟨z0, z1, z2⟩ := box_cells hz10
        have y0 := frozen_blk hz10 0
        have y1 := frozen_blk hz10 1
        have y2 := frozen_blk hz10 2
        clear hp' hlo hhi hP' b0 b1 b2 hb9 hS'
        go_wp2
        have r0 := boxPut_at out hz10
        refine bodyPost_ret (v := .tuple #[out.v, .bool ob]) (by
          have r1 := cell_blk r0 0
          have r2 := cell_blk r0 1
          have r3 := cell_blk r0 2
          unfold boxPut at r1 r2 r3
          simp [results, Try.results57, go_sem, r1, r2, r3, Ent.v, ptr]) rfl ?_
        obtain ⟨hp', hlo, hhi, hP'⟩ := Hfin.out
        have hz11 : s'.F (b + 1) + G'' (b + 1) = 0 := Hz10.out
        exact ⟨out, ob, s', G'', rfl, hp', H'.boxPut (b := b + 1) (by omega) out, hlo, hhi, hP', hPl'.boxPut (b := b + 1) (by omega) out, HS.out.boxPut (b := b + 1) (by rw [Hb.out]; omega) out⟩

end Go.Proofs.Qxb6603483a
