/-
  insert in an inner node, the key not in the node itself.
-/
import Derived.Test.Qxb6603483aMid
namespace Go.Proofs.Qxb6603483a
open Go.RowKit
set_option linter.unusedSimpArgs false
attribute [local go_sem ↓] Go.wp_at_zero Go.wp_at_succ

theorem Mid.grew {w w' : World} {c h p : Nat} {iv cv : Value} {A B : List Ent} {S : List Sub} {t : Sub} {T : List Sub} {G : Nat → Nat} (M : Mid w c h p iv cv A B S t T G) (hc : Chg0 w w') : Mid w' c h p iv cv A B S t T G :=
  ⟨M.sl, M.tl, hc.node M.node (fun _ _ => rfl), kids_keep M.kid hc (fun k => by have := M.uniq k; omega), M.pool.chg hc (fun _ _ => rfl), M.uniq⟩
theorem Mid.stp {w : World} {c h p : Nat} {iv cv : Value} {A B : List Ent} {S : List Sub} {t : Sub} {T : List Sub} {G : Nat → Nat} (M : Mid w c h p iv cv A B S t T G) : Stp (midF p iv cv S t T G) w w (midF p iv cv S t T G) := Stp.refl M.uniq (fun _ hk => M.lt hk)
theorem Mid.zero {w : World} {c h p : Nat} {iv cv : Value} {A B : List Ent} {S : List Sub} {t : Sub} {T : List Sub} {G : Nat → Nat} (M : Mid w c h p iv cv A B S t T G) {k : Nat} (hk : w.heap.size ≤ k) : midF p iv cv S t T G k = 0 := by
  have : ¬ 1 ≤ midF p iv cv S t T G k := fun h => by have := M.lt h; omega
  omega

/-- An item of the node itself set anew. -/
theorem weave_set {e x : Ent} {A B : List Ent} {S : List Sub} {t : Sub} {T : List Sub} (hsl : S.length = A.length) (hs : Asc (weave (A ++ x :: B) (S ++ t :: T))) (hx : x.key = e.key) :
    weave (A ++ e :: B) (S ++ t :: T) = ins e (weave (A ++ x :: B) (S ++ t :: T)) := by
  rw [weave_at A S (x :: B) t T hsl] at hs ⊢
  rw [weave_at A S (e :: B) t T hsl]
  simp only [wtail] at *
  rw [← List.append_assoc] at hs ⊢
  rw [← List.append_assoc]
  have h1 := List.pairwise_append.1 hs
  exact (ins_over e x hx _ _ (fun a ha => by rw [← hx]; exact h1.2.2 a ha x List.mem_cons_self) (fun a ha => by rw [← hx]; exact (List.pairwise_cons.1 h1.2.1).1 a ha)).symm

/-- On the way to the child: what stands. -/
def OnWay (W wd : World) (c h p : Nat) (X : List Ent) (N : Nat) (F0 : Nat → Nat) (e : Ent) (k : Nat) : Prop :=
  ∃ iv cv A B S t T G, k = S.length ∧ Mid wd c h p iv cv A B S t T G ∧ t.n ≤ 62 ∧ N ≤ (A ++ B).length ∧ (A ++ B).length ≤ N + 1 ∧ weave (A ++ B) (S ++ t :: T) = X ∧ (∀ a ∈ A, klt a.key e.key = true) ∧ (∀ b ∈ B, klt e.key b.key = true) ∧ Stp F0 W wd (midF p iv cv S t T G)

set_option maxRecDepth 100000 in
set_option maxHeartbeats 1000000 in
theorem insert_inner {h : Nat} (IH : InsOK h) {w : World} {c p : Nat} {iv cv : Value} {A B : List Ent} {S : List Sub} {t : Sub} {T : List Sub} {G : Nat → Nat} {e : Ent} (M : Mid w c h p iv cv A B S t T G) (hn : (A ++ B).length ≤ 62)
    (hs : Asc (weave (A ++ B) (S ++ t :: T))) (hA : ∀ a ∈ A, klt a.key e.key = true) (hB : ∀ b ∈ B, klt e.key b.key = true) :
    Calls Try.prog 42 #[.pointer (some ⟨p, 0, none⟩), e.v, .int .i64 63] w fun r w' => ∃ (old : Ent) (b : Bool) (s' : Sub) (G' : Nat → Nat), r = .returned (.tuple #[old.v, .bool b]) ∧ s'.p = p ∧ IsT w' c (h + 1) s' ∧ (A ++ B).length ≤ s'.n ∧ s'.n ≤ (A ++ B).length + 1 ∧ s'.xs = ins e (weave (A ++ B) (S ++ t :: T)) ∧ Pool w' c G' ∧
      Stp (midF p iv cv S t T G) w w' (fun k => s'.F k + G' k) := by
  have hk : MissAt (A ++ B) e S.length := ⟨A, B, rfl, hA, hB, M.sl⟩
  have hsi : Asc (A ++ B) := hs.sub (sub_weave _ _)
  obtain ⟨k, hkS⟩ : ∃ k, k = S.length := ⟨_, rfl⟩
  rw [← hkS] at hk
  obtain ⟨m, hml⟩ : ∃ m, m = (kids (S ++ t :: T)).length := ⟨_, rfl⟩
  have hkl := kids_length (S ++ t :: T)
  obtain ⟨gc, cc, hcv⟩ : ∃ gc cc, cv = .slice (some ⟨gc, 0, none⟩) m cc := by
    rcases M.node.rc.form with ⟨_, h1⟩ | ⟨gc, cc, h1⟩
    · rw [h1] at hkl; simp at hkl
    · exact ⟨gc, cc, by rw [h1, hml]⟩
  subst hcv
  have hm0 : 0 < m := by rw [hml, hkl]; simp; omega
  have hm1 : (m : Int) ≠ 0 := by omega
  have hm2 : ((m : Int) == 0) = false := by simpa using hm1
  obtain ⟨f, hcow, _⟩ := M.pool.cow
  obtain ⟨W, hW, ⟨hbox, hzero⟩, hchg⟩ : ∃ W, W = (w.alloc (Obj.cells #[Value.string e.key, Value.int IntKind.u64 e.ver, Value.slice e.va e.vn e.vc] 33)).alloc (Obj.cells #[Value.string { data := #[] }, Value.int IntKind.u64 0, Value.slice none 0 0] 33) ∧
      (W.heap[w.heap.size]? = some (.cells #[Value.string e.key, Value.int IntKind.u64 e.ver, Value.slice e.va e.vn e.vc] 33 (0, 0)) ∧
      W.heap[w.heap.size + 1]? = some (.cells #[Value.string { data := #[] }, Value.int IntKind.u64 0, Value.slice none 0 0] 33 (0, 0))) ∧ Chg0 w W :=
    ⟨_, rfl, two_boxes w _ _ _ _, ((Chg.refl _ w).alloc _).alloc _⟩
  have MW := M.grew hchg
  have hcowW := hchg.blk hcow
  have c0 : W.cell? ⟨p, 0, none⟩ = some iv := cell_blk MW.node.blk 0
  have c2 : W.cell? ⟨p, 2, none⟩ = some (.pointer (some ⟨c, 0, none⟩)) := cell_blk MW.node.blk 2
  have l1 : W.cell? ⟨c, 1, none⟩ = some lessV := cell_blk hcowW 1
  have b0 : W.cell? ⟨w.heap.size, 0, none⟩ = some (.string e.key) := cell_blk hbox 0
  have b1 : W.cell? ⟨w.heap.size, 1, none⟩ = some (.int .u64 e.ver) := cell_blk hbox 1
  have b2 : W.cell? ⟨w.heap.size, 2, none⟩ = some (.slice e.va e.vn e.vc) := cell_blk hbox 2
  have HB0 : Hid (∀ j, midF p iv (.slice (some ⟨gc, 0, none⟩) m cc) S t T G (w.heap.size + j) = 0) := fun j => M.zero (by omega)
  have Hs := hide hs
  have Hsi := hide hsi
  have Hn := hide hn
  have Hk := hide hk
  have HkS := hide hkS
  have HA := hide hA
  have HB := hide hB
  have hchgW := hide hchg
  have HIH := hide IH
  clear hs hsi hn hk hkS hA hB M hcow hchg hml hkl hm0 IH
  unfold Ent.v
  unfold lessV at l1
  go_enter Try.func42, Try.ntmps42
  go_wp2
  rw [← hW]
  clear hW
  generalize hb : w.heap.size = b at *
  have Hb := hide hb
  clear hb
  go_region_held3 (fun w' => w'.cell? ⟨p, 0, none⟩ = some iv ∧ w'.cell? ⟨p, 2, none⟩ = some (.pointer (some ⟨c, 0, none⟩)) ∧ w'.cell? ⟨c, 1, none⟩ = some (.func (.func 29) #[] #[]) ∧ w'.cell? ⟨b, 0, none⟩ = some (.string e.key) ∧ w'.cell? ⟨b, 1, none⟩ = some (.int .u64 e.ver) ∧ w'.cell? ⟨b, 2, none⟩ = some (.slice e.va e.vn e.vc))
    (first | exact ⟨c0, c2, l1, b0, b1, b2⟩ | exact ⟨Chg0.cell hc c0, Chg0.cell hc c2, Chg0.cell hc l1, Chg0.cell hc b0, Chg0.cell hc b1, Chg0.cell hc b2⟩)
    ((go_at_call 43; refine (find_miss MW.node.drew.ri Hsi.out (by have := Hn.out; omega) e Hk.out).mono ?_; rintro _ w1 ⟨rfl, hc⟩))
  have hc' : Chg0 W w1 := ((Chg.refl (fun _ => 0) W).drew).trans hc
  have M1 := MW.grew hc'
  have hS1 := M1.stp.pre hc'
  clear hc hc' c0 c2 l1 b0 b1 b2 hcowW MW
  have c1 : w1.cell? ⟨p, 1, none⟩ = some (.slice (some ⟨gc, 0, none⟩) m cc) := cell_blk M1.node.blk 1
  go_upto_if 60 with (go_at_call 51; rw [HkS.out]; refine (maybeSplitM M1 (by have := Hn.out; omega)).mono ?_; rintro _ w2 ⟨bb, rfl, hbb⟩)
  go_cut [8] (fun s8 wd => ∃ i : Nat, s8 = .int .i64 i ∧ OnWay W wd c h p (weave (A ++ B) (S ++ t :: T)) (A ++ B).length (midF p iv (.slice (some ⟨gc, 0, none⟩) m cc) S t T G) e i)
  case first =>
    rcases hbb.out with ⟨rfl, hb1, rfl⟩ | ⟨rfl, e1, t1, t2, iv2, cv2, G2, hn1, hn2, M2, hw2, hS2⟩
    · go_wp2
      go_meet
      case rel => exact ⟨S.length, rfl, _, _, A, B, S, t, T, G, rfl, M1, hb1, Nat.le_refl _, Nat.le_succ _, rfl, HA.out, HB.out, hS1⟩
    · have hT2 := hS1.trans hS2
      have hb2 := hT2.blk hbox (HB0.out 0)
      have hz2 := hT2.blk hzero (HB0.out 1)
      have hNl : (A ++ e1 :: B).length = (A ++ B).length + 1 := by simp; omega
      have he1 : (A ++ e1 :: B)[S.length]? = some e1 := by rw [M2.sl, List.getElem?_append_right (Nat.le_refl _)]; simp
      obtain ⟨n2, hn2l⟩ : ∃ n2, n2 = (A ++ e1 :: B).length := ⟨_, rfl⟩
      obtain ⟨g2, cap2, hiv2⟩ : ∃ g2 cap2, iv2 = .slice (some ⟨g2, 0, none⟩) n2 cap2 := by
        rcases M2.node.ri.form with ⟨_, h1⟩ | ⟨g2, cap2, h1⟩
        · simp at h1
        · exact ⟨g2, cap2, by rw [h1, hn2l]⟩
      subst hiv2
      have hSn : S.length < n2 := by rw [hn2l, M2.sl]; simp
      have hn63 : n2 ≤ 63 := by have := Hn.out; omega
      have hSi : (S.length : Int) ≤ 63 := by omega
      have hS0 : (0 : Int) ≤ (S.length : Int) := Int.natCast_nonneg _
      have hw1 : IntKind.i64.wrap ((S.length : Int) + 1) = (S.length : Int) + 1 := by rw [IntKind.wrap_i64]; omega
      have hix : ∀ w', (Instr.indexAt 102 (.slice (some ⟨g2, 0, none⟩) n2 cap2) (.int .i64 (S.length : Int))).run Try.prog w' = .ok (.pointer (some ⟨g2, S.length * 3, none⟩)) w' :=
        fun w' => run_ix (P := Try.prog) 102 3 g2 n2 cap2 S.length (S.length : Int) rfl hSn Try.underlying102 (fun _ => by kernel_rfl) w'
      obtain ⟨f2, hcow2, _⟩ := M2.pool.cow
      obtain ⟨sp2, hrow2⟩ := M2.node.ri.blkOf
      obtain ⟨x0, x1, x2⟩ := ent_at hrow2 he1
      have c0 : w2.cell? ⟨p, 0, none⟩ = some (.slice (some ⟨g2, 0, none⟩) n2 cap2) := cell_blk M2.node.blk 0
      have He1 := hide he1
      have HNl := hide hNl
      have Hn1 := hide hn1
      have Hn2 := hide hn2
      have Hw2 := hide hw2
      have Hn2l := hide hn2l
      have hpg : p ≠ g2 := fun e => by have := M2.node.uniq p; rw [one_self, ob_slice, e, one_self] at this; omega
      have zb := hT2.zero hbox (HB0.out 0)
      have zz := hT2.zero hzero (HB0.out 1)
      have hbg : b ≠ g2 := fun e => by unfold midF nodeF at zb; rw [ob_slice, e, one_self] at zb; omega
      have hzg : b + 1 ≠ g2 := fun e => by unfold midF nodeF at zz; rw [ob_slice, e, one_self] at zz; omega
      have Hzz := hide zz
      clear he1 hNl hn1 hn2 hw2 hn2l hrow2 hS2 hSn zb zz
      go_wp2
      obtain ⟨w3, hw3, hbd, hch3⟩ : ∃ w3, w3 = w2.alloc (Obj.cells #[Value.string e1.key, Value.int IntKind.u64 e1.ver, Value.slice e1.va e1.vn e1.vc] 33) ∧
          w3.heap[w2.heap.size]? = some (.cells #[Value.string e1.key, Value.int IntKind.u64 e1.ver, Value.slice e1.va e1.vn e1.vc] 33 (0, 0)) ∧ Chg0 w2 w3 := ⟨_, rfl, (MapKept.heap_alloc w2 _).1, (Chg.refl _ w2).alloc _⟩
      rw [← hw3]
      have M3 := M2.grew hch3
      have hT3 := hT2.post hch3
      have hb3 := hch3.blk hb2
      have hz3 := hch3.blk hz2
      have hcow3 := hch3.blk hcow2
      clear hw3 M2 hT2 hb2 hz2 hcow2 c0 x0 x1 x2 hch3
      generalize w2.heap.size = d at *
      have c0 : w3.cell? ⟨p, 0, none⟩ = some (.slice (some ⟨g2, 0, none⟩) n2 cap2) := cell_blk M3.node.blk 0
      have c2 : w3.cell? ⟨p, 2, none⟩ = some (.pointer (some ⟨c, 0, none⟩)) := cell_blk M3.node.blk 2
      have l1 : w3.cell? ⟨c, 1, none⟩ = some (.func (.func 29) #[] #[]) := cell_blk hcow3 1
      obtain ⟨b0, b1, b2⟩ := box_cells hb3
      obtain ⟨d0, d1, d2⟩ := box_cells hbd
      cases h1 : klt e.key e1.key with
      | true =>
        go_region_held3 (fun w' => w'.cell? ⟨p, 2, none⟩ = some (.pointer (some ⟨c, 0, none⟩)) ∧ w'.cell? ⟨c, 1, none⟩ = some (.func (.func 29) #[] #[]) ∧ w'.cell? ⟨b, 0, none⟩ = some (.string e.key) ∧ w'.cell? ⟨b, 1, none⟩ = some (.int .u64 e.ver) ∧ w'.cell? ⟨b, 2, none⟩ = some (.slice e.va e.vn e.vc) ∧ w'.cell? ⟨d, 0, none⟩ = some (.string e1.key) ∧ w'.cell? ⟨d, 1, none⟩ = some (.int .u64 e1.ver) ∧ w'.cell? ⟨d, 2, none⟩ = some (.slice e1.va e1.vn e1.vc))
          (first | exact ⟨c2, l1, b0, b1, b2, d0, d1, d2⟩ | exact ⟨Chg0.cell hc c2, Chg0.cell hc l1, Chg0.cell hc b0, Chg0.cell hc b1, Chg0.cell hc b2, Chg0.cell hc d0, Chg0.cell hc d1, Chg0.cell hc d2⟩)
          ((go_at_call 29; refine (less29 _ e e1).mono ?_; rintro _ w4 ⟨rfl, hc⟩; rw [h1]))
        have hc' : Chg0 w3 w4 := ((Chg.refl (fun _ => 0) w3).drew).trans hc
        go_wp2
        go_meet
        case rel =>
          refine ⟨S.length, rfl, _, _, A, e1 :: B, S, t1, t2 :: T, G2, rfl, M3.grew hc', by have := Hn1.out; omega, by have := HNl.out; omega, by have := HNl.out; omega, Hw2.out, HA.out, fun x hx => ?_, hT3.post hc'⟩
          rcases List.mem_cons.1 hx with rfl | hx
          · exact h1
          · exact HB.out x hx
      | false =>
        go_region_held3 (fun w' => w'.cell? ⟨p, 2, none⟩ = some (.pointer (some ⟨c, 0, none⟩)) ∧ w'.cell? ⟨c, 1, none⟩ = some (.func (.func 29) #[] #[]) ∧ w'.cell? ⟨b, 0, none⟩ = some (.string e.key) ∧ w'.cell? ⟨b, 1, none⟩ = some (.int .u64 e.ver) ∧ w'.cell? ⟨b, 2, none⟩ = some (.slice e.va e.vn e.vc) ∧ w'.cell? ⟨d, 0, none⟩ = some (.string e1.key) ∧ w'.cell? ⟨d, 1, none⟩ = some (.int .u64 e1.ver) ∧ w'.cell? ⟨d, 2, none⟩ = some (.slice e1.va e1.vn e1.vc))
          (first | exact ⟨c2, l1, b0, b1, b2, d0, d1, d2⟩ | exact ⟨Chg0.cell hc c2, Chg0.cell hc l1, Chg0.cell hc b0, Chg0.cell hc b1, Chg0.cell hc b2, Chg0.cell hc d0, Chg0.cell hc d1, Chg0.cell hc d2⟩)
          ((go_at_call 29; refine (less29 _ e e1).mono ?_; rintro _ w4 ⟨rfl, hc⟩; rw [h1]))
        have hc' : Chg0 w3 w4 := ((Chg.refl (fun _ => 0) w3).drew).trans hc
        have M4 := M3.grew hc'
        have hT4 := hT3.post hc'
        have hb4 := hc'.blk hb3
        have hz4 := hc'.blk hz3
        have hbd4 := hc'.blk hbd
        have c0' := Chg0.cell hc' c0
        have c2' := Chg0.cell hc' c2
        have l1' := Chg0.cell hc' l1
        clear hc hc' M3 hT3 hb3 hz3 hbd c0 c2 l1 b0 b1 b2 d0 d1 d2 hcow3
        obtain ⟨b0, b1, b2⟩ := box_cells hb4
        obtain ⟨d0, d1, d2⟩ := box_cells hbd4
        go_wp2
        cases h2 : klt e1.key e.key with
        | true =>
          go_region_held3 (fun w' => w'.cell? ⟨p, 2, none⟩ = some (.pointer (some ⟨c, 0, none⟩)) ∧ w'.cell? ⟨c, 1, none⟩ = some (.func (.func 29) #[] #[]) ∧ w'.cell? ⟨b, 0, none⟩ = some (.string e.key) ∧ w'.cell? ⟨b, 1, none⟩ = some (.int .u64 e.ver) ∧ w'.cell? ⟨b, 2, none⟩ = some (.slice e.va e.vn e.vc) ∧ w'.cell? ⟨d, 0, none⟩ = some (.string e1.key) ∧ w'.cell? ⟨d, 1, none⟩ = some (.int .u64 e1.ver) ∧ w'.cell? ⟨d, 2, none⟩ = some (.slice e1.va e1.vn e1.vc))
            (first | exact ⟨c2', l1', b0, b1, b2, d0, d1, d2⟩ | exact ⟨Chg0.cell hc c2', Chg0.cell hc l1', Chg0.cell hc b0, Chg0.cell hc b1, Chg0.cell hc b2, Chg0.cell hc d0, Chg0.cell hc d1, Chg0.cell hc d2⟩)
            ((go_at_call 29; refine (less29 _ e1 e).mono ?_; rintro _ w5 ⟨rfl, hc⟩; rw [h2]))
          have hc' : Chg0 w4 w5 := ((Chg.refl (fun _ => 0) w4).drew).trans hc
          go_wp2
          go_meet
          case rel =>
            refine ⟨S.length + 1, rfl, _, _, A ++ [e1], B, S ++ [t1], t2, T, G2, by simp, (M4.grew hc').shift, by have := Hn2.out; omega, by rw [mid_e]; have := HNl.out; omega, by rw [mid_e]; have := HNl.out; omega, by rw [mid_e, mid_e]; exact Hw2.out, fun x hx => ?_, HB.out, (hT4.post hc').congr (fun _ => rfl) (fun k => (midF_shift _ _ _ _ _ _ _ _ k).symm)⟩
            rcases List.mem_append.1 hx with hx | hx
            · exact HA.out x hx
            · rw [List.mem_singleton.1 hx]; exact h2
        | false =>
          go_region_held3 (fun w' => w'.cell? ⟨p, 2, none⟩ = some (.pointer (some ⟨c, 0, none⟩)) ∧ w'.cell? ⟨c, 1, none⟩ = some (.func (.func 29) #[] #[]) ∧ w'.cell? ⟨b, 0, none⟩ = some (.string e.key) ∧ w'.cell? ⟨b, 1, none⟩ = some (.int .u64 e.ver) ∧ w'.cell? ⟨b, 2, none⟩ = some (.slice e.va e.vn e.vc) ∧ w'.cell? ⟨d, 0, none⟩ = some (.string e1.key) ∧ w'.cell? ⟨d, 1, none⟩ = some (.int .u64 e1.ver) ∧ w'.cell? ⟨d, 2, none⟩ = some (.slice e1.va e1.vn e1.vc))
            (first | exact ⟨c2', l1', b0, b1, b2, d0, d1, d2⟩ | exact ⟨Chg0.cell hc c2', Chg0.cell hc l1', Chg0.cell hc b0, Chg0.cell hc b1, Chg0.cell hc b2, Chg0.cell hc d0, Chg0.cell hc d1, Chg0.cell hc d2⟩)
            ((go_at_call 29; refine (less29 _ e1 e).mono ?_; rintro _ w5 ⟨rfl, hc⟩; rw [h2]))
          have hc' : Chg0 w4 w5 := ((Chg.refl (fun _ => 0) w4).drew).trans hc
          have M5 := M4.grew hc'
          have hT5 := hT4.post hc'
          have hb5 := hc'.blk hb4
          have hz5 := hc'.blk hz4
          have c5 := Chg0.cell hc' c0'
          clear hc hc' M4 hT4 hb4 hz4 hbd4 c0' c2' l1' b0 b1 b2 d0 d1 d2
          obtain ⟨sp5, hrow5⟩ := M5.node.ri.blkOf
          obtain ⟨x0, x1, x2⟩ := ent_at hrow5 He1.out
          clear hrow5
          go_wp2
          obtain ⟨w6, hw6, hbx, hch6⟩ : ∃ w6, w6 = w5.alloc (Obj.cells #[Value.string e1.key, Value.int IntKind.u64 e1.ver, Value.slice e1.va e1.vn e1.vc] 33) ∧
              w6.heap[w5.heap.size]? = some (.cells #[Value.string e1.key, Value.int IntKind.u64 e1.ver, Value.slice e1.va e1.vn e1.vc] 33 (0, 0)) ∧ Chg0 w5 w6 := ⟨_, rfl, (MapKept.heap_alloc w5 _).1, (Chg.refl _ w5).alloc _⟩
          rw [← hw6]
          have M6 := M5.grew hch6
          have hT6 := hT5.post hch6
          have hb6 := hch6.blk hb5
          have hz6 := hch6.blk hz5
          have hqg : w5.heap.size ≠ g2 := by have := M5.node.ri.lt (k := g2) (by rw [ob_slice, one_self]; omega); omega
          clear hw6 M5 hT5 hb5 hz5 c5 x0 x1 x2 hch6
          generalize w5.heap.size = q at *
          obtain ⟨sp6, hrow6⟩ := M6.node.ri.blkOf
          obtain ⟨x0, x1, x2⟩ := ent_at hrow6 He1.out
          have g0 := frozen_blk hrow6 (S.length * 3)
          have g1 := frozen_blk hrow6 (S.length * 3 + 1)
          have g3 := frozen_blk hrow6 (S.length * 3 + 2)
          have c0 : w6.cell? ⟨p, 0, none⟩ = some (.slice (some ⟨g2, 0, none⟩) n2 cap2) := cell_blk M6.node.blk 0
          obtain ⟨b0, b1, b2⟩ := box_cells hb6
          clear hrow6
          go_region_held3 (fun w' => w'.cell? ⟨p, 0, none⟩ = some (.slice (some ⟨g2, 0, none⟩) n2 cap2) ∧ w'.cell? ⟨b, 0, none⟩ = some (.string e.key) ∧ w'.cell? ⟨b, 1, none⟩ = some (.int .u64 e.ver) ∧ w'.cell? ⟨b, 2, none⟩ = some (.slice e.va e.vn e.vc))
            (first | exact ⟨c0, b0, b1, b2⟩ | exact ⟨(kept3 hpg).trans c0, (kept3 hbg).trans b0, (kept3 hbg).trans b1, (kept3 hbg).trans b2⟩) (fail)
          obtain ⟨r1, r2, r3⟩ := store3 M6.node S.length (by rw [← Hn2l.out, Hn2l.out, M6.sl]; simp) e
          have eset : (A ++ e1 :: B).set S.length e = A ++ e :: B := by rw [M6.sl, List.set_append_right _ _ (Nat.le_refl _)]; simp
          rw [eset] at r1
          obtain ⟨w7, hw7, hN7, hS7, hbx7, hz7⟩ : ∃ w7, w7 = (((w6.setCell ⟨g2, S.length * 3, none⟩ (.string e.key)).setCell ⟨g2, S.length * 3 + 1, none⟩ (.int .u64 e.ver)).setCell ⟨g2, S.length * 3 + 2, none⟩ (.slice e.va e.vn e.vc)).drew ∧ NodeAt w7 p (.slice (some ⟨g2, 0, none⟩) n2 cap2) cv2 (ptr c) (A ++ e :: B) (kids (S ++ t1 :: t2 :: T)) ∧
              Stp (nodeF p (.slice (some ⟨g2, 0, none⟩) n2 cap2) cv2) w6 w7 (nodeF p (.slice (some ⟨g2, 0, none⟩) n2 cap2) cv2) ∧ w7.heap[q]? = some (.cells #[Value.string e1.key, Value.int IntKind.u64 e1.ver, Value.slice e1.va e1.vn e1.vc] 33 (0, 0)) ∧
              w7.heap[b + 1]? = some (.cells #[Value.string { data := #[] }, Value.int IntKind.u64 0, Value.slice none 0 0] 33 (0, 0)) :=
            ⟨_, rfl, r1.drew, r2.drew, (r3.same q (Array.getElem?_eq_some_iff.1 hbx).1 (one_other hqg)).trans hbx, (r3.same (b + 1) (Array.getElem?_eq_some_iff.1 hz6).1 (one_other hzg)).trans hz6⟩
          rw [← hw7]
          obtain ⟨M7, hT7⟩ := M6.own hN7 hS7 rfl rfl
          have hT := hT6.trans hT7
          clear hw7 r1 r2 r3 c0 b0 b1 b2 x0 x1 x2 g0 g1 g3 M6 hT6 hT7 hb6 hbx hz6 hN7 hS7
          obtain ⟨d0, d1, d2⟩ := box_cells hbx7
          obtain ⟨z0, z1, z2⟩ := box_cells hz7
          have y0 := frozen_blk hz7 0
          have y1 := frozen_blk hz7 1
          have y2 := frozen_blk hz7 2
          go_wp2
          have r0 := boxPut_at e1 hz7
          refine bodyPost_ret (v := .tuple #[e1.v, .bool true]) (by
            have r1 := cell_blk r0 0
            have r2 := cell_blk r0 1
            have r3 := cell_blk r0 2
            unfold boxPut at r1 r2 r3
            simp [results, Try.results42, go_sem, r1, r2, r3, Ent.v, ptr]) rfl ?_
          have hz := Hzz.out
          refine ⟨e1, true, _, G2, rfl, ?_, M7.whole.boxPut (b := b + 1) ?_ e1, ?_, ?_, ?_, M7.pool.boxPut (b := b + 1) ?_ e1, (hT.pre hchgW.out).boxPut (b := b + 1) (by rw [Hb.out]; omega) e1⟩
          · rfl
          · show nodeF p _ cv2 (b + 1) + sumF (S ++ t1 :: t2 :: T) (b + 1) = 0
            unfold midF at hz
            omega
          · have := HNl.out; simp at this ⊢ <;> omega
          · have := HNl.out; simp at this ⊢; omega
          · rw [← Hw2.out]
            exact weave_set M7.sl (by rw [Hw2.out]; exact Hs.out) (klt_total h2 h1)
          · unfold midF at hz
            omega
  case rest =>
    clear hbb hS1 c1 M1
    obtain ⟨i, rfl, iv3, cv3, A3, B3, S3, t3, T3, G3, hi3, M3, htn3, hN3a, hN3b, hw3, hA3, hB3, hS3⟩ := hcut
    have hb3 := hS3.blk hbox (HB0.out 0)
    have hz3 := hS3.blk hzero (HB0.out 1)
    have z0 := hS3.zero hbox (HB0.out 0)
    have z1 := hS3.zero hzero (HB0.out 1)
    unfold midF at z0 z1
    have hsm := sum_mid S3 t3 T3
    have hsb := hsm b
    have hsb1 := hsm (b + 1)
    have hu3 := M3.uniq
    have n0 : nodeF p iv3 cv3 b = 0 := by omega
    have n1 : nodeF p iv3 cv3 (b + 1) = 0 := by omega
    have f0 : t3.F b + G3 b = 0 := by omega
    have f1 : t3.F (b + 1) + G3 (b + 1) = 0 := by omega
    have hkt := M3.kid t3 (by simp)
    have d2 : wc.cell? ⟨t3.p, 2, none⟩ = some (.pointer (some ⟨c, 0, none⟩)) := by
      obtain ⟨_, _, _, _, hNt, _⟩ := hkt.1.node
      exact cell_blk hNt.blk 2
    have hxs3 : Asc t3.xs := by
      have := Hs.out
      rw [← hw3] at this
      exact this.sub (kid_weave A3 S3 B3 t3 T3 M3.sl)
    have hkat : Hid ((kids (S3 ++ t3 :: T3))[i]? = some (ptr t3.p)) := by show _ = _; rw [hi3]; exact kids_at S3 t3 T3
    have Hi3 := hide hi3
    have Hw3 := hide hw3
    have hb1ne : b ≠ b + 1 := by omega
    clear hi3 hw3 z0 z1 hsb hsb1
    go_wp2
    go_region_held3 (fun w' => w'.cell? ⟨b, 0, none⟩ = some (.string e.key) ∧ w'.cell? ⟨b, 1, none⟩ = some (.int .u64 e.ver) ∧ w'.cell? ⟨b, 2, none⟩ = some (.slice e.va e.vn e.vc))
      (first | exact box_cells hb3 | exact box_cells (hS5.blk hb3 n0) | exact box_cells (hS6.blk (hS5.blk hb3 n0) f0) | exact box_cells ((boxPut_other old hb1ne).trans (hS6.blk (hS5.blk hb3 n0) f0)))
      ((first | (go_at_call 52; refine (mutableChild (q := t3.p) M3.node.drew hkat.out d2).mono ?_; rintro _ w5 ⟨rfl, hN5, hS5⟩; unfold ptr) | (go_at_call 42; refine (HIH.out w5 c t3 G3 e (hkt.1.keep hS5.predrew.chg (fun k => by have := hu3 k; have := hsm k; omega)) htn3 hxs3 (M3.pool.keep hS5.predrew.chg (fun k => by have := hu3 k; omega)) (fun k => by have := hu3 k; have := hsm k; omega)).mono ?_; rintro _ w6 ⟨old, ob, t6, G6, rfl, hp6, H6, hn6, hn6', hx6, hP6, hS6⟩; unfold Ent.v; have hz6 := hS6.blk (hS5.predrew.blk hz3 n1) f1; obtain ⟨q0, q1, q2⟩ := box_cells hz6; have y0 := frozen_blk hz6 0; have y1 := frozen_blk hz6 1; have y2 := frozen_blk hz6 2)))
    go_wp2
    have r0 := boxPut_at old hz6
    refine bodyPost_ret (v := .tuple #[old.v, .bool ob]) (by
      have r1 := cell_blk r0 0
      have r2 := cell_blk r0 1
      have r3 := cell_blk r0 2
      unfold boxPut at r1 r2 r3
      simp [results, Try.results42, go_sem, r1, r2, r3, Ent.v, ptr]) rfl ?_
    obtain ⟨M5, hT5⟩ := M3.own hN5 hS5.predrew rfl rfl
    obtain ⟨M6, hT6⟩ := M5.child H6 hp6 ⟨by omega, by omega⟩ hP6 hS6
    have hT := (hS3.trans hT5).trans hT6
    have hz := hT.zero hzero (HB0.out 1)
    refine ⟨old, ob, _, G6, rfl, ?_, M6.whole.boxPut (b := b + 1) ?_ old, ?_, ?_, ?_, hP6.boxPut (b := b + 1) ?_ old, (hT.pre hchgW.out).boxPut (b := b + 1) (by rw [Hb.out]; omega) old⟩
    · rfl
    · show nodeF p iv3 cv3 (b + 1) + sumF (S3 ++ t6 :: T3) (b + 1) = 0
      unfold midF at hz
      omega
    · exact hN3a
    · exact hN3b
    · rw [← Hw3.out]
      exact weave_ins M3.sl M3.tl (by rw [Hw3.out]; exact Hs.out) hA3 hB3 hx6
    · unfold midF at hz
      omega

end Go.Proofs.Qxb6603483a
