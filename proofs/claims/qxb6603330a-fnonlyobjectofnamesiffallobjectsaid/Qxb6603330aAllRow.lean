/-
  FnOnlyObjectOfNamesIffAllObject: the nil slice; the row.
-/
import Derived.Test.Qxb6603330aAll
import Derived.Test.Qxb6603330aOpen2
namespace Go.Proofs.Qxb6603330a
open Go.RowKit Go.Maps Go.WideMaps
open Go.ChangeShapes Go.WideShapes Go.ChangeAt Go.WideElems

theorem ret_tt {a : Bool} (h : a = true) : Ending.returned (.bool a) = .returned (.bool true) := by rw [h]

set_option maxRecDepth 100000 in
set_option maxHeartbeats 1000000 in
theorem all_nil (w : World) :
    Calls Try.prog 4 #[.slice none 0 0] w fun e w' => e = .returned (.bool true) ∧ Below w.heap.size w w' := by
  have hneq : ∀ (x : Option Addr) n c w', (binOp .neq 25 (.slice x n c) (.slice none 0 0)).run Try.prog w' = .ok (.bool !x.isNone) w' := fun x n c w' => run_neq_slice_nil_any w' 25 9 x n c 0 0 Try.underlying25
  have hs : StrsIn w none 0 0 [] (fun _ => ⟨0, 0, none⟩) := ⟨rfl, Nat.zero_le _, by simp, fun k _ hk => by omega, fun k hk => by omega, fun k hk => by omega⟩
  have Hs := hide hs
  clear hs
  go_enter Try.func4, Try.ntmps4
  go_wp2_with fail
  refine (zzBytes_any Hs.out).mono ?_
  rintro e w' ⟨⟨b, rfl⟩, hw'⟩
  have hw2 := hw'.symm
  clear hw'
  subst hw2
  cases b
  · go_wp2
    go_ret
    exact ⟨rfl, Below.refl _ _⟩
  go_wp2_with fail
  refine (within_any Hs.out).mono ?_
  rintro e w' ⟨⟨b, rfl⟩, hw'⟩
  have hw2 := hw'.symm
  clear hw'
  subst hw2
  cases b
  · go_wp2
    go_ret
    exact ⟨rfl, Below.refl _ _⟩
  go_wp2_with fail
  refine wp_loop_rounds 1 ?_
  rw [rounds_succ]
  go_wp2_with fail
  refine (zzInter_any (H := Unit) Hs.out (by omega) none .nil rfl).mono ?_
  rintro e w1 ⟨rfl, ⟨D1, hset1, hm1⟩, hb1⟩
  go_wp2_with fail
  refine (zzOnlyObject_any _ D1 _ hm1).mono ?_
  rintro e w2 ⟨rfl, hb2⟩
  have hoo : ooB D1 = true := ooB_all hset1 hm1
  have Hoo := hide hoo
  clear hoo
  go_wp2
  go_ret
  exact ⟨ret_tt Hoo.out, hb1.trans (hb2.mono hb1.size)⟩

theorem open_strs_two {H : Type} {enc : TypeId × Value → H} {W : World} {base : Nat} {v : Value} {d : DataW H} {p : List MemPlace}
    (hok : Value.okWide Try.prog W .any base 25 v) (h : DataW.Trod enc Try.prog W 0 (fun _ => true) true 25 v d p) (hlt : ∀ x ∈ p, x.block < W.heap.size) :
    v = .slice none 0 0 ∨ ∃ ad len cap ss adr, v = .slice (some ad) len cap ∧ StrsIn W (some ad) len cap ss adr ∧ ∀ k, k < len → adr k = ad.add k := by
  obtain ⟨a0, len, cap, rfl⟩ := okWide_slice Try.underlying25 hok
  obtain ⟨fuel, hf⟩ := h
  rcases open_strings Try.underlying25 Try.underlying9 Try.cells9 hf with ⟨hcs, hx⟩ | ⟨a, len', cap', ss, hcs, _, hl, hm, hz, hx, hcell, hws⟩
  · simp [Value.cells] at hcs
    obtain ⟨rfl, rfl, rfl⟩ := hcs
    exact Or.inl rfl
  · simp [Value.cells] at hcs
    obtain ⟨rfl, rfl, rfl⟩ := hcs
    simp only [if_true] at hz
    have hp : p = MemPlace.row a ss.length := congrArg Prod.snd hx
    refine Or.inr ⟨a, len, cap, ss.take len, fun k => a.add k, rfl, ⟨by rw [List.length_take]; omega, Nat.le_trans hl hm, fun s hs => hws s (List.mem_of_mem_take hs), fun k w' hk => ?_, fun k hk => ?_, fun k hk => ?_⟩, fun k _ => rfl⟩
    · rw [run_indexAt_slice (h := Try.underlying25)]
      have hs : (sizeOf (Try.prog.elem 25)).run Try.prog w' = .ok 1 w' := by kernel_rfl
      rw [if_pos ⟨by omega, by omega⟩, hs]
      simp [Result.andThen]
    · have := hcell k (by omega)
      rw [this]
      simp [List.getD, List.getElem?_take_of_lt hk]
    · have hb : (a.add k).block = a.block := by unfold Addr.add; split <;> rfl
      rw [hb]
      refine hlt (.cell a.block (a.off + k)) ?_
      rw [hp]
      exact MemPlace.mem_row.2 ⟨k, by omega, rfl⟩

set_option maxRecDepth 100000 in
theorem all_lifted (os : Os) (started : os.Started) (H : Type) (enc : TypeId × Value → H) :
    ReturnsInHanded {} Try.checked os 4 .any (Rows.fnOnlyObjectOfNamesIffAllObjectSpec.pre6 enc Try.prog Try.f4 Rows.fnOnlyObjectOfNamesIffAllObjectRow.domain false) (Rows.fnOnlyObjectOfNamesIffAllObjectSpec.post enc Try.prog Try.f4 false true false false) := by
  refine returnsInHanded_of_change (C := Try.checked) Try.own started (by kernel_rfl) Try.func4
    (ChangeSpec.witness6 (enc := enc) (C := Try.checked) false ⟨#[], #[.slice none 0 0], []⟩ 8 (by kernel_rfl) (by kernel_rfl) (by kernel_rfl) (by kernel_rfl)) ?_
  intro W base args ds gs before hval0 hW _ _
  have hval : ∀ (j : Nat) t v, Try.f4.params[j]? = some t → args[j]? = some v → Value.okWide Try.prog W .any base t v := hval0
  have hW' := hW
  obtain ⟨p, q, hA0, hV, rfl, _, _⟩ := hW
  have hA : DataW.TrodAll enc Try.prog W 0 (fun _ => true) true Try.f4.params.toList args.toList ds p := hA0
  rw [Try.params4] at hA hval
  obtain ⟨v0, d0, rfl, rfl, h0⟩ := trodAll_one hA
  obtain ⟨rfl, rfl⟩ := trodVars_none hV
  clear hA0 hval0
  simp only [List.append_nil] at hW'
  have hlt : ∀ x ∈ p, x.block < W.heap.size := fun x hx => by simpa using hW'.lt x hx
  have hargs : ∀ (W' : World), Below W.heap.size W W' → DataW.Trod enc Try.prog W' 0 (fun b => decide (b < W.heap.size)) true 25 v0 d0 p :=
    fun W' hn => Below.trod Try.laidOut (by kernel_rfl) (of_decide_eq_true (by kernel_rfl)) h0 hn hlt
  have hcall : Calls Try.prog 4 #[v0] W fun e w' => e = .returned (.bool true) ∧ Below W.heap.size W w' := by
    rcases open_strs_two (hval 0 25 v0 rfl rfl) h0 hlt with rfl | ⟨ad, len, cap, ss, adr, rfl, hs, hadr⟩
    · exact all_nil W
    · exact all_some hs hadr
  refine hcall.mono fun e W' ⟨he, hnx⟩ => ?_
  subst he
  exact ⟨_, rfl, _, _, _, [], p, [], hW', trodAll_mk1 (shut_bool Try.underlying4 _), trodAll_mk1 (hargs _ hnx), rfl, hnx.frame _, fun h => by cases h⟩

theorem fnOnlyObjectOfNamesIffAllObject_holds : Rows.FnOnlyObjectOfNamesIffAllObjectSaid :=
  OpenClaim.holds_of_wide 4 Try.f4 rfl rfl rfl rfl rfl rfl rfl ⟨rfl, rfl, rfl, rfl, rfl⟩ rfl rfl rfl rfl rfl (by kernel_rfl) Try.func4 (by kernel_rfl)
    (of_decide_eq_true (by kernel_rfl)) (by unfold Func.isWrapper; first | (rw [if_pos (by decide +kernel)]; kernel_rfl) | (rw [if_neg (by decide +kernel)]; exact ⟨rfl, rfl⟩))
    (fun os started H enc _ => all_lifted os started H enc)

end Go.Proofs.Qxb6603330a
