/-
  The key map's from("") as an iterator.
-/
import Derived.Test.Qxb6603483aAsc
import Derived.Test.Qxb6603483aState
namespace Go.Proofs.Qxb6603483a
open Go.RowKit
set_option linter.unusedSimpArgs false
attribute [local go_sem ↓] Go.wp_at_zero Go.wp_at_succ

theorem asc_any {l B N : Nat} {J Jx : List Ent → World → Prop} (RR : Rnds l B N J Jx) {w : World} {t : Nat} {X : List Ent} {F : Nat → Nat} (H : Bt w t X F) (hAp : Apart B w F) (hOk : Okay B w) (hJ : J [] w) (hN : X.length ≤ N) :
    Calls Try.prog 27 #[ptr t, .agg #[.string ⟨#[]⟩, .int .u64 0, .slice none 0 0], .func (.yield l) #[] #[]] w fun r w' => r = .returned (.tuple #[]) ∧ (J X w' ∨ ∃ q, q <+: X ∧ Jx q w') := by
  rcases H with ⟨hA, ⟨c, len, G, hX, hb, hP, hF, hu⟩ | ⟨c, len, h, s, G, R, h1, h2, h3, hF⟩⟩
  · subst hX
    refine (asc_nil hb).mono ?_
    rintro r w' ⟨rfl, hc⟩
    exact ⟨rfl, Or.inl (RR.abide _ _ _ hJ hc)⟩
  · have hFe : F = rootF t s G := funext hF
    rw [← h3] at hA hN ⊢
    rw [hFe] at hAp
    exact asc_root RR R h1 hA hAp hOk hJ hN

set_option maxRecDepth 100000 in
set_option maxHeartbeats 1000000 in
theorem from26 {l B N : Nat} {J Jx : List Ent → World → Prop} (RR : Rnds l B N J Jx) {w : World} {t b1 b2 : Nat} {X : List Ent} {F : Nat → Nat} (H : Bt w t X F) (hAp : Apart B w F) (hOk : Okay B w) (hJ : J [] w) (hN : X.length ≤ N)
    (k1 : w.cell? ⟨b1, 0, none⟩ = some (.pointer (some ⟨t, 0, none⟩))) (k2 : w.cell? ⟨b2, 0, none⟩ = some (.string ⟨#[]⟩)) :
    Calls Try.prog 26 #[.func (.yield l) #[] #[], .pointer (some ⟨b1, 0, none⟩), .pointer (some ⟨b2, 0, none⟩)] w fun r w' => r = .returned (.tuple #[]) ∧ (J X w' ∨ ∃ q, q <+: X ∧ Jx q w') := by
  have HC := asc_any RR H hAp hOk hJ hN
  unfold ptr at HC
  clear H hAp hOk hJ hN RR
  go_enter Try.func26, Try.ntmps26
  go_wp2_with (fail)
  refine HC.mono ?_
  rintro _ w1 ⟨rfl, h1⟩
  go_wp2
  go_end0
  exact ⟨rfl, h1⟩

set_option maxRecDepth 100000 in
set_option maxHeartbeats 1000000 in
theorem from22 {w : World} {t : Nat} : Calls Try.prog 22 #[.agg #[.pointer (some ⟨t, 0, none⟩)], .string ⟨#[]⟩] w fun r w' => r = .returned (.func (.func 26) #[] #[.pointer (some ⟨w.heap.size, 0, none⟩), .pointer (some ⟨w.heap.size + 1, 0, none⟩)]) ∧ w' = (w.alloc (.cells #[.pointer (some ⟨t, 0, none⟩)] 48)).alloc (.cells #[.string ⟨#[]⟩] 9) := by
  go_enter Try.func22, Try.ntmps22
  go_wp2
  go_ret
  exact ⟨rfl, rfl⟩

/-- The entry as it is handed to a round. -/
def encE (x : Ent) : Array Value := #[.agg #[.string x.key, .int .u64 x.ver, .slice x.va x.vn x.vc]]

theorem grownBy_of_chg0 {W W' : World} (h : Chg0 W W') : W.grownBy W' none := ⟨h.os, h.tape, h.output, h.size, fun k hk _ => h.same k hk rfl⟩

/-- Where no depth is asked the figures are all one. -/
theorem yield_any {m : Nat} (m' : Nat) {P : Program} {l : Nat} {args : Array Value} {W : World} {R : Ending → World → Prop} (h : YieldAt Fence.wide m P l args W R) : YieldAt Fence.wide m' P l args W R := by
  obtain ⟨fn, tmps, assign, body, hy, hR⟩ := h
  exact ⟨fn, tmps, assign, body, hy, hR.1, fun c cs _ => hR.2 c cs (room_wide _)⟩

theorem from_stops {n B N t b1 b2 : Nat} {X : List Ent} {F : Nat → Nat} {w : World} (H : Bt w t X F) (hAp : Apart B w F) (hOk : Okay B w) (hN : X.length ≤ N) (h1 : w.heap[b1]? = some (.cells #[.pointer (some ⟨t, 0, none⟩)] 48 (0, 0))) (h2 : w.heap[b2]? = some (.cells #[.string ⟨#[]⟩] 9 (0, 0))) :
    SeqStopsK Fence.wide n Try.prog 26 #[.pointer (some ⟨b1, 0, none⟩), .pointer (some ⟨b2, 0, none⟩)] encE (Keep B) (fun ys => ys = X) (fun pre => pre <+: X) N w := fun l J Jx W hW hJ hJx hY h0 => by
  have hc : Chg0 w W := ⟨hW.os, hW.tape, hW.output, hW.size, fun k hk _ => hW.block k hk⟩
  have hk := Keep.chg0 hc hOk.1
  have RR : Rnds l B N J Jx := ⟨fun pre W1 W2 hj hc1 => hJ pre W1 W2 none hj (grownBy_of_chg0 hc1) (fun r e => by cases e), fun m pre x W1 hj hl => yield_any m (hY pre x W1 hj hl)⟩
  refine callsIn_wide.2 ?_
  refine (from26 RR (H.grew hc) (hAp.keep hk) (hOk.keep hk) h0 hN (cell_blk (hc.blk h1) 0) (cell_blk (hc.blk h2) 0)).mono ?_
  rintro e W' ⟨rfl, h⟩
  exact ⟨⟨_, rfl⟩, h.imp (fun h => ⟨X, rfl, h⟩) (fun ⟨q, h1, h2⟩ => ⟨q, h1, h2⟩)⟩

end Go.Proofs.Qxb6603483a
