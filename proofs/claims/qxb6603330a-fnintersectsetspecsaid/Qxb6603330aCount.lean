/-
  Plain: how many keys of a set have been met.
-/
import Derived.Test.Qxb6603330aInter2
namespace Go.Proofs.Qxb6603330a
open Go.RowKit Go.Maps Go.WideMaps

section
variable {H : Type}

/-- How many of D's keys does g say? -/
def cntG (D : DataW H) (g : List UInt8 → Bool) : Nat := match D with | .map es => (es.filter (fun p => onStr g p.1)).length | _ => 0

theorem cntG_congr (D : DataW H) {g g' : List UInt8 → Bool} (h : ∀ l, g l = g' l) : cntG D g = cntG D g' := by
  have : g = g' := funext h
  rw [this]

theorem onStr_other (g : List UInt8 → Bool) (l : List UInt8) (kl : Lit) (hne : ¬ kl = .string l) : onStr (fun x => g x || x == l) kl = onStr g kl := by
  cases kl <;> simp [onStr]
  intro e
  exact absurd (congrArg Lit.string e) hne

/-- Nothing more where the new one is no key. -/
theorem cntG_no {D : DataW H} {g : List UInt8 → Bool} {l : List UInt8} (hc : Canon D) (hh : Maps.has D (.string l) = false) : cntG D (fun x => g x || x == l) = cntG D g := by
  obtain ⟨es, rfl, _, hk⟩ := hc
  simp only [cntG]
  congr 1
  refine List.filter_congr (fun p hp => ?_)
  exact onStr_other g l p.1 (fun e => by
    have := List.any_eq_false.1 hh p hp
    rw [e] at this
    exact this (WideAt.sameKey_self (a := .string l) trivial))

theorem filter_one_more {es : List (Lit × DataW H)} {g : List UInt8 → Bool} {l : List UInt8} (hp : es.Pairwise (fun p q => p.1 ≠ q.1)) (hg : g l = false) (hh : ∃ p ∈ es, p.1 = .string l) :
    (es.filter (fun p => onStr (fun x => g x || x == l) p.1)).length = (es.filter (fun p => onStr g p.1)).length + 1 := by
  induction es with
  | nil => obtain ⟨p, hp', _⟩ := hh; cases hp'
  | cons y t ih =>
    obtain ⟨h1, h2⟩ := List.pairwise_cons.1 hp
    by_cases hy : y.1 = .string l
    · have ht : t.filter (fun p => onStr (fun x => g x || x == l) p.1) = t.filter (fun p => onStr g p.1) := by
        refine List.filter_congr (fun p hp' => ?_)
        exact onStr_other g l p.1 (fun e => h1 p hp' (hy.trans e.symm))
      have e1 : onStr (fun x => g x || x == l) y.1 = true := by rw [hy]; simp [onStr]
      have e2 : onStr g y.1 = false := by rw [hy]; simp [onStr, hg]
      rw [List.filter_cons, List.filter_cons, e1, e2, ht]
      simp
    · have hh' : ∃ p ∈ t, p.1 = .string l := by
        obtain ⟨p, hp', e⟩ := hh
        rcases List.mem_cons.1 hp' with rfl | hp'
        · exact absurd e hy
        · exact ⟨p, hp', e⟩
      have e1 : onStr (fun x => g x || x == l) y.1 = onStr g y.1 := onStr_other g l y.1 hy
      rw [List.filter_cons, List.filter_cons, e1]
      have := ih h2 hh'
      split
      · simp only [List.length_cons]; omega
      · exact this

/-- One more where the new one is a key. -/
theorem cntG_yes {D : DataW H} {g : List UInt8 → Bool} {l : List UInt8} (hc : Canon D) (hg : g l = false) (hh : Maps.has D (.string l) = true) : cntG D (fun x => g x || x == l) = cntG D g + 1 := by
  obtain ⟨es, rfl, hr, hk⟩ := hc
  obtain ⟨p, hp, hs⟩ := List.any_eq_true.1 hh
  exact filter_one_more (apart_of_rising hr) hg ⟨p, hp, WideAt.sameKey_eq hs⟩

/-- All, where every key has been met. -/
theorem cntG_all {D : DataW H} {f g : List UInt8 → Bool} (hc : Canon D) (hs : SetOk D f) (hfg : ∀ l, f l = true → g l = true) : cntG D g = Maps.size D := by
  obtain ⟨es, rfl, hr, hk⟩ := hc
  simp only [cntG, Maps.size]
  rw [List.filter_eq_self.2]
  intro p hp
  have h1 : Maps.has (.map es) p.1 = true := List.any_eq_true.2 ⟨p, hp, WideAt.sameKey_self (hk p hp)⟩
  rw [hs.has] at h1
  generalize p.1 = kl at h1
  cases kl <;> simp only [onStr] at h1 ⊢
  all_goals first | exact hfg _ h1 | cases h1

end

/-- What the law's loop has seen behind k rounds. -/
def seenB (ss : List ByteArray) (len k : Nat) (l : List UInt8) : Bool := holdB (ss.take k) l || (decide (len < k) && l == sI)

end Go.Proofs.Qxb6603330a
