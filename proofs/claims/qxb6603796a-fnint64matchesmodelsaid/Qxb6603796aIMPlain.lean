/-
  What the int64 model answers, told of 'whole''s answer: plain.
-/
import Derived.Test.Qxb6603796aValPlain
namespace Go.Proofs.Qxb6603796a

/-- Does an int64 hold it? (As 'fitsB', 'sval' of the walk's text.) -/
def fitB (neg : Bool) (mag : Int) (ok : Bool) : Bool := ok && (if neg = true then decide (mag ≤ 9223372036854775808) else decide (mag < 9223372036854775808))
def svl (neg : Bool) (mag : Int) : Int := if neg = true then -mag else mag
def limI (neg : Bool) : Int := if neg = true then 9223372036854775808 else 9223372036854775807

/-- The model's answer fits whatever 'whole' answers. -/
def IM (f : Nat → Int) (n o : Nat) (wok : Bool) (wv : Int) : Prop :=
  ∀ neg mag ok off, WholeRes f n o neg mag ok off → wok = fitB neg mag ok ∧ (wok = true → wv = svl neg mag)

theorem fit_le {neg : Bool} {mag : Int} (h : mag ≤ limI neg) : fitB neg mag true = true := by
  cases neg
  · simp [fitB, limI] at h ⊢; omega
  · simp [fitB, limI] at h ⊢; omega
theorem le_fit {neg : Bool} {mag : Int} {ok : Bool} (h : fitB neg mag ok = true) : ok = true ∧ mag ≤ limI neg := by
  cases neg
  · simp [fitB, limI] at h ⊢
    exact ⟨h.1, by omega⟩
  · simp [fitB, limI] at h ⊢
    exact ⟨h.1, by omega⟩

/-- Where 'whole' says yes. -/
theorem wr_of {f : Nat → Int} {n o s e : Nat} (hs : st f n o = s) (he : e = dEnd f n s) {neg : Bool} {mag : Int} {off : Nat} (h : WholeRes f n o neg mag true off) :
    neg = sgn f n o ∧ mag = val f s (e - s) ∧ s < n ∧ isD (f s) = true ∧ ¬ (f s = 48 ∧ s + 1 < e) ∧ ¬ (e < n ∧ isFE (f e) = true) := by
  obtain ⟨h1, j, h2, h3, h4, h5, h6, h7⟩ := h
  rw [hs] at h2 h3 h4 h7
  rcases h7 with ⟨c, _⟩ | ⟨hstop, hok⟩
  · cases c
  · have hj : s + j = e := by
      rw [he]
      exact dEnd_unique (by omega) (fun i a b => by have := h3 (i - s) (by omega); rwa [show s + (i - s) = i by omega] at this) hstop
    have hok' := hok.symm
    simp only [Bool.and_eq_true, Bool.not_eq_true', decide_eq_true_eq] at hok'
    obtain ⟨⟨k1, k2⟩, k3⟩ := hok'
    have h30 := h3 0 (by omega)
    rw [Nat.add_zero] at h30
    refine ⟨h1, by rw [h4, show e - s = j by omega], h30.1, h30.2, ?_, ?_⟩
    · rintro ⟨a, b⟩
      rw [a] at k2
      simp at k2
      omega
    · rintro ⟨a, b⟩
      rw [hj, b] at k3
      simp [a] at k3

/-- The model says no. -/
theorem im_no {f : Nat → Int} {n o s e : Nat} (hs : st f n o = s) (he : e = dEnd f n s)
    (h : ¬ (s < n ∧ isD (f s) = true) ∨ (f s = 48 ∧ s + 1 < e) ∨ (e < n ∧ isFE (f e) = true) ∨ limI (sgn f n o) < val f s (e - s)) : IM f n o false 0 := by
  intro neg mag ok off hw
  refine ⟨?_, fun c => by cases c⟩
  cases hf : fitB neg mag ok
  · rfl
  · exfalso
    obtain ⟨rfl, hl⟩ := le_fit hf
    obtain ⟨a1, a2, a3, a4, a5, a6⟩ := wr_of hs he hw
    rcases h with h | h | h | h
    · exact h ⟨a3, a4⟩
    · exact a5 h
    · exact a6 h
    · rw [← a1, ← a2] at h
      omega

/-- The model says yes. -/
theorem im_yes {f : Nat → Int} {n o s e : Nat} (hs : st f n o = s) (he : e = dEnd f n s) (h1 : s < n) (h2 : isD (f s) = true) (h3 : ¬ (f s = 48 ∧ s + 1 < e)) (h4 : ¬ (e < n ∧ isFE (f e) = true)) (h5 : val f s (e - s) ≤ limI (sgn f n o)) :
    IM f n o true (svl (sgn f n o) (val f s (e - s))) := by
  have hlim : limI (sgn f n o) ≤ maxU := by unfold limI maxU; split <;> omega
  have hse : s < e := by
    have a := dEnd_ge f n (s + 1)
    rw [dEnd_step h1 h2, ← he] at a
    omega
  have hd : ∀ i, i < e - s → s + i < n ∧ isD (f (s + i)) = true := fun i hi => dEnd_dig (by omega) (by omega : s + i < dEnd f n s)
  have hstop := dEnd_stop f n s
  rw [← he] at hstop
  have hres : WholeRes f n o (sgn f n o) (val f s (e - s)) true e := by
    refine ⟨rfl, e - s, ?_⟩
    rw [hs]
    refine ⟨by omega, hd, rfl, val_nonneg _ _ _ (fun i hi => (hd i hi).2), by omega, .inr ⟨?_, ?_⟩⟩
    · rw [show s + (e - s) = e by omega]; exact hstop
    · rw [show s + (e - s) = e by omega]
      have a1 : decide (e - s ≠ 0) = true := by simp; omega
      have a2 : (f s == 48 && decide (1 < e - s)) = false := by
        by_cases c : f s = 48
        · have : ¬ 1 < e - s := fun d => h3 ⟨c, by omega⟩
          simp [this]
        · simp [c]
      have a3 : (decide (e < n) && isFE (f e)) = false := by
        by_cases c : e < n
        · have : isFE (f e) = false := Bool.eq_false_iff.2 (fun d => h4 ⟨c, d⟩)
          simp [this]
        · simp [c]
      rw [a1, a2, a3]; rfl
  intro neg mag ok off hw
  obtain ⟨rfl, rfl, rfl, rfl⟩ := wholeRes_unique hres hw
  exact ⟨(fit_le h5).symm, fun _ => rfl⟩

/-- More than 19 digits are too many. -/
theorem im_long {f : Nat → Int} {s e : Nat} {b : Bool} (h0 : f s ≠ 48) (hd : ∀ i, i < e - s → isD (f (s + i)) = true) (h : 19 < e - s) : limI b < val f s (e - s) := by
  obtain ⟨r, hr⟩ : ∃ r, e - s = r + 1 := ⟨e - s - 1, by omega⟩
  have a := val_ge_pow h0 r (fun i hi => hd i (by omega))
  rw [← hr] at a
  have c : (10 : Int) ^ 19 ≤ 10 ^ r := by
    have e1 : 10 ^ 19 ≤ 10 ^ r := Nat.pow_le_pow_right (by omega) (by omega)
    exact_mod_cast e1
  have c2 : (10 : Int) ^ 19 = 10000000000000000000 := by decide
  unfold limI
  split <;> omega

/-- Fewer than 19 digits fit. -/
theorem im_short {f : Nat → Int} {s e : Nat} (b : Bool) (hd : ∀ i, i < e - s → isD (f (s + i)) = true) (h : e - s < 19) : val f s (e - s) ≤ limI b := by
  have a := val_lt_pow (e - s) hd
  have c : (10 : Int) ^ (e - s) ≤ 10 ^ 18 := by
    have e1 : 10 ^ (e - s) ≤ 10 ^ 18 := Nat.pow_le_pow_right (by omega) (by omega)
    exact_mod_cast e1
  have c2 : (10 : Int) ^ 18 = 1000000000000000000 := by decide
  unfold limI
  split <;> omega

end Go.Proofs.Qxb6603796a
