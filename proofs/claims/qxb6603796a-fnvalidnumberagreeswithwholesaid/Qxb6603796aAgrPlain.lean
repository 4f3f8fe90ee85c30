/-
  The plain law: where 'whole' reads, 'validNumber' takes; where 'validNumber' takes an integer of at most 19 digits, 'whole' reads.
-/
import Derived.Test.Qxb6603796aValPlain
namespace Go.Proofs.Qxb6603796a

/-- How many of the places from o to k are digits. -/
def cnt (f : Nat → Int) (o : Nat) : Nat → Nat
  | 0 => 0
  | d + 1 => cnt f o d + (if isD (f (o + d)) = true then 1 else 0)

theorem cnt_le (f : Nat → Int) (o : Nat) : ∀ d, cnt f o d ≤ d
  | 0 => Nat.le_refl _
  | d + 1 => by
    have := cnt_le f o d
    simp only [cnt]
    split <;> omega

theorem cnt_all {f : Nat → Int} {o a : Nat} : ∀ d, (∀ i, i < d → isD (f (o + a + i)) = true) → cnt f o (a + d) = cnt f o a + d
  | 0, _ => rfl
  | d + 1, h => by
    rw [← Nat.add_assoc, cnt, cnt_all d (fun i hi => h i (by omega)), if_pos (by rw [← Nat.add_assoc]; exact h d (by omega))]
    omega

/-- Where 'whole' says yes 'validNumber' does, and stops at the same place. -/
theorem agr_one {f : Nat → Int} {n o : Nat} (ho : o < n) {neg : Bool} {mag : Int} {off : Nat} (h : WholeRes f n o neg mag true off) : vnum f n o = some off := by
  obtain ⟨_, j, hoff, hall, _, _, _, hc⟩ := h
  have hst : st f n o = stg1 f o := by
    unfold st stg1 sgn
    by_cases e : f o = 45
    · simp [e, ho]
    · simp [e]
  rw [hst] at hoff hall hc
  obtain ⟨s, hs⟩ : ∃ s, s = stg1 f o := ⟨_, rfl⟩
  rw [← hs] at hoff hall hc
  rcases hc with ⟨h0, _⟩ | ⟨hstop, hok⟩
  · cases h0
  · have hok' := hok.symm
    simp only [Bool.and_eq_true, Bool.not_eq_true', decide_eq_true_eq] at hok'
    obtain ⟨⟨hj, hz⟩, hfe⟩ := hok'
    have hd0 := hall 0 (by omega)
    rw [Nat.add_zero] at hd0
    have hdE : dEnd f n s = s + j := (dEnd_unique (by omega) (fun i h1 h2 => by have := hall (i - s) (by omega); rwa [show s + (i - s) = i by omega] at this) hstop).symm
    have hD := (isD_iff _).1 hd0.2
    -- the two later stages
    have hnf : ¬ (s + j < n ∧ f (s + j) = 46) := by
      rintro ⟨e1, e2⟩
      rw [e2] at hfe
      simp [e1, isFE] at hfe
    have hne : ¬ (s + j < n ∧ (f (s + j) = 101 ∨ f (s + j) = 69)) := by
      rintro ⟨e1, e2⟩
      rcases e2 with e2 | e2 <;> (rw [e2] at hfe; simp [e1, isFE] at hfe)
    have h3 : stg3 f n (s + j) = some (s + j) := by rw [stg3, if_neg hnf]
    have h4 : stg4 f n (s + j) = some (s + j) := by rw [stg4, if_neg hne]
    have h2 : stg2 f n s = some (s + j) := by
      unfold stg2
      by_cases e : f s = 48
      · have hj1 : j = 1 := by
          rw [e] at hz
          simp at hz
          omega
        rw [if_pos ⟨hd0.1, e⟩, hj1]
      · rw [if_neg (fun h => e h.2), if_pos ⟨hd0.1, by omega, hD.2⟩, hdE]
    rw [vnum, ← hs, h2]
    simp [h3, h4, hoff]

/-- Where 'validNumber' takes, without a point or an exponent, at most 19 digits, and no digit follows: 'whole' reads, and stops at the same place. -/
theorem agr_two {f : Nat → Int} {n o : Nat} (ho : o < n) {voff : Nat} (hv : vnum f n o = some voff) (hplain : ∀ i, o ≤ i → i < voff → isFE (f i) = false) (hcnt : cnt f o (voff - o) ≤ 19) (hnext : voff = n ∨ isD (f voff) = false)
    {neg : Bool} {mag : Int} {ok : Bool} {off : Nat} (h : WholeRes f n o neg mag ok off) : ok = true ∧ off = voff := by
  have hst : st f n o = stg1 f o := by
    unfold st stg1 sgn
    by_cases e : f o = 45
    · simp [e, ho]
    · simp [e]
  obtain ⟨s, hs⟩ : ∃ s, s = stg1 f o := ⟨_, rfl⟩
  have hso : o ≤ s ∧ s ≤ o + 1 := by rw [hs]; unfold stg1; split <;> omega
  rw [vnum, ← hs] at hv
  -- the whole part
  obtain ⟨i2, h2, hv2⟩ : ∃ i2, stg2 f n s = some i2 ∧ ((stg3 f n i2).bind fun i => stg4 f n i) = some voff := by
    cases e : stg2 f n s with
    | none => rw [e] at hv; simp at hv
    | some i2 => rw [e] at hv; exact ⟨i2, rfl, by simpa using hv⟩
  obtain ⟨i3, h3, h4⟩ : ∃ i3, stg3 f n i2 = some i3 ∧ stg4 f n i3 = some voff := by
    cases e : stg3 f n i2 with
    | none => rw [e] at hv2; simp at hv2
    | some i3 => rw [e] at hv2; exact ⟨i3, rfl, by simpa using hv2⟩
  have ge3 : i2 ≤ i3 := by
    unfold stg3 at h3
    split at h3
    · split at h3
      · cases h3
      · have := dEnd_ge f n (i2 + 1)
        obtain rfl := Option.some.inj h3
        omega
    · obtain rfl := Option.some.inj h3
      omega
  have ge4 : i3 ≤ voff := by
    unfold stg4 at h4
    split at h4
    · split at h4
      · cases h4
      · have := dEnd_ge f n (esg f n (i3 + 1))
        have e2 : i3 + 1 ≤ esg f n (i3 + 1) := by unfold esg; split <;> omega
        obtain rfl := Option.some.inj h4
        omega
    · obtain rfl := Option.some.inj h4
      omega
  have hs2 : s < i2 := by
    unfold stg2 at h2
    split at h2
    · obtain rfl := Option.some.inj h2
      omega
    · split at h2
      · rename_i e1 e2
        have := dEnd_ge f n (s + 1)
        have e3 := dEnd_step (f := f) e2.1 ((isD_iff _).2 (by omega))
        obtain rfl := Option.some.inj h2
        omega
      · cases h2
  -- no point
  have hnf : ¬ (i2 < n ∧ f i2 = 46) := by
    intro e
    unfold stg3 at h3
    rw [if_pos e] at h3
    have hlt : i2 < i3 := by
      split at h3
      · cases h3
      · have := dEnd_ge f n (i2 + 1)
        obtain rfl := Option.some.inj h3
        omega
    have := hplain i2 (by omega) (by omega)
    rw [e.2] at this
    exact absurd this (by decide)
  have e3 : i3 = i2 := by
    unfold stg3 at h3
    rw [if_neg hnf] at h3
    exact (Option.some.inj h3).symm
  subst e3
  have hne : ¬ (i3 < n ∧ (f i3 = 101 ∨ f i3 = 69)) := by
    intro e
    unfold stg4 at h4
    rw [if_pos e] at h4
    have hlt : i3 < voff := by
      split at h4
      · cases h4
      · have := dEnd_ge f n (esg f n (i3 + 1))
        have e2 : i3 + 1 ≤ esg f n (i3 + 1) := by unfold esg; split <;> omega
        obtain rfl := Option.some.inj h4
        omega
    have := hplain i3 (by omega) hlt
    rcases e.2 with e2 | e2 <;> (rw [e2] at this; exact absurd this (by decide))
  have e4 : voff = i3 := by
    unfold stg4 at h4
    rw [if_neg hne] at h4
    exact (Option.some.inj h4).symm
  subst e4
  -- the digits from s to voff
  have hsn : s < n := by
    unfold stg2 at h2
    split at h2
    · rename_i e1; exact e1.1
    · split at h2
      · rename_i e1 e2; exact e2.1
      · cases h2
  have hdig : ∀ i, s ≤ i → i < voff → i < n ∧ isD (f i) = true := by
    intro i hi1 hi2
    unfold stg2 at h2
    split at h2
    · rename_i e1
      obtain rfl := Option.some.inj h2
      obtain rfl : i = s := by omega
      exact ⟨e1.1, (isD_iff _).2 (by omega)⟩
    · split at h2
      · obtain rfl := Option.some.inj h2
        exact dEnd_dig hi1 hi2
      · cases h2
  have hstop : ¬ (voff < n ∧ isD (f voff) = true) := by
    rintro ⟨e1, e2⟩
    rcases hnext with h | h
    · omega
    · rw [h] at e2; cases e2
  -- how many digits
  have hlen : voff - s ≤ 19 := by
    have e := cnt_all (f := f) (o := o) (a := s - o) (voff - s) (fun i hi => by rw [show o + (s - o) + i = s + i by omega]; exact (hdig (s + i) (by omega) (by omega)).2)
    rw [show s - o + (voff - s) = voff - o by omega] at e
    omega
  obtain ⟨_, j, hoff, hall, _, _, _, hc⟩ := h
  rw [hst, ← hs] at hoff hall hc
  have hj : j = voff - s := by
    rcases Nat.lt_trichotomy j (voff - s) with hlt | heq | hgt
    · exfalso
      rcases hc with ⟨_, _, _, hov⟩ | ⟨hn, _⟩
      · have hlt2 := val_lt_pow (f := f) (s := s) (j + 1) (fun i hi => (hdig (s + i) (by omega) (by omega)).2)
        have e : (10 : Int) ^ (j + 1) ≤ 10 ^ 19 := by
          have e1 : 10 ^ (j + 1) ≤ 10 ^ 19 := Nat.pow_le_pow_right (by omega) (by omega)
          exact_mod_cast e1
        have e2 : (10 : Int) ^ 19 = 10000000000000000000 := by decide
        unfold maxU at hov
        omega
      · exact hn (hdig (s + j) (by omega) (by omega))
    · exact heq
    · have := hall (voff - s) hgt
      rw [show s + (voff - s) = voff by omega] at this
      exact absurd this hstop
  subst hj
  rw [show s + (voff - s) = voff by omega] at hoff hc
  refine ⟨?_, hoff⟩
  rcases hc with ⟨_, e1, e2, _⟩ | ⟨_, hok⟩
  · exact absurd ⟨e1, e2⟩ hstop
  · rw [hok]
    have a1 : decide (voff - s ≠ 0) = true := by simp; omega
    have a2 : (f s == 48 && decide (1 < voff - s)) = false := by
      by_cases e : f s = 48
      · have : voff = s + 1 := by
          unfold stg2 at h2
          rw [if_pos ⟨hsn, e⟩] at h2
          exact (Option.some.inj h2).symm
        simp [this]
      · simp [e]
    have a3 : (decide (voff < n) && isFE (f voff)) = false := by
      by_cases e : voff < n
      · have b1 : ¬ f voff = 46 := fun h => hnf ⟨e, h⟩
        have b2 : ¬ f voff = 101 := fun h => hne ⟨e, .inl h⟩
        have b3 : ¬ f voff = 69 := fun h => hne ⟨e, .inr h⟩
        simp [isFE, b1, b2, b3]
      · simp [e]
    rw [a1, a2, a3]; rfl

end Go.Proofs.Qxb6603796a
