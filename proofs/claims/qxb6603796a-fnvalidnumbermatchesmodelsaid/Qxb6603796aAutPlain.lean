/-
  The plain law: the number grammar by stages answers as the automaton does.
-/
import Derived.Test.Qxb6603796aDigPlain
namespace Go.Proofs.Qxb6603796a

/-- The automaton's end answers as the stages do. -/
def Corr (r : Int × Nat) : Option Nat → Prop
  | some e => acc r.1 = true ∧ r.2 = e
  | none => acc r.1 = false

theorem nD {c : Int} (h : isD c = false) : ¬ (48 ≤ c ∧ c ≤ 57) := fun e => by rw [(isD_iff c).2 e] at h; cases h

theorem run_dig {f : Nat → Int} {n : Nat} {s : Int} (hs : ∀ c, isD c = true → stp s c = s) (hs1 : s ≠ -1) : ∀ k i, dEnd f n i = i + k → mrun f n s i = mrun f n s (dEnd f n i)
  | 0, i, h => by rw [h, Nat.add_zero]
  | k + 1, i, h => by
    obtain ⟨h1, h2⟩ := dEnd_dig (f := f) (n := n) (i := i) (j := i) (Nat.le_refl _) (by omega)
    have e := hs _ h2
    rw [mrun_step h1 (by rw [e]; exact hs1), e, ← dEnd_step h1 h2]
    exact run_dig hs hs1 k (i + 1) (by rw [dEnd_step h1 h2]; omega)

theorem run_dig' {f : Nat → Int} {n : Nat} {s : Int} (hs : s = 3 ∨ s = 5 ∨ s = 8) (i : Nat) : mrun f n s i = mrun f n s (dEnd f n i) := by
  have g := dEnd_ge f n i
  refine run_dig (fun c hc => ?_) (by omega) (dEnd f n i - i) i (by omega)
  rw [isD_iff] at hc
  rcases hs with rfl | rfl | rfl
  · simp only [stp]; simp [hc]
  · simp only [stp]; simp [hc]
  · simp only [stp]; simp [hc]

/-- Behind an exponent's digit. -/
theorem run8 (f : Nat → Int) (n i : Nat) : mrun f n 8 i = (8, dEnd f n i) := by
  rw [run_dig' (by omega)]
  refine mrun_stop ?_
  rintro ⟨h1, h2⟩
  have hn := dEnd_stop f n i
  by_cases e : isD (f (dEnd f n i)) = true
  · exact hn ⟨h1, e⟩
  · have := nD (Bool.eq_false_iff.2 e)
    apply h2
    simp only [stp]; simp [this]

/-- An exponent's digits, from state 6 without a sign or from state 7. -/
theorem run_exp {f : Nat → Int} {n i : Nat} {s : Int} (hs : s = 7 ∨ (s = 6 ∧ ¬ (i < n ∧ (f i = 43 ∨ f i = 45)))) :
    mrun f n s i = if dEnd f n i = i then (s, i) else (8, dEnd f n i) := by
  by_cases hd : i < n ∧ isD (f i) = true
  · have e := (isD_iff _).1 hd.2
    have es : stp s (f i) = 8 := by
      rcases hs with rfl | ⟨rfl, hn⟩
      · simp only [stp]; simp [e]
      · have h1 : ¬ (f i = 43 ∨ f i = 45) := fun h => hn ⟨hd.1, h⟩
        simp only [stp]; simp [e, h1]
    rw [mrun_step hd.1 (by rw [es]; decide), es, run8, dEnd_step hd.1 hd.2]
    have := dEnd_ge f n (i + 1)
    rw [dEnd_step hd.1 hd.2] at this
    rw [if_neg (by omega)]
  · rw [dEnd_stay hd, if_pos rfl]
    refine mrun_stop ?_
    rintro ⟨h1, h2⟩
    have e : ¬ (48 ≤ f i ∧ f i ≤ 57) := fun h => hd ⟨h1, (isD_iff _).2 h⟩
    apply h2
    rcases hs with rfl | ⟨rfl, hn⟩
    · simp only [stp]; simp [e]
    · have h1 : ¬ (f i = 43 ∨ f i = 45) := fun h => hn ⟨h1, h⟩
      simp only [stp]; simp [e, h1]

theorem run6 (f : Nat → Int) (n i : Nat) : Corr (mrun f n 6 i) (if dEnd f n (esg f n i) = esg f n i then none else some (dEnd f n (esg f n i))) := by
  by_cases hsg : i < n ∧ (f i = 43 ∨ f i = 45)
  · have e0 : esg f n i = i + 1 := by rw [esg, if_pos hsg]
    have es : stp 6 (f i) = 7 := by simp only [stp]; simp [hsg.2]
    rw [e0, mrun_step hsg.1 (by rw [es]; decide), es, run_exp (.inl rfl)]
    split
    · exact (by decide : acc 7 = false)
    · exact ⟨(by decide : acc 8 = true), rfl⟩
  · have e0 : esg f n i = i := by rw [esg, if_neg hsg]
    rw [e0, run_exp (.inr ⟨rfl, hsg⟩)]
    split
    · exact (by decide : acc 6 = false)
    · exact ⟨(by decide : acc 8 = true), rfl⟩

/-- The exponent's stage. -/
theorem run_stg4 {f : Nat → Int} {n i : Nat} {s : Int} (hs : s = 2 ∨ s = 3 ∨ s = 5) (h1 : s = 2 ∨ ¬ (i < n ∧ isD (f i) = true)) (h2 : s = 5 ∨ ¬ (i < n ∧ f i = 46)) : Corr (mrun f n s i) (stg4 f n i) := by
  by_cases he : i < n ∧ (f i = 101 ∨ f i = 69)
  · have es : stp s (f i) = 6 := by
      have a1 : ¬ f i = 46 := by omega
      have a2 : ¬ (48 ≤ f i ∧ f i ≤ 57) := by omega
      rcases hs with rfl | rfl | rfl
      · simp only [stp]; simp [a1, he.2]
      · simp only [stp]; simp [a1, a2, he.2]
      · simp only [stp]; simp [a2, he.2]
    rw [stg4, if_pos he, mrun_step he.1 (by rw [es]; decide), es]
    exact run6 f n (i + 1)
  · rw [stg4, if_neg he]
    have es : mrun f n s i = (s, i) := by
      refine mrun_stop ?_
      rintro ⟨g1, g2⟩
      apply g2
      have a1 : ¬ (f i = 101 ∨ f i = 69) := fun h => he ⟨g1, h⟩
      rcases hs with rfl | rfl | rfl
      · have a2 : ¬ f i = 46 := fun h => by rcases h2 with h2 | h2 <;> first | omega | exact h2 ⟨g1, h⟩
        simp only [stp]; simp [a1, a2]
      · have a2 : ¬ f i = 46 := fun h => by rcases h2 with h2 | h2 <;> first | omega | exact h2 ⟨g1, h⟩
        have a3 : ¬ (48 ≤ f i ∧ f i ≤ 57) := fun h => by rcases h1 with h1 | h1 <;> first | omega | exact h1 ⟨g1, (isD_iff _).2 h⟩
        simp only [stp]; simp [a1, a2, a3]
      · have a3 : ¬ (48 ≤ f i ∧ f i ≤ 57) := fun h => by rcases h1 with h1 | h1 <;> first | omega | exact h1 ⟨g1, (isD_iff _).2 h⟩
        simp only [stp]; simp [a1, a3]
    rw [es]
    rcases hs with rfl | rfl | rfl
    · exact ⟨(by decide : acc 2 = true), rfl⟩
    · exact ⟨(by decide : acc 3 = true), rfl⟩
    · exact ⟨(by decide : acc 5 = true), rfl⟩

/-- The fraction's stage. -/
theorem run_stg3 {f : Nat → Int} {n i : Nat} {s : Int} (hs : s = 2 ∨ s = 3) (h1 : s = 2 ∨ ¬ (i < n ∧ isD (f i) = true)) : Corr (mrun f n s i) ((stg3 f n i).bind fun i => stg4 f n i) := by
  by_cases hp : i < n ∧ f i = 46
  · have es : stp s (f i) = 4 := by
      rw [hp.2]
      rcases hs with rfl | rfl <;> decide
    rw [stg3, if_pos hp, mrun_step hp.1 (by rw [es]; decide), es]
    by_cases hd : i + 1 < n ∧ isD (f (i + 1)) = true
    · have e := (isD_iff _).1 hd.2
      have es2 : stp 4 (f (i + 1)) = 5 := by simp only [stp]; simp [e]
      have ge := dEnd_ge f n (i + 1 + 1)
      have est := dEnd_step hd.1 hd.2
      rw [est] at ge
      have hlast : ¬ f (dEnd f n (i + 1) - 1) = 46 := by
        have := (dEnd_dig (f := f) (n := n) (i := i + 1) (j := dEnd f n (i + 1) - 1) (by omega) (by omega)).2
        rw [isD_iff] at this
        omega
      rw [if_neg hlast, mrun_step hd.1 (by rw [es2]; decide), es2, run_dig' (by omega), est]
      exact run_stg4 (by omega) (.inr (dEnd_stop f n (i + 1))) (.inl rfl)
    · rw [dEnd_stay hd, Nat.add_sub_cancel, if_pos hp.2]
      rw [mrun_stop]
      · exact (by decide : acc 4 = false)
      · rintro ⟨g1, g2⟩
        have a3 : ¬ (48 ≤ f (i + 1) ∧ f (i + 1) ≤ 57) := fun h => hd ⟨g1, (isD_iff _).2 h⟩
        apply g2
        simp only [stp]; simp [a3]
  · rw [stg3, if_neg hp]
    exact run_stg4 (by omega) h1 (.inr hp)

/-- The whole part. -/
theorem run_stg2 {f : Nat → Int} {n i : Nat} {s : Int} (hs : (s = 0 ∧ ¬ (i < n ∧ f i = 45)) ∨ s = 1) : Corr (mrun f n s i) ((stg2 f n i).bind fun i => (stg3 f n i).bind fun i => stg4 f n i) := by
  by_cases h0 : i < n ∧ f i = 48
  · have es : stp s (f i) = 2 := by
      rw [h0.2]
      rcases hs with ⟨rfl, _⟩ | rfl <;> decide
    rw [stg2, if_pos h0, mrun_step h0.1 (by rw [es]; decide), es]
    exact run_stg3 (.inl rfl) (.inl rfl)
  · by_cases h1 : i < n ∧ 49 ≤ f i ∧ f i ≤ 57
    · have a1 : ¬ f i = 48 := by omega
      have a2 : 48 ≤ f i ∧ f i ≤ 57 := by omega
      have a3 : ¬ f i = 45 := by omega
      have es : stp s (f i) = 3 := by
        rcases hs with ⟨rfl, _⟩ | rfl
        · simp only [stp]; simp [a1, a2, a3]
        · simp only [stp]; simp [a1, a2]
      rw [stg2, if_neg h0, if_pos h1, mrun_step h1.1 (by rw [es]; decide), es, run_dig' (by omega), dEnd_step h1.1 ((isD_iff _).2 a2)]
      exact run_stg3 (.inr rfl) (.inr (dEnd_stop f n i))
    · rw [stg2, if_neg h0, if_neg h1]
      rw [mrun_stop]
      · rcases hs with ⟨rfl, _⟩ | rfl
        · exact (by decide : acc 0 = false)
        · exact (by decide : acc 1 = false)
      · rintro ⟨g1, g2⟩
        have a1 : ¬ f i = 48 := fun h => h0 ⟨g1, h⟩
        have a2 : ¬ (48 ≤ f i ∧ f i ≤ 57) := fun h => h1 ⟨g1, by omega, h.2⟩
        apply g2
        rcases hs with ⟨rfl, h⟩ | rfl
        · have a3 : ¬ f i = 45 := fun e => h ⟨g1, e⟩
          simp only [stp]; simp [a1, a2, a3]
        · simp only [stp]; simp [a1, a2]

theorem vnum_mrun {f : Nat → Int} {n o : Nat} (h : o < n) : Corr (mrun f n 0 o) (vnum f n o) := by
  unfold vnum
  by_cases e : f o = 45
  · have es : stp 0 (f o) = 1 := by rw [e]; decide
    rw [stg1, if_pos e, mrun_step h (by rw [es]; decide), es]
    exact run_stg2 (.inr rfl)
  · rw [stg1, if_neg e]
    exact run_stg2 (.inl ⟨rfl, fun h => e h.2⟩)

end Go.Proofs.Qxb6603796a
