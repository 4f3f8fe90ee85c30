/-
  Values of digit texts: plain arithmetic.
-/
import Derived.Test.Qxb6603796aDigPlain
namespace Go.Proofs.Qxb6603796a

theorem val_shift (f : Nat → Int) (s : Nat) : ∀ j, val (fun i => f (s + i)) 0 j = val f s j
  | 0 => rfl
  | j + 1 => by
    simp only [val]
    rw [val_shift f s j, Nat.zero_add]

theorem val_congr {f g : Nat → Int} {s : Nat} : ∀ j, (∀ i, i < j → f (s + i) = g (s + i)) → val f s j = val g s j
  | 0, _ => rfl
  | j + 1, h => by
    simp only [val]
    rw [val_congr j (fun i hi => h i (by omega)), h j (by omega)]

theorem val_step_ge {f : Nat → Int} {s j : Nat} (h : ∀ i, i < j + 1 → isD (f (s + i)) = true) : val f s j ≤ val f s (j + 1) := by
  have h0 := val_nonneg f s j (fun i hi => h i (by omega))
  have h1 := (isD_iff _).1 (h j (by omega))
  simp only [val]
  omega

theorem val_mono {f : Nat → Int} {s k : Nat} : ∀ d, (∀ i, i < k + d → isD (f (s + i)) = true) → val f s k ≤ val f s (k + d)
  | 0, _ => Int.le_refl _
  | d + 1, h => by
    have e1 := val_mono (f := f) (s := s) (k := k) d (fun i hi => h i (by omega))
    have e2 := val_step_ge (f := f) (s := s) (j := k + d) (fun i hi => h i (by omega))
    rw [← Nat.add_assoc]
    omega

theorem val_lt_step {f g : Nat → Int} {s j : Nat} (hf : isD (f (s + j)) = true) (hg : isD (g (s + j)) = true) (h : val f s j < val g s j) : val f s (j + 1) < val g s (j + 1) := by
  have h1 := (isD_iff _).1 hf
  have h2 := (isD_iff _).1 hg
  simp only [val]
  omega

theorem val_lt_on {f g : Nat → Int} {s k : Nat} (h : val f s k < val g s k) : ∀ d, (∀ i, i < k + d → isD (f (s + i)) = true) → (∀ i, i < k + d → isD (g (s + i)) = true) → val f s (k + d) < val g s (k + d)
  | 0, _, _ => h
  | d + 1, hf, hg => by
    have e := val_lt_on h d (fun i hi => hf i (by omega)) (fun i hi => hg i (by omega))
    rw [← Nat.add_assoc]
    exact val_lt_step (hf (k + d) (by omega)) (hg (k + d) (by omega)) e

/-- Two digit texts of one length that part first at k. -/
theorem val_part {f g : Nat → Int} {s k L : Nat} (hk : k < L) (hf : ∀ i, i < L → isD (f (s + i)) = true) (hg : ∀ i, i < L → isD (g (s + i)) = true) (he : ∀ i, i < k → f (s + i) = g (s + i)) (hl : f (s + k) < g (s + k)) : val f s L < val g s L := by
  have h0 : val f s (k + 1) < val g s (k + 1) := by
    simp only [val]
    rw [val_congr k he]
    omega
  obtain ⟨d, rfl⟩ : ∃ d, L = k + 1 + d := ⟨L - (k + 1), by omega⟩
  exact val_lt_on h0 d hf hg

/-- Less than a power of ten. -/
theorem val_lt_pow {f : Nat → Int} {s : Nat} : ∀ j, (∀ i, i < j → isD (f (s + i)) = true) → val f s j < 10 ^ j
  | 0, _ => by simp [val]
  | j + 1, h => by
    have e1 := val_lt_pow j (fun i hi => h i (by omega))
    have h1 := (isD_iff _).1 (h j (by omega))
    simp only [val]
    rw [Int.pow_succ]
    omega

/-- At least a power of ten, where the first digit is not 0. -/
theorem val_ge_pow {f : Nat → Int} {s : Nat} (h0 : f s ≠ 48) : ∀ j, (∀ i, i < j + 1 → isD (f (s + i)) = true) → 10 ^ j ≤ val f s (j + 1)
  | 0, h => by
    have h1 := (isD_iff _).1 (h 0 (by omega))
    rw [Nat.add_zero] at h1
    simp only [val, Nat.add_zero]
    omega
  | j + 1, h => by
    have e1 := val_ge_pow h0 j (fun i hi => h i (by omega))
    have h1 := (isD_iff _).1 (h (j + 1) (by omega))
    rw [val, Int.pow_succ]
    omega

/-- Leading zeros count nothing. -/
theorem val_zeros {f : Nat → Int} {s : Nat} : ∀ z, (∀ i, i < z → f (s + i) = 48) → val f s z = 0
  | 0, _ => rfl
  | z + 1, h => by
    rw [val, val_zeros z (fun i hi => h i (by omega)), h z (by omega)]
    decide
theorem val_skip {f : Nat → Int} {s z : Nat} (h : ∀ i, i < z → f (s + i) = 48) : ∀ j, val f s (z + j) = val f (s + z) j
  | 0 => by rw [Nat.add_zero, val_zeros z h]; rfl
  | j + 1 => by
    rw [← Nat.add_assoc, val, val, val_skip h j, Nat.add_assoc s z j]

/-- The answers of 'whole' are one. -/
theorem wholeRes_unique {f : Nat → Int} {n o : Nat} {neg neg' : Bool} {mag mag' : Int} {ok ok' : Bool} {off off' : Nat} (h : WholeRes f n o neg mag ok off) (h' : WholeRes f n o neg' mag' ok' off') :
    neg = neg' ∧ mag = mag' ∧ ok = ok' ∧ off = off' := by
  obtain ⟨a1, j, a2, a3, a4, a5, a6, a7⟩ := h
  obtain ⟨b1, j', b2, b3, b4, b5, b6, b7⟩ := h'
  have key : ∀ (j j' : Nat) (mag mag' : Int) (ok : Bool), (∀ i, i < j' → st f n o + i < n ∧ isD (f (st f n o + i)) = true) → mag' = val f (st f n o) j' → mag' ≤ maxU →
      ((ok = false ∧ st f n o + j < n ∧ isD (f (st f n o + j)) = true ∧ maxU < val f (st f n o) (j + 1)) ∨
       (¬ (st f n o + j < n ∧ isD (f (st f n o + j)) = true) ∧
       ok = (decide (j ≠ 0) && !(f (st f n o) == 48 && decide (1 < j)) && !(decide (st f n o + j < n) && isFE (f (st f n o + j)))))) → ¬ j < j' := by
    intro j j' mag mag' ok c1 c2 c3 c4 hlt
    rcases c4 with ⟨_, _, _, hov⟩ | ⟨hn, _⟩
    · obtain ⟨d, hd⟩ : ∃ d, j' = j + 1 + d := ⟨j' - (j + 1), by omega⟩
      have := val_mono (f := f) (s := st f n o) (k := j + 1) d (fun i hi => (c1 i (by omega)).2)
      rw [← hd, ← c2] at this
      omega
    · exact hn (c1 j hlt)
  have hj : j = j' := by
    have k1 := key j j' mag mag' ok b3 b4 b6 a7
    have k2 := key j' j mag' mag ok' a3 a4 a6 b7
    omega
  subst hj
  refine ⟨a1.trans b1.symm, a4.trans b4.symm, ?_, a2.trans b2.symm⟩
  rcases a7 with ⟨a8, a9, a10, _⟩ | ⟨a8, a9⟩
  · rcases b7 with ⟨b8, _⟩ | ⟨b8, _⟩
    · exact a8.trans b8.symm
    · exact absurd ⟨a9, a10⟩ b8
  · rcases b7 with ⟨_, b9, b10, _⟩ | ⟨_, b9⟩
    · exact absurd ⟨b9, b10⟩ a8
    · exact a9.trans b9.symm

end Go.Proofs.Qxb6603796a
