/-
  The plain law: what 'whole' answers of a text in which a number's own writing stands.
-/
import Derived.Test.Qxb6603796aWrite
namespace Go.Proofs.Qxb6603796a

theorem dg_isD (M j : Nat) : isD (dg M j) = true := by
  rw [isD_iff]; unfold dg; omega

theorem val_wrt (F : Nat → Int) (s M nd j : Nat) (hF : ∀ i, i < nd → F (s + i) = dg M (nd - 1 - i)) (hnd : M / 10 ^ nd = 0) (hj : j ≤ nd) : val F s j = ((M / 10 ^ (nd - j) : Nat) : Int) := by
  induction j with
  | zero => simp [val, hnd]
  | succ j ih =>
    rw [val, ih (by omega), hF j (by omega)]
    obtain ⟨p, hp⟩ : ∃ p, nd = j + 1 + p := ⟨nd - (j + 1), by omega⟩
    subst hp
    rw [show j + 1 + p - j = p + 1 by omega, show j + 1 + p - 1 - j = p by omega, show j + 1 + p - (j + 1) = p by omega]
    have e : M / 10 ^ (p + 1) = M / 10 ^ p / 10 := by rw [Nat.pow_succ, Nat.div_div_eq_div_mul]
    rw [e]
    unfold dg
    omega

theorem own_plain (f1 f3 : Nat → Int) (n1 n3 : Nat) (neg : Bool) (M nd : Nat) (hM : M < 18446744073709551616) (h1 : 1 ≤ nd) (hz : M / 10 ^ nd = 0) (hnz : nd = 1 ∨ M / 10 ^ (nd - 1) ≠ 0)
    (hs : n3 ≠ 0 → isD (f3 0) = false ∧ isFE (f3 0) = false) {neg' : Bool} {mag : Int} {ok : Bool} {off : Nat}
    (h : WholeRes (cat3 f1 (wrt neg M nd) f3 n1 (sl neg + nd)) (n1 + (sl neg + nd) + n3) n1 neg' mag ok off) : neg' = neg ∧ mag = (M : Int) ∧ ok = true ∧ off = n1 + (sl neg + nd) := by
  obtain ⟨F, hFdef⟩ : ∃ F, F = cat3 f1 (wrt neg M nd) f3 n1 (sl neg + nd) := ⟨_, rfl⟩
  have hmid : ∀ i, i < sl neg + nd → F (n1 + i) = wrt neg M nd i := fun i hi => by rw [hFdef, cat3_mid hi]
  have hend : F (n1 + (sl neg + nd)) = f3 0 := by
    have := cat3_end f1 (wrt neg M nd) f3 n1 (sl neg + nd) 0
    rw [hFdef]; simpa using this
  rw [← hFdef] at h
  have hsgn : sgn F (n1 + (sl neg + nd) + n3) n1 = neg := by
    have e0 := hmid 0 (by omega)
    rw [Nat.add_zero] at e0
    have hlt : n1 < n1 + (sl neg + nd) + n3 := by omega
    cases neg with
    | true => simp [sgn, e0, wrt]; omega
    | false =>
      have e1 : wrt false M nd 0 = dg M (nd - 1) := by simp [wrt]
      have e2 := (isD_iff _).1 (dg_isD M (nd - 1))
      simp only [sgn, e0, e1]
      have e3 : (dg M (nd - 1) == 45) = false := by simp; omega
      rw [e3, Bool.and_false]
  have hst : st F (n1 + (sl neg + nd) + n3) n1 = n1 + sl neg := by
    rw [st, hsgn]
    cases neg <;> simp [sl]
  obtain ⟨s, hsd⟩ : ∃ s, s = n1 + sl neg := ⟨_, rfl⟩
  obtain ⟨N, hN⟩ : ∃ N, N = n1 + (sl neg + nd) + n3 := ⟨_, rfl⟩
  have hdig : ∀ i, i < nd → F (s + i) = dg M (nd - 1 - i) := by
    intro i hi
    rw [hsd, Nat.add_assoc, hmid (sl neg + i) (by omega)]
    cases neg
    · simp [wrt, sl]
    · simp [wrt, sl, show 1 + i - 1 = i by omega]
  have hend' : F (s + nd) = f3 0 := by rw [hsd, Nat.add_assoc]; exact hend
  have hval : ∀ j, j ≤ nd → val F s j = ((M / 10 ^ (nd - j) : Nat) : Int) := fun j hj => val_wrt F s M nd j hdig hz hj
  rw [← hN] at h hsgn hst
  obtain ⟨hneg, j, hoff, hall, hmag, _, _, hcase⟩ := h
  rw [hsgn] at hneg
  rw [hst, ← hsd] at hoff hall hmag hcase
  have hstop : ¬ (s + nd < N ∧ isD (F (s + nd)) = true) := by
    rintro ⟨ha, hb⟩
    rw [hend'] at hb
    have := (hs (by omega)).1
    rw [this] at hb
    cases hb
  have hj : j = nd := by
    rcases Nat.lt_trichotomy j nd with hlt | heq | hgt
    · exfalso
      have hd : isD (F (s + j)) = true := by rw [hdig j hlt]; exact dg_isD _ _
      rcases hcase with ⟨_, _, _, hov⟩ | ⟨hn, _⟩
      · rw [hval (j + 1) (by omega)] at hov
        have : M / 10 ^ (nd - (j + 1)) ≤ M := Nat.div_le_self _ _
        unfold maxU at hov
        omega
      · exact hn ⟨by omega, hd⟩
    · exact heq
    · exact absurd (hall nd hgt) hstop
  subst hj
  refine ⟨hneg, ?_, ?_, by omega⟩
  · rw [hmag, hval j (Nat.le_refl _), Nat.sub_self, Nat.pow_zero, Nat.div_one]
  · rcases hcase with ⟨_, ha, hb, _⟩ | ⟨_, hok⟩
    · exact absurd ⟨ha, hb⟩ hstop
    · rw [hok]
      have e1 : decide (j ≠ 0) = true := by simp; omega
      have e2 : (F s == 48 && decide (1 < j)) = false := by
        by_cases e : 1 < j
        · have hz2 : M / 10 ^ (j - 1) ≠ 0 := by
            rcases hnz with h | h
            · omega
            · exact h
          have hF0 := hdig 0 (by omega)
          rw [Nat.add_zero, Nat.sub_zero] at hF0
          have e3 : M / 10 ^ j = M / 10 ^ (j - 1) / 10 := by
            obtain ⟨p, rfl⟩ : ∃ p, j = p + 1 := ⟨j - 1, by omega⟩
            rw [Nat.add_sub_cancel, Nat.pow_succ, Nat.div_div_eq_div_mul]
          have e4 : F s ≠ 48 := by rw [hF0]; unfold dg; omega
          simp [e4]
        · simp [e]
      have e3 : (decide (s + j < N) && isFE (F (s + j))) = false := by
        by_cases e : s + j < N
        · rw [hend', (hs (by omega)).2, Bool.and_false]
        · simp [e]
      rw [e1, e2, e3]; rfl

end Go.Proofs.Qxb6603796a
