/-
  Runs of digits, the number grammar by stages, and the automaton: plain functions, no Go in sight.
-/
import Derived.Test.Qxb6603796aPlain
namespace Go.Proofs.Qxb6603796a

def dE (f : Nat → Int) (n : Nat) : Nat → Nat → Nat
  | 0, i => i
  | k + 1, i => if i < n ∧ isD (f i) = true then dE f n k (i + 1) else i
/-- The first place from i on that is no digit. -/
def dEnd (f : Nat → Int) (n i : Nat) : Nat := dE f n (n - i) i

theorem dE_ge (f : Nat → Int) (n : Nat) : ∀ k i, i ≤ dE f n k i
  | 0, i => Nat.le_refl _
  | k + 1, i => by
    unfold dE
    split
    · have := dE_ge f n k (i + 1); omega
    · omega
theorem dE_dig (f : Nat → Int) (n : Nat) : ∀ k i j, i ≤ j → j < dE f n k i → j < n ∧ isD (f j) = true
  | 0, i, j, h1, h2 => by simp [dE] at h2; omega
  | k + 1, i, j, h1, h2 => by
    unfold dE at h2
    split at h2
    · rename_i h
      by_cases e : j = i
      · subst e; exact h
      · exact dE_dig f n k (i + 1) j (by omega) h2
    · omega
theorem dE_stop (f : Nat → Int) (n : Nat) : ∀ k i, n ≤ i + k → ¬ (dE f n k i < n ∧ isD (f (dE f n k i)) = true)
  | 0, i, h => by simp only [dE]; omega
  | k + 1, i, h => by
    unfold dE
    split
    · exact dE_stop f n k (i + 1) (by omega)
    · assumption

theorem dEnd_ge (f : Nat → Int) (n i : Nat) : i ≤ dEnd f n i := dE_ge _ _ _ _
theorem dEnd_dig {f : Nat → Int} {n i j : Nat} (h1 : i ≤ j) (h2 : j < dEnd f n i) : j < n ∧ isD (f j) = true := dE_dig _ _ _ _ _ h1 h2
theorem dEnd_stop (f : Nat → Int) (n i : Nat) : ¬ (dEnd f n i < n ∧ isD (f (dEnd f n i)) = true) := dE_stop _ _ _ _ (by omega)
theorem dEnd_unique {f : Nat → Int} {n i e : Nat} (h1 : i ≤ e) (h2 : ∀ j, i ≤ j → j < e → j < n ∧ isD (f j) = true) (h3 : ¬ (e < n ∧ isD (f e) = true)) : e = dEnd f n i := by
  have g1 := dEnd_ge f n i
  rcases Nat.lt_trichotomy e (dEnd f n i) with h | h | h
  · exact absurd (dEnd_dig h1 h) h3
  · exact h
  · exact absurd (h2 _ g1 h) (dEnd_stop f n i)
theorem dEnd_step {f : Nat → Int} {n i : Nat} (h : i < n) (hd : isD (f i) = true) : dEnd f n (i + 1) = dEnd f n i := by
  refine dEnd_unique (by have := dEnd_ge f n (i + 1); omega) (fun j h1 h2 => ?_) (dEnd_stop _ _ _)
  by_cases e : j = i
  · subst e; exact ⟨h, hd⟩
  · exact dEnd_dig (by omega) h2
theorem dEnd_stay {f : Nat → Int} {n i : Nat} (h : ¬ (i < n ∧ isD (f i) = true)) : dEnd f n i = i :=
  (dEnd_unique (Nat.le_refl _) (fun j h1 h2 => by omega) h).symm
theorem dEnd_le {f : Nat → Int} {n i : Nat} (h : i ≤ n) : dEnd f n i ≤ n := by
  have g1 := dEnd_ge f n i
  rcases Nat.lt_or_ge n (dEnd f n i) with h2 | h2
  · have := (dEnd_dig (j := n) h h2).1
    omega
  · exact h2

/-! ### The number grammar by stages: 'none' where it is left -/
def stg1 (f : Nat → Int) (o : Nat) : Nat := if f o = 45 then o + 1 else o
def stg2 (f : Nat → Int) (n i : Nat) : Option Nat := if i < n ∧ f i = 48 then some (i + 1) else if i < n ∧ 49 ≤ f i ∧ f i ≤ 57 then some (dEnd f n i) else none
def stg3 (f : Nat → Int) (n i : Nat) : Option Nat := if i < n ∧ f i = 46 then (if f (dEnd f n (i + 1) - 1) = 46 then none else some (dEnd f n (i + 1))) else some i
def esg (f : Nat → Int) (n i : Nat) : Nat := if i < n ∧ (f i = 43 ∨ f i = 45) then i + 1 else i
def stg4 (f : Nat → Int) (n i : Nat) : Option Nat := if i < n ∧ (f i = 101 ∨ f i = 69) then (if dEnd f n (esg f n (i + 1)) = esg f n (i + 1) then none else some (dEnd f n (esg f n (i + 1)))) else some i
def vnum (f : Nat → Int) (n o : Nat) : Option Nat := (stg2 f n (stg1 f o)).bind fun i => (stg3 f n i).bind fun i => stg4 f n i

/-! ### The automaton -/
def stp (s c : Int) : Int :=
  if s = 0 then (if c = 45 then 1 else if c = 48 then 2 else if 48 ≤ c ∧ c ≤ 57 then 3 else -1)
  else if s = 1 then (if c = 48 then 2 else if 48 ≤ c ∧ c ≤ 57 then 3 else -1)
  else if s = 2 then (if c = 46 then 4 else if c = 101 ∨ c = 69 then 6 else -1)
  else if s = 3 then (if 48 ≤ c ∧ c ≤ 57 then 3 else if c = 46 then 4 else if c = 101 ∨ c = 69 then 6 else -1)
  else if s = 4 then (if 48 ≤ c ∧ c ≤ 57 then 5 else -1)
  else if s = 5 then (if 48 ≤ c ∧ c ≤ 57 then 5 else if c = 101 ∨ c = 69 then 6 else -1)
  else if s = 6 then (if c = 43 ∨ c = 45 then 7 else if 48 ≤ c ∧ c ≤ 57 then 8 else -1)
  else if s = 7 ∨ s = 8 then (if 48 ≤ c ∧ c ≤ 57 then 8 else -1)
  else -1
def acc (s : Int) : Bool := s == 2 || s == 3 || s == 5 || s == 8
def run (f : Nat → Int) (n : Nat) : Nat → Int → Nat → Int × Nat
  | 0, s, i => (s, i)
  | k + 1, s, i => if i < n ∧ stp s (f i) ≠ -1 then run f n k (stp s (f i)) (i + 1) else (s, i)
def mrun (f : Nat → Int) (n : Nat) (s : Int) (i : Nat) : Int × Nat := run f n (n - i) s i

theorem mrun_step {f : Nat → Int} {n i : Nat} {s : Int} (h : i < n) (h2 : stp s (f i) ≠ -1) : mrun f n s i = mrun f n (stp s (f i)) (i + 1) := by
  unfold mrun
  obtain ⟨k, hk⟩ : ∃ k, n - i = k + 1 := ⟨n - i - 1, by omega⟩
  rw [hk, run, if_pos ⟨h, h2⟩, show n - (i + 1) = k by omega]
theorem mrun_stop {f : Nat → Int} {n i : Nat} {s : Int} (h : ¬ (i < n ∧ stp s (f i) ≠ -1)) : mrun f n s i = (s, i) := by
  unfold mrun
  cases e : n - i with
  | zero => rfl
  | succ k => rw [run, if_neg h]

theorem stp_range (s c : Int) : -1 ≤ stp s c ∧ stp s c ≤ 8 := by
  unfold stp
  repeat' split
  all_goals omega

end Go.Proofs.Qxb6603796a
