/-
  The plain functions: no Go in sight.
-/
namespace Go.Proofs.Qxb6603796a

def isD (c : Int) : Bool := decide (48 ≤ c) && decide (c ≤ 57)
def isFE (c : Int) : Bool := (c == 46) || (c == 101) || (c == 69)

/-- The value of the j digits from s on. -/
def val (f : Nat → Int) (s : Nat) : Nat → Int
  | 0 => 0
  | j + 1 => val f s j * 10 + (f (s + j) - 48)

def sgn (f : Nat → Int) (n o : Nat) : Bool := decide (o < n) && (f o == 45)
def st (f : Nat → Int) (n o : Nat) : Nat := if sgn f n o = true then o + 1 else o
/-- The greatest uint64. -/
def maxU : Int := 18446744073709551615

/-- What 'whole' answers, told of the text. -/
def WholeRes (f : Nat → Int) (n o : Nat) (neg : Bool) (mag : Int) (ok : Bool) (off : Nat) : Prop :=
  neg = sgn f n o ∧ ∃ j, off = st f n o + j ∧ (∀ i, i < j → st f n o + i < n ∧ isD (f (st f n o + i)) = true) ∧ mag = val f (st f n o) j ∧ 0 ≤ mag ∧ mag ≤ maxU ∧
    ((ok = false ∧ st f n o + j < n ∧ isD (f (st f n o + j)) = true ∧ maxU < val f (st f n o) (j + 1)) ∨
     (¬ (st f n o + j < n ∧ isD (f (st f n o + j)) = true) ∧
       ok = (decide (j ≠ 0) && !(f (st f n o) == 48 && decide (1 < j)) && !(decide (st f n o + j < n) && isFE (f (st f n o + j))))))

theorem isD_iff (c : Int) : isD c = true ↔ 48 ≤ c ∧ c ≤ 57 := by simp [isD]

theorem val_nonneg (f : Nat → Int) (s j : Nat) (h : ∀ i, i < j → isD (f (s + i)) = true) : 0 ≤ val f s j := by
  induction j with
  | zero => simp [val]
  | succ j ih =>
    have := ih (fun i hi => h i (by omega))
    have h2 := (isD_iff _).1 (h j (by omega))
    simp only [val]
    omega

end Go.Proofs.Qxb6603796a
