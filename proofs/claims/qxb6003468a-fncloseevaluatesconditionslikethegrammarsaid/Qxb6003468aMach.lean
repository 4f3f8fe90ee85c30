/-
  The evaluation as a plain machine.
-/
namespace Go.Proofs.Qxb6003468a

structure Ev where
  any : Bool
  all : Bool
  neg : Bool
  stk : List Bool
  sk : Nat
  sa : Bool

/-- The start. -/
def Ev.ini : Ev := ⟨false, true, false, [], 0, false⟩
def Ev.opd (s : Ev) (v : Bool) : Ev := { s with all := s.all && (v != s.neg), neg := false }
def Ev.nott (s : Ev) : Ev := { s with neg := !s.neg }
def Ev.orr (s : Ev) : Ev := { s with any := s.any || s.all, all := true, neg := false }
def Ev.opn (s : Ev) : Ev :=
  if 0 < s.sk then ⟨false, true, false, s.stk, s.sk + 1, s.sa⟩
  else if (s.any || !s.all) = true then ⟨false, true, false, s.stk, 1, s.any⟩
  else ⟨false, true, false, s.neg :: s.stk, 0, s.sa⟩
/-- Is a parenthesis open? -/
def Ev.isOpen (s : Ev) : Bool := decide (0 < s.sk + s.stk.length)
def Ev.cls (s : Ev) : Ev :=
  match s.sk, s.stk with
  | k + 1, _ => ⟨s.sa, false, false, s.stk, k, s.sa⟩
  | 0, [] => s
  | 0, b :: rest => ⟨false, (s.any || s.all) != b, false, rest, 0, s.sa⟩
/-- How many parentheses are open. -/
def Ev.dep (s : Ev) : Nat := s.sk + s.stk.length

theorem dep_opd (s : Ev) (v : Bool) : (s.opd v).dep = s.dep := rfl
theorem dep_nott (s : Ev) : s.nott.dep = s.dep := rfl
theorem dep_orr (s : Ev) : s.orr.dep = s.dep := rfl
theorem dep_opn (s : Ev) : s.opn.dep = s.dep + 1 := by
  unfold Ev.opn Ev.dep
  split
  · simp; omega
  · split
    · simp; omega
    · simp; omega
theorem dep_cls (s : Ev) : s.cls.dep = s.dep - 1 := by
  unfold Ev.cls Ev.dep
  split
  · rename_i h1; simp; omega
  · rename_i h1 h2; rw [h1, h2]; simp
  · rename_i h1 h2; rw [h1, h2]; simp

end Go.Proofs.Qxb6003468a
