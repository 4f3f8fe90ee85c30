/-
  What a factor, a term, an expression do to the machine: plain.
-/
import Derived.Test.Qxb6003468aMach
namespace Go.Proofs.Qxb6003468a

/-- One token; 'none' where a close meets no open parenthesis. -/
def tokM (s : Ev) (t : Int) : Option Ev :=
  if t = 0 then some (s.opd false) else if t = 1 then some (s.opd true) else if t = 2 then some s.nott else if t = 4 then some s.orr else if t = 5 then some s.opn
  else if t = 6 then (if s.isOpen = true then some s.cls else none) else some s

/-- The d tokens from i on. -/
def goM (f : Nat → Int) (i : Nat) : Nat → Ev → Option Ev
  | 0, s => some s
  | d + 1, s => (goM f i d s).bind fun s => tokM s (f (i + d))

theorem goM_one (f : Nat → Int) (i : Nat) (s : Ev) : goM f i 1 s = tokM s (f i) := by simp [goM]
theorem goM_add (f : Nat → Int) (i a : Nat) : ∀ b s, goM f i (a + b) s = (goM f i a s).bind fun s => goM f (i + a) b s
  | 0, s => by simp [goM]
  | b + 1, s => by
    rw [← Nat.add_assoc, goM, goM_add f i a b s, Option.bind_assoc]
    congr 1
    funext s'
    rw [goM, Nat.add_assoc]

/-- From i to j. -/
def seg (f : Nat → Int) (i j : Nat) (s : Ev) : Option Ev := goM f i (j - i) s
theorem seg_one {f : Nat → Int} {i : Nat} {s : Ev} : seg f i (i + 1) s = tokM s (f i) := by
  rw [seg, show i + 1 - i = 1 by omega, goM_one]
theorem seg_join {f : Nat → Int} {i j k : Nat} {s s1 s2 : Ev} (h1 : i ≤ j) (h2 : j ≤ k) (a : seg f i j s = some s1) (b : seg f j k s1 = some s2) : seg f i k s = some s2 := by
  unfold seg at *
  rw [show k - i = (j - i) + (k - j) by omega, goM_add, a, Option.bind_some, show i + (j - i) = j by omega]
  exact b

/-- Inside a skipped parenthesis nothing that counts is turned. -/
def Skips (f : Nat → Int) (i j : Nat) : Prop := ∀ s : Ev, 0 < s.sk → ∃ s', seg f i j s = some s' ∧ s'.sk = s.sk ∧ s'.stk = s.stk ∧ s'.sa = s.sa

/-- A factor of value v stands from i to j. -/
def FX (f : Nat → Int) (i j : Nat) (v : Bool) : Prop :=
  i < j ∧ Skips f i j ∧ ∀ s : Ev, s.sk = 0 → ∃ s', seg f i j s = some s' ∧ s'.sk = 0 ∧ s'.stk = s.stk ∧ s'.neg = false ∧ s'.any = s.any ∧ (s.any = true ∨ s'.all = (s.all && (v != s.neg)))
/-- A term. -/
def TX (f : Nat → Int) (i j : Nat) (v : Bool) : Prop :=
  i < j ∧ Skips f i j ∧ ∀ s : Ev, s.sk = 0 → s.neg = false → ∃ s', seg f i j s = some s' ∧ s'.sk = 0 ∧ s'.stk = s.stk ∧ s'.neg = false ∧ s'.any = s.any ∧ (s.any = true ∨ s'.all = (s.all && v))
/-- An expression. -/
def EX (f : Nat → Int) (i j : Nat) (v : Bool) : Prop :=
  i < j ∧ Skips f i j ∧ ∀ s : Ev, s.sk = 0 → s.neg = false → s.any = false → s.all = true → ∃ s', seg f i j s = some s' ∧ s'.sk = 0 ∧ s'.stk = s.stk ∧ s'.neg = false ∧ (s'.any || s'.all) = v

theorem skips_join {f : Nat → Int} {i j k : Nat} (h1 : i ≤ j) (h2 : j ≤ k) (a : Skips f i j) (b : Skips f j k) : Skips f i k := by
  intro s hs
  obtain ⟨s1, e1, e2, e3, e4⟩ := a s hs
  obtain ⟨s2, g1, g2, g3, g4⟩ := b s1 (by omega)
  exact ⟨s2, seg_join h1 h2 e1 g1, g2.trans e2, g3.trans e3, g4.trans e4⟩

theorem fx_lit {f : Nat → Int} {i : Nat} {v : Bool} (h : f i = if v = true then 1 else 0) : FX f i (i + 1) v := by
  have e : ∀ s : Ev, seg f i (i + 1) s = some (s.opd v) := fun s => by
    rw [seg_one, h]
    cases v <;> simp [tokM]
  exact ⟨by omega, fun s _ => ⟨_, e s, rfl, rfl, rfl⟩, fun s hs => ⟨_, e s, hs, rfl, rfl, rfl, .inr rfl⟩⟩

theorem fx_not {f : Nat → Int} {i j : Nat} {v : Bool} (h : f i = 2) (hf : FX f (i + 1) j v) : FX f i j (!v) := by
  obtain ⟨h1, h2, h3⟩ := hf
  have e : ∀ s : Ev, seg f i (i + 1) s = some s.nott := fun s => by rw [seg_one, h]; rfl
  refine ⟨by omega, fun s hs => ?_, fun s hs => ?_⟩
  · obtain ⟨s', a1, a2, a3, a4⟩ := h2 s.nott hs
    exact ⟨s', seg_join (by omega) (by omega) (e s) a1, a2, a3, a4⟩
  · obtain ⟨s', a1, a2, a3, a4, a5, a6⟩ := h3 s.nott hs
    refine ⟨s', seg_join (by omega) (by omega) (e s) a1, a2, a3, a4, a5, ?_⟩
    rcases a6 with a6 | a6
    · exact .inl a6
    · refine .inr ?_
      rw [a6]
      simp only [Ev.nott]
      cases s.all <;> cases v <;> cases s.neg <;> rfl

theorem cls_skip {s : Ev} (h : 0 < s.sk) : s.isOpen = true ∧ s.cls = ⟨s.sa, false, false, s.stk, s.sk - 1, s.sa⟩ := by
  obtain ⟨any, all, neg, stk, sk, sa⟩ := s
  cases sk with
  | zero => exact absurd h (Nat.lt_irrefl 0)
  | succ k => exact ⟨by simp [Ev.isOpen]; omega, rfl⟩
theorem cls_live {s : Ev} {b : Bool} {rest : List Bool} (h : s.sk = 0) (hs : s.stk = b :: rest) : s.isOpen = true ∧ s.cls = ⟨false, (s.any || s.all) != b, false, rest, 0, s.sa⟩ := by
  obtain ⟨any, all, neg, stk, sk, sa⟩ := s
  obtain rfl : sk = 0 := h
  obtain rfl : stk = b :: rest := hs
  exact ⟨by simp [Ev.isOpen], rfl⟩

theorem fx_par {f : Nat → Int} {i j : Nat} {v : Bool} (h : f i = 5) (he : EX f (i + 1) j v) (hc : f j = 6) : FX f i (j + 1) v := by
  obtain ⟨h1, h2, h3⟩ := he
  have eo : ∀ s : Ev, seg f i (i + 1) s = some s.opn := fun s => by rw [seg_one, h]; rfl
  have ec : ∀ s : Ev, s.isOpen = true → seg f j (j + 1) s = some s.cls := fun s hs => by rw [seg_one, hc]; simp [tokM, hs]
  refine ⟨by omega, fun s hs => ?_, fun s hs => ?_⟩
  · -- skipped
    have eopn : s.opn = ⟨false, true, false, s.stk, s.sk + 1, s.sa⟩ := by unfold Ev.opn; rw [if_pos hs]
    obtain ⟨s1, a1, a2, a3, a4⟩ := h2 s.opn (by rw [eopn]; simp)
    rw [eopn] at a2 a3 a4
    have hk : 0 < s1.sk := by rw [a2]; simp
    obtain ⟨c1, c2⟩ := cls_skip hk
    refine ⟨s1.cls, seg_join (j := j) (by omega) (by omega) (seg_join (by omega) (by omega) (eo s) a1) (ec s1 c1), ?_, ?_, ?_⟩
    · rw [c2, a2]; simp
    · rw [c2]; exact a3
    · rw [c2]; exact a4
  · by_cases hd : (s.any || !s.all) = true
    · -- it cannot count
      have eopn : s.opn = ⟨false, true, false, s.stk, 1, s.any⟩ := by unfold Ev.opn; rw [if_neg (by omega), if_pos hd]
      obtain ⟨s1, a1, a2, a3, a4⟩ := h2 s.opn (by rw [eopn]; simp)
      rw [eopn] at a2 a3 a4
      have hk : 0 < s1.sk := by rw [a2]; simp
      obtain ⟨c1, c2⟩ := cls_skip hk
      refine ⟨s1.cls, seg_join (j := j) (by omega) (by omega) (seg_join (by omega) (by omega) (eo s) a1) (ec s1 c1), ?_, ?_, ?_, ?_, ?_⟩
      · rw [c2, a2]; rfl
      · rw [c2]; exact a3
      · rw [c2]
      · rw [c2]; exact a4
      · rw [c2]
        cases ha : s.any
        · right
          rw [ha] at hd
          simp at hd
          simp [hd]
        · exact .inl rfl
    · -- it counts
      have hd2 : s.any = false ∧ s.all = true := by
        cases ha : s.any <;> cases hl : s.all <;> simp [ha, hl] at hd ⊢
      have eopn : s.opn = ⟨false, true, false, s.neg :: s.stk, 0, s.sa⟩ := by unfold Ev.opn; rw [if_neg (by omega), if_neg hd]
      obtain ⟨s1, a1, a2, a3, a4, a5⟩ := h3 s.opn (by rw [eopn]) (by rw [eopn]) (by rw [eopn]) (by rw [eopn])
      rw [eopn] at a3
      obtain ⟨c1, c2⟩ := cls_live a2 a3
      refine ⟨s1.cls, seg_join (j := j) (by omega) (by omega) (seg_join (by omega) (by omega) (eo s) a1) (ec s1 c1), ?_, ?_, ?_, ?_, .inr ?_⟩
      · rw [c2]
      · rw [c2]
      · rw [c2]
      · rw [c2]; exact hd2.1.symm
      · rw [c2, hd2.2]
        simp [a5]

theorem tx_one {f : Nat → Int} {i j : Nat} {v : Bool} (h : FX f i j v) : TX f i j v := by
  obtain ⟨h1, h2, h3⟩ := h
  refine ⟨h1, h2, fun s hs hn => ?_⟩
  obtain ⟨s', a1, a2, a3, a4, a5, a6⟩ := h3 s hs
  refine ⟨s', a1, a2, a3, a4, a5, ?_⟩
  rcases a6 with a6 | a6
  · exact .inl a6
  · right; rw [a6, hn]; cases s.all <;> cases v <;> rfl

theorem tx_and {f : Nat → Int} {i j k : Nat} {v u : Bool} (h : TX f i j v) (ht : f j = 3) (hf : FX f (j + 1) k u) : TX f i k (v && u) := by
  obtain ⟨h1, h2, h3⟩ := h
  obtain ⟨g1, g2, g3⟩ := hf
  have e : ∀ s : Ev, seg f j (j + 1) s = some s := fun s => by rw [seg_one, ht]; rfl
  have es : Skips f j (j + 1) := fun s _ => ⟨s, e s, rfl, rfl, rfl⟩
  refine ⟨by omega, skips_join (j := j) (by omega) (by omega) h2 (skips_join (j := j + 1) (by omega) (by omega) es g2), fun s hs hn => ?_⟩
  obtain ⟨s1, a1, a2, a3, a4, a5, a6⟩ := h3 s hs hn
  obtain ⟨s2, b1, b2, b3, b4, b5, b6⟩ := g3 s1 a2
  refine ⟨s2, seg_join (j := j) (by omega) (by omega) a1 (seg_join (j := j + 1) (by omega) (by omega) (e s1) b1), b2, b3.trans a3, b4, b5.trans a5, ?_⟩
  rcases a6 with a6 | a6
  · exact .inl a6
  · rcases b6 with b6 | b6
    · left; rw [← a5]; exact b6
    · right
      rw [b6, a6, a4]
      cases s.all <;> cases v <;> cases u <;> rfl

theorem ex_one {f : Nat → Int} {i j : Nat} {v : Bool} (h : TX f i j v) : EX f i j v := by
  obtain ⟨h1, h2, h3⟩ := h
  refine ⟨h1, h2, fun s hs hn ha hl => ?_⟩
  obtain ⟨s', a1, a2, a3, a4, a5, a6⟩ := h3 s hs hn
  refine ⟨s', a1, a2, a3, a4, ?_⟩
  rw [ha, hl] at a6
  rw [a5, ha]
  rcases a6 with a6 | a6
  · cases a6
  · rw [a6]; cases v <;> rfl

theorem ex_or {f : Nat → Int} {i j k : Nat} {v u : Bool} (h : EX f i j v) (ht : f j = 4) (hf : TX f (j + 1) k u) : EX f i k (v || u) := by
  obtain ⟨h1, h2, h3⟩ := h
  obtain ⟨g1, g2, g3⟩ := hf
  have e : ∀ s : Ev, seg f j (j + 1) s = some s.orr := fun s => by rw [seg_one, ht]; rfl
  have es : Skips f j (j + 1) := fun s _ => ⟨s.orr, e s, rfl, rfl, rfl⟩
  refine ⟨by omega, skips_join (j := j) (by omega) (by omega) h2 (skips_join (j := j + 1) (by omega) (by omega) es g2), fun s hs hn ha hl => ?_⟩
  obtain ⟨s1, a1, a2, a3, a4, a5⟩ := h3 s hs hn ha hl
  obtain ⟨s2, b1, b2, b3, b4, b5, b6⟩ := g3 s1.orr a2 rfl
  refine ⟨s2, seg_join (j := j) (by omega) (by omega) a1 (seg_join (j := j + 1) (by omega) (by omega) (e s1) b1), b2, b3.trans a3, b4, ?_⟩
  simp only [Ev.orr] at b5 b6
  rw [a5] at b5 b6
  rw [b5]
  rcases b6 with b6 | b6
  · rw [b6]; rfl
  · rw [b6]; cases v <;> cases u <;> rfl

end Go.Proofs.Qxb6003468a
