/-
  A stack of bits in 64-bit words: plain, no Go in sight.
-/
namespace Go.Proofs.Qxb6003468a

/-- The bit at place i from the bottom; the list's head is the top. -/
def bitOf (stk : List Bool) (i : Nat) : Bool := stk.reverse.getD i false

theorem bitOf_push_old {stk : List Bool} {b : Bool} {i : Nat} (h : i < stk.length) : bitOf (b :: stk) i = bitOf stk i := by
  simp only [bitOf, List.reverse_cons]
  rw [List.getD_eq_getElem?_getD, List.getD_eq_getElem?_getD, List.getElem?_append_left (by simpa using h)]
theorem bitOf_push_new {stk : List Bool} {b : Bool} : bitOf (b :: stk) stk.length = b := by
  simp only [bitOf, List.reverse_cons]
  rw [List.getD_eq_getElem?_getD, List.getElem?_append_right (by simp)]
  simp

/-- The words: 'ws' full, 'T' on top. -/
structure Words (stk : List Bool) (T : Nat) (ws : List Nat) : Prop where
  lo : 64 * ws.length ≤ stk.length
  hi : stk.length ≤ 64 * (ws.length + 1)
  st : ws = [] ∨ 64 * ws.length < stk.length
  tl : T < 18446744073709551616
  wl : ∀ W ∈ ws, W < 18446744073709551616
  full : ∀ j i, j < ws.length → i < 64 → (ws.getD j 0).testBit i = bitOf stk (64 * j + i)
  top : ∀ i, 64 * ws.length + i < stk.length → T.testBit i = bitOf stk (64 * ws.length + i)

theorem words_nil (T : Nat) (h : T < 18446744073709551616) : Words [] T [] :=
  ⟨by simp, by simp, .inl rfl, h, by simp, fun j i hj _ => absurd hj (by simp), fun i hi => absurd hi (by simp)⟩

theorem testBit_or_pow (T m i : Nat) : (T ||| 2 ^ m).testBit i = (T.testBit i || decide (m = i)) := by
  rw [Nat.testBit_or, Nat.testBit_two_pow]
theorem testBit_andNot_pow {m : Nat} (hm : m < 64) (T i : Nat) (hi : i < 64) : (T &&& (18446744073709551615 - 2 ^ m)).testBit i = (T.testBit i && !decide (m = i)) := by
  have e : 18446744073709551615 - 2 ^ m = 2 ^ 64 - (2 ^ m + 1) := by omega
  rw [Nat.testBit_and, e, Nat.testBit_two_pow_sub_succ (Nat.pow_lt_pow_right (by omega) hm), Nat.testBit_two_pow]
  simp [hi]

/-- The word on top behind a push. -/
def setBit (T m : Nat) (b : Bool) : Nat := if b = true then T ||| 2 ^ m else T &&& (18446744073709551615 - 2 ^ m)

theorem setBit_lt {T m : Nat} {b : Bool} (hT : T < 18446744073709551616) (hm : m < 64) : setBit T m b < 18446744073709551616 := by
  unfold setBit
  split
  · exact Nat.or_lt_two_pow (n := 64) hT (Nat.pow_lt_pow_right (by omega) hm)
  · exact Nat.lt_of_le_of_lt Nat.and_le_left hT
theorem setBit_bit {T m i : Nat} {b : Bool} (hm : m < 64) (hi : i < 64) : (setBit T m b).testBit i = if m = i then b else T.testBit i := by
  unfold setBit
  cases b
  · rw [if_neg (by decide), testBit_andNot_pow hm T i hi]
    by_cases e : m = i <;> simp [e]
  · rw [if_pos rfl, testBit_or_pow]
    by_cases e : m = i <;> simp [e]

/-- A push where the top has room. -/
theorem words_push {stk : List Bool} {T : Nat} {ws : List Nat} (h : Words stk T ws) (hr : stk.length ≠ 64 * (ws.length + 1)) (b : Bool) : Words (b :: stk) (setBit T (stk.length % 64) b) ws := by
  obtain ⟨h1, h2, h3, h4, h5, h6, h7⟩ := h
  have hm : stk.length % 64 = stk.length - 64 * ws.length := by omega
  refine ⟨by simp; omega, by simp; omega, .inr (by simp; omega), setBit_lt h4 (by omega), h5, fun j i hj hi => ?_, fun i hi => ?_⟩
  · rw [h6 j i hj hi, bitOf_push_old (by omega)]
  · simp only [List.length_cons] at hi
    rw [setBit_bit (by omega) (by omega)]
    by_cases e : stk.length % 64 = i
    · rw [if_pos e, show 64 * ws.length + i = stk.length by omega, bitOf_push_new]
    · rw [if_neg e, h7 i (by omega), bitOf_push_old (by omega)]

/-- A push where the top is full: the top goes under. -/
theorem words_push_full {stk : List Bool} {T : Nat} {ws : List Nat} (h : Words stk T ws) (hr : stk.length = 64 * (ws.length + 1)) (b : Bool) : Words (b :: stk) (setBit T (stk.length % 64) b) (ws ++ [T]) := by
  obtain ⟨h1, h2, h3, h4, h5, h6, h7⟩ := h
  refine ⟨by simp; omega, by simp; omega, .inr (by simp; omega), setBit_lt h4 (by omega), fun W hW => ?_, fun j i hj hi => ?_, fun i hi => ?_⟩
  · rcases List.mem_append.1 hW with hW | hW
    · exact h5 W hW
    · simp at hW; subst hW; exact h4
  · simp only [List.length_append, List.length_singleton] at hj
    rw [bitOf_push_old (by omega)]
    by_cases e : j < ws.length
    · rw [List.getD_eq_getElem?_getD, List.getElem?_append_left e, ← List.getD_eq_getElem?_getD]
      exact h6 j i e hi
    · obtain rfl : j = ws.length := by omega
      rw [List.getD_eq_getElem?_getD, List.getElem?_append_right (Nat.le_refl _)]
      simp only [Nat.sub_self, List.getElem?_cons_zero, Option.getD_some]
      exact h7 i (by omega)
  · simp only [List.length_append, List.length_cons, List.length_nil, Nat.zero_add] at hi ⊢
    have e : stk.length % 64 = 0 := by omega
    rw [setBit_bit (by omega) (by omega), e, if_pos (by omega), show 64 * (ws.length + 1) + i = stk.length by omega, bitOf_push_new]

/-- What a pop reads. -/
theorem words_bit {b : Bool} {stk : List Bool} {T : Nat} {ws : List Nat} (h : Words (b :: stk) T ws) : T.testBit (stk.length % 64) = b := by
  obtain ⟨h1, h2, h3, h4, h5, h6, h7⟩ := h
  simp only [List.length_cons] at h1 h2 h3 h7
  have e : 64 * ws.length ≤ stk.length := by
    rcases h3 with h3 | h3
    · simp [h3]
    · omega
  have e2 : stk.length % 64 = stk.length - 64 * ws.length := by omega
  have := h7 (stk.length - 64 * ws.length) (by omega)
  rw [e2, this, show 64 * ws.length + (stk.length - 64 * ws.length) = stk.length by omega, bitOf_push_new]

/-- A pop that leaves something in the top, or nothing at all. -/
theorem words_pop {b : Bool} {stk : List Bool} {T : Nat} {ws : List Nat} (h : Words (b :: stk) T ws) (hr : ¬ (stk.length = 64 * ws.length ∧ 0 < ws.length)) : Words stk T ws := by
  obtain ⟨h1, h2, h3, h4, h5, h6, h7⟩ := h
  simp only [List.length_cons] at h1 h2 h3 h7
  have e : 64 * ws.length ≤ stk.length := by
    rcases h3 with h3 | h3
    · simp [h3]
    · omega
  refine ⟨e, by omega, ?_, h4, h5, fun j i hj hi => ?_, fun i hi => ?_⟩
  · by_cases c : ws.length = 0
    · exact .inl (List.eq_nil_of_length_eq_zero c)
    · exact .inr (by omega)
  · rw [h6 j i hj hi, bitOf_push_old (by omega)]
  · rw [h7 i (by omega), bitOf_push_old (by omega)]

/-- A pop that empties the top: the word under it comes up. -/
theorem words_pop_full {b : Bool} {stk : List Bool} {T W : Nat} {ws : List Nat} (h : Words (b :: stk) T (ws ++ [W])) (hr : stk.length = 64 * (ws.length + 1)) : Words stk W ws := by
  obtain ⟨h1, h2, h3, h4, h5, h6, h7⟩ := h
  simp only [List.length_cons, List.length_append, List.length_nil, Nat.zero_add] at h1 h2 h3 h6 h7
  refine ⟨by omega, by omega, .inr (by omega), h5 W (by simp), fun V hV => h5 V (by simp [hV]), fun j i hj hi => ?_, fun i hi => ?_⟩
  · have := h6 j i (by omega) hi
    rw [List.getD_eq_getElem?_getD, List.getElem?_append_left hj, ← List.getD_eq_getElem?_getD] at this
    rw [this, bitOf_push_old (by omega)]
  · have := h6 ws.length i (by omega) (by omega)
    rw [List.getD_eq_getElem?_getD, List.getElem?_append_right (Nat.le_refl _)] at this
    simp only [Nat.sub_self, List.getElem?_cons_zero, Option.getD_some] at this
    rw [this, bitOf_push_old (by omega)]

end Go.Proofs.Qxb6003468a
