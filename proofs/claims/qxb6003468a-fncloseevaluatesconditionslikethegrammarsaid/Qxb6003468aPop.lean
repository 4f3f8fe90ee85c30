import Derived.Test.Qxb6003468aPush
import Derived.BigRegion
namespace Go.Proofs.Qxb6003468a
open Go.RowKit

theorem and_ne {T m : Nat} (hT : T < 18446744073709551616) (hm : m < 64) : (bits BinOp.and IntKind.u64 (T : Int) (IntKind.u64.wrap (2 ^ m)) != 0) = T.testBit m := by
  have h : 2 ^ m < 2 ^ 64 := Nat.pow_lt_pow_right (by omega) hm
  have hp : 0 < 2 ^ m := Nat.two_pow_pos m
  rw [mask_eq hm, u64_and_nat T (2 ^ m) hT (by omega), nat_bit, Nat.testBit_eq_decide_div_mod_eq]
  by_cases e : T / 2 ^ m % 2 = 1
  · rw [e, Nat.one_mul]
    generalize 2 ^ m = p at hp ⊢
    simp
    omega
  · have e0 : T / 2 ^ m % 2 = 0 := by omega
    rw [e0]
    simp

/-- What 'pop' leaves. -/
def PopPost (eb : Nat) (w : World) (bit ok any all neg : Bool) (stk : List Bool) (sk : Nat) (sa : Bool) (e : Ending) (w' : World) : Prop :=
  EvPost eb w (.tuple #[.bool bit, .bool ok]) any all neg stk sk sa e w'

set_option maxHeartbeats 400000 in
theorem pop_nil (eb : Nat) (any all neg : Bool) (sk : Nat) (sa : Bool) (w : World) (h : EvIs eb w any all neg [] sk sa) :
    Calls Try.prog 45 #[.pointer (some ⟨eb, 3, none⟩)] w (PopPost eb w false false any all neg [] sk sa) := by
  have HP : Hid (PopPost eb w false false any all neg [] sk sa (.returned (.tuple #[.bool false, .bool false])) w) := ⟨rfl, h, Below.refl _ _⟩
  obtain ⟨T, fv, ws, h1, _, _⟩ := h
  obtain ⟨c0, c1, c2, c3, c4, c5, c6, c7⟩ := row_cells h1
  simp only [List.length_nil] at c5
  clear h1
  go_enter Try.func45, Try.ntmps45
  go_wp2
  go_ret2
  exact HP.out

set_option maxHeartbeats 1000000 in
theorem pop_room (eb : Nat) (b any all neg : Bool) (stk : List Bool) (sk : Nat) (sa : Bool) (T : Nat) (fa : Option Addr) (cap : Nat) (ws : List Nat) (w : World)
    (h1 : w.rowIs eb 38 8 (evV any all neg T (.slice fa ws.length cap) (b :: stk).length sk sa)) (h2 : w.ownsRow (eb + 1) 33 1 (.slice fa ws.length cap) ws.length (ws.map wv)) (h3 : Words (b :: stk) T ws) (hL : stk.length ≤ 1048576) (hr : ¬ (stk.length = 64 * ws.length ∧ 0 < ws.length)) :
    Calls Try.prog 45 #[.pointer (some ⟨eb, 3, none⟩)] w (PopPost eb w b true any all neg stk sk sa) := by
  obtain ⟨c0, c1, c2, c3, c4, c5, c6, c7⟩ := row_cells h1
  have f5 := h1.frozen 5
  have hwl : ws.length ≤ 1048576 := by have := h3.lo; simp at this; omega
  have hT := h3.tl
  have H1 : Hid (w.rowIs eb 38 8 (evV any all neg T (.slice fa ws.length cap) (b :: stk).length sk sa)) := h1
  have H2 : Hid (w.ownsRow (eb + 1) 33 1 (.slice fa ws.length cap) ws.length (ws.map wv)) := h2
  have H3 : Hid (Words (b :: stk) T ws) := h3
  obtain ⟨L, hLd⟩ : ∃ L, L = stk.length := ⟨_, rfl⟩
  obtain ⟨F, hFd⟩ : ∃ F, F = ws.length := ⟨_, rfl⟩
  rw [List.length_cons, ← hLd] at c5
  rw [← hLd] at hL hr
  rw [← hFd] at c4 hwl hr
  have HL : Hid (L = stk.length) := hLd
  have HF : Hid (F = ws.length) := hFd
  clear hLd hFd h1 h2 h3
  have hL0 : (((L + 1 : Nat) : Int) == 0) = false := by simp; omega
  have HBit : Hid ((bits BinOp.and IntKind.u64 (T : Int) (IntKind.u64.wrap (2 ^ (L % 64))) != 0) = b) := by
    show _ = b
    rw [and_ne hT (by omega), HL.out]
    exact words_bit H3.out
  have HP : Hid (∀ q, PopPost eb w b true any all neg stk sk sa (.returned (.tuple #[.bool b, .bool true])) ((w.setCell ⟨eb, 5, none⟩ (.int .i64 (L : Int))).drewN q)) := fun q => by
    refine ⟨rfl, ⟨T, _, ws, ?_, own_set H2.out _, words_pop H3.out (by rw [← HL.out, ← HF.out]; exact hr)⟩, bel_drewN ((Below.refl eb w).setCell (p := ⟨eb, 5, none⟩) (Nat.le_refl _) _) q⟩
    have e := row_len H1.out L
    rw [HL.out] at e ⊢
    exact e
  by_cases e1 : L = 64 * F
  · have hb1 : ((L : Int) == 64 * (F : Int)) = true := by simp; omega
    have hb2 : ¬ ((0 : Int) < F) := by omega
    have hbc := HBit.out
    clear e1 hr
    go_enter Try.func45, Try.ntmps45
    go_wp2
    go_quiet (fail)
    go_wp2
    go_ret2
    exact HP.out _
  · have hb1 : ((L : Int) == 64 * (F : Int)) = false := by simp; omega
    have hbc := HBit.out
    clear e1 hr
    go_enter Try.func45, Try.ntmps45
    go_wp2
    go_quiet (fail)
    go_wp2
    go_ret2
    exact HP.out _

end Go.Proofs.Qxb6003468a
