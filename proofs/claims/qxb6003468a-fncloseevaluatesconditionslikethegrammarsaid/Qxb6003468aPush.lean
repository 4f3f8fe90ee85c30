import Derived.Test.Qxb6003468aEv
import Derived.Deep.RegionHeld3
import Derived.Deep.AppendLies
namespace Go.Proofs.Qxb6003468a
open Go.RowKit

theorem Try.info33 : (Try.prog.info? 33).map (fun i => (i.zero, i.size, i.bytes)) = some (some (.int .u64 0), 1, 8) := by kernel_rfl

theorem mask_eq {m : Nat} (hm : m < 64) : IntKind.u64.wrap (2 ^ m) = ((2 ^ m : Nat) : Int) := by
  have h : 2 ^ m < 2 ^ 64 := Nat.pow_lt_pow_right (by omega) hm
  have e : (2 : Int) ^ m = ((2 ^ m : Nat) : Int) := by simp
  obtain ⟨p, hp⟩ : ∃ p, p = 2 ^ m := ⟨_, rfl⟩
  rw [e, IntKind.wrap_u64, ← hp]
  rw [← hp] at h
  omega
theorem or_eq {T m : Nat} (hT : T < 18446744073709551616) (hm : m < 64) : bits BinOp.or IntKind.u64 (T : Int) (IntKind.u64.wrap (2 ^ m)) = ((setBit T m true : Nat) : Int) := by
  have h : 2 ^ m < 2 ^ 64 := Nat.pow_lt_pow_right (by omega) hm
  rw [mask_eq hm, u64_or_nat T (2 ^ m) hT (by omega)]
  simp [setBit]
theorem andNot_eq {T m : Nat} (hT : T < 18446744073709551616) (hm : m < 64) : bits BinOp.andNot IntKind.u64 (T : Int) (IntKind.u64.wrap (2 ^ m)) = ((setBit T m false : Nat) : Int) := by
  have h : 2 ^ m < 2 ^ 64 := Nat.pow_lt_pow_right (by omega) hm
  rw [mask_eq hm, u64_andNot_nat T (2 ^ m) hT (by omega)]
  simp [setBit]

theorem push_post {eb : Nat} {b any all neg : Bool} {stk : List Bool} {sk : Nat} {sa : Bool} {T : Nat} {fv : Value} {ws : List Nat} {w w1 : World} {x : Int} {L : Nat}
    (h1 : w1.rowIs eb 38 8 (evV any all neg T fv stk.length sk sa)) (h2 : w1.ownsRow (eb + 1) 33 1 fv ws.length (ws.map wv)) (h3 : Words (b :: stk) (setBit T (stk.length % 64) b) ws) (hL : L = stk.length) (hB : Below eb w w1)
    (hx : x = ((setBit T (L % 64) b : Nat) : Int)) : EvPost eb w (.tuple #[]) any all neg (b :: stk) sk sa (.returned (.tuple #[])) ((w1.setCell ⟨eb, 3, none⟩ (.int .u64 x)).setCell ⟨eb, 5, none⟩ (.int .i64 ((L : Int) + 1))) := by
  subst hL hx
  refine ⟨rfl, ⟨_, fv, ws, ?_, own_set (own_set h2 _) _, h3⟩, (hB.setCell (Nat.le_refl _) _).setCell (Nat.le_refl _) _⟩
  have e := row_len (row_top h1 (setBit T (stk.length % 64) b)) (stk.length + 1)
  simpa using e

set_option maxHeartbeats 1000000 in
theorem push_room (eb : Nat) (b any all neg : Bool) (stk : List Bool) (sk : Nat) (sa : Bool) (T : Nat) (fa : Option Addr) (cap : Nat) (ws : List Nat) (w : World)
    (h1 : w.rowIs eb 38 8 (evV any all neg T (.slice fa ws.length cap) stk.length sk sa)) (h2 : w.ownsRow (eb + 1) 33 1 (.slice fa ws.length cap) ws.length (ws.map wv)) (h3 : Words stk T ws) (hL : stk.length ≤ 1048576) (hr : stk.length ≠ 64 * (ws.length + 1)) :
    Calls Try.prog 44 #[.pointer (some ⟨eb, 3, none⟩), .bool b] w (EvPost eb w (.tuple #[]) any all neg (b :: stk) sk sa) := by
  obtain ⟨c0, c1, c2, c3, c4, c5, c6, c7⟩ := row_cells h1
  have f3 := h1.frozen 3
  have f5 := h1.frozen 5
  have hwl : ws.length ≤ 1048576 := by have := h3.lo; omega
  have hT := h3.tl
  have H1 : Hid (w.rowIs eb 38 8 (evV any all neg T (.slice fa ws.length cap) stk.length sk sa)) := h1
  have H2 : Hid (w.ownsRow (eb + 1) 33 1 (.slice fa ws.length cap) ws.length (ws.map wv)) := h2
  have H3 : Hid (Words stk T ws) := h3
  obtain ⟨L, hLd⟩ : ∃ L, L = stk.length := ⟨_, rfl⟩
  obtain ⟨F, hFd⟩ : ∃ F, F = ws.length := ⟨_, rfl⟩
  rw [← hLd] at c5 hL hr
  rw [← hFd] at c4 hwl hr
  have HL : Hid (L = stk.length) := hLd
  have HF : Hid (F = ws.length) := hFd
  clear hLd hFd h1 h2 h3
  have hb1 : ((L : Int) == 64 * ((F : Int) + 1)) = false := by simp; omega
  have HP : Hid (∀ q x, x = ((setBit T (L % 64) b : Nat) : Int) → EvPost eb w (.tuple #[]) any all neg (b :: stk) sk sa (.returned (.tuple #[])) (((w.drewN q).setCell ⟨eb, 3, none⟩ (.int .u64 x)).setCell ⟨eb, 5, none⟩ (.int .i64 ((L : Int) + 1)))) :=
    fun q x hx => push_post (w1 := w.drewN q) H1.out H2.out (words_push H3.out (by rw [← HL.out, ← HF.out]; exact hr) b) HL.out (bel_drewN (Below.refl _ _) q) hx
  cases b
  · go_enter Try.func44, Try.ntmps44
    go_wp2
    go_quiet (fail)
    go_wp2
    go_end0
    exact HP.out _ _ (andNot_eq hT (by omega))
  · go_enter Try.func44, Try.ntmps44
    go_wp2
    go_quiet (fail)
    go_wp2
    go_end0
    exact HP.out _ _ (or_eq hT (by omega))
end Go.Proofs.Qxb6003468a
