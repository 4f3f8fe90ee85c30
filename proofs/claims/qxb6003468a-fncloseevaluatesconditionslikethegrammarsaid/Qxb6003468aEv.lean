/-
  The evaluation in memory: eight cells of block eb; the words under the top of its stack lie in blocks behind it.
-/
import Derived.Test.Qxb6003468aRows
import Derived.Test.Qxb6003468aBits
import Derived.WalkKit
import Derived.WalkSpells
import Derived.WalkSmall
import Derived.Below
import Derived.Deep.OwnRows
import Derived.Deep.LoopGhost
import Derived.Deep.QuietTactic
import Derived.BigQuiet
namespace Go.Proofs.Qxb6003468a
open Go.RowKit

def wv (W : Nat) : Value := .int .u64 (W : Int)
/-- The eight cells. -/
def evV (any all neg : Bool) (T : Nat) (fv : Value) (L sk : Nat) (sa : Bool) : Nat → Value
  | 0 => .bool any
  | 1 => .bool all
  | 2 => .bool neg
  | 3 => .int .u64 (T : Int)
  | 4 => fv
  | 5 => .int .i64 (L : Int)
  | 6 => .int .i64 (sk : Int)
  | _ => .bool sa

/-- The evaluation at block eb. -/
def EvIs (eb : Nat) (w : World) (any all neg : Bool) (stk : List Bool) (sk : Nat) (sa : Bool) : Prop :=
  ∃ T fv ws, w.rowIs eb 38 8 (evV any all neg T fv stk.length sk sa) ∧ w.ownsRow (eb + 1) 33 1 fv ws.length (ws.map wv) ∧ Words stk T ws

theorem eight {P : Nat → Prop} (h0 : P 0) (h1 : P 1) (h2 : P 2) (h3 : P 3) (h4 : P 4) (h5 : P 5) (h6 : P 6) (h7 : P 7) : ∀ j, j < 8 → P j := by
  intro j hj
  match j, hj with
  | 0, _ => exact h0
  | 1, _ => exact h1
  | 2, _ => exact h2
  | 3, _ => exact h3
  | 4, _ => exact h4
  | 5, _ => exact h5
  | 6, _ => exact h6
  | 7, _ => exact h7

section
variable {eb : Nat} {w : World} {any all neg : Bool} {T : Nat} {fv : Value} {L sk : Nat} {sa : Bool}
theorem row_any (h : w.rowIs eb 38 8 (evV any all neg T fv L sk sa)) (x : Bool) : (w.setCell ⟨eb, 0, none⟩ (.bool x)).rowIs eb 38 8 (evV x all neg T fv L sk sa) :=
  (h.set 0 _).congr (eight rfl rfl rfl rfl rfl rfl rfl rfl)
theorem row_all (h : w.rowIs eb 38 8 (evV any all neg T fv L sk sa)) (x : Bool) : (w.setCell ⟨eb, 1, none⟩ (.bool x)).rowIs eb 38 8 (evV any x neg T fv L sk sa) :=
  (h.set 1 _).congr (eight rfl rfl rfl rfl rfl rfl rfl rfl)
theorem row_neg (h : w.rowIs eb 38 8 (evV any all neg T fv L sk sa)) (x : Bool) : (w.setCell ⟨eb, 2, none⟩ (.bool x)).rowIs eb 38 8 (evV any all x T fv L sk sa) :=
  (h.set 2 _).congr (eight rfl rfl rfl rfl rfl rfl rfl rfl)
theorem row_top (h : w.rowIs eb 38 8 (evV any all neg T fv L sk sa)) (x : Nat) : (w.setCell ⟨eb, 3, none⟩ (.int .u64 (x : Int))).rowIs eb 38 8 (evV any all neg x fv L sk sa) :=
  (h.set 3 _).congr (eight rfl rfl rfl rfl rfl rfl rfl rfl)
theorem row_full (h : w.rowIs eb 38 8 (evV any all neg T fv L sk sa)) (x : Value) : (w.setCell ⟨eb, 4, none⟩ x).rowIs eb 38 8 (evV any all neg T x L sk sa) :=
  (h.set 4 _).congr (eight rfl rfl rfl rfl rfl rfl rfl rfl)
theorem row_len (h : w.rowIs eb 38 8 (evV any all neg T fv L sk sa)) (x : Nat) : (w.setCell ⟨eb, 5, none⟩ (.int .i64 (x : Int))).rowIs eb 38 8 (evV any all neg T fv x sk sa) :=
  (h.set 5 _).congr (eight rfl rfl rfl rfl rfl rfl rfl rfl)
theorem row_sk (h : w.rowIs eb 38 8 (evV any all neg T fv L sk sa)) (x : Nat) : (w.setCell ⟨eb, 6, none⟩ (.int .i64 (x : Int))).rowIs eb 38 8 (evV any all neg T fv L x sa) :=
  (h.set 6 _).congr (eight rfl rfl rfl rfl rfl rfl rfl rfl)
theorem row_sa (h : w.rowIs eb 38 8 (evV any all neg T fv L sk sa)) (x : Bool) : (w.setCell ⟨eb, 7, none⟩ (.bool x)).rowIs eb 38 8 (evV any all neg T fv L sk x) :=
  (h.set 7 _).congr (eight rfl rfl rfl rfl rfl rfl rfl rfl)

/-- The cells as the walk reads them. -/
theorem row_cells (h : w.rowIs eb 38 8 (evV any all neg T fv L sk sa)) :
    w.cell? ⟨eb, 0, none⟩ = some (.bool any) ∧ w.cell? ⟨eb, 1, none⟩ = some (.bool all) ∧ w.cell? ⟨eb, 2, none⟩ = some (.bool neg) ∧ w.cell? ⟨eb, 3, none⟩ = some (.int .u64 (T : Int)) ∧
    w.cell? ⟨eb, 4, none⟩ = some fv ∧ w.cell? ⟨eb, 5, none⟩ = some (.int .i64 (L : Int)) ∧ w.cell? ⟨eb, 6, none⟩ = some (.int .i64 (sk : Int)) ∧ w.cell? ⟨eb, 7, none⟩ = some (.bool sa) :=
  ⟨h.cell (i := 0) (by decide), h.cell (i := 1) (by decide), h.cell (i := 2) (by decide), h.cell (i := 3) (by decide), h.cell (i := 4) (by decide), h.cell (i := 5) (by decide), h.cell (i := 6) (by decide), h.cell (i := 7) (by decide)⟩
end

theorem own_set {w : World} {eb k : Nat} {fv : Value} {ws : List Nat} (h : w.ownsRow (eb + 1) 33 1 fv ws.length (ws.map wv)) (x : Value) : (w.setCell ⟨eb, k, none⟩ x).ownsRow (eb + 1) 33 1 fv ws.length (ws.map wv) :=
  ownsRow_setCell_below h (by simp) x

theorem ev_any {eb : Nat} {w : World} {any all neg : Bool} {stk : List Bool} {sk : Nat} {sa : Bool} (h : EvIs eb w any all neg stk sk sa) (x : Bool) : EvIs eb (w.setCell ⟨eb, 0, none⟩ (.bool x)) x all neg stk sk sa := by
  obtain ⟨T, fv, ws, h1, h2, h3⟩ := h
  exact ⟨T, fv, ws, row_any h1 x, own_set h2 _, h3⟩
theorem ev_all {eb : Nat} {w : World} {any all neg : Bool} {stk : List Bool} {sk : Nat} {sa : Bool} (h : EvIs eb w any all neg stk sk sa) (x : Bool) : EvIs eb (w.setCell ⟨eb, 1, none⟩ (.bool x)) any x neg stk sk sa := by
  obtain ⟨T, fv, ws, h1, h2, h3⟩ := h
  exact ⟨T, fv, ws, row_all h1 x, own_set h2 _, h3⟩
theorem ev_neg {eb : Nat} {w : World} {any all neg : Bool} {stk : List Bool} {sk : Nat} {sa : Bool} (h : EvIs eb w any all neg stk sk sa) (x : Bool) : EvIs eb (w.setCell ⟨eb, 2, none⟩ (.bool x)) any all x stk sk sa := by
  obtain ⟨T, fv, ws, h1, h2, h3⟩ := h
  exact ⟨T, fv, ws, row_neg h1 x, own_set h2 _, h3⟩
theorem ev_sk {eb : Nat} {w : World} {any all neg : Bool} {stk : List Bool} {sk : Nat} {sa : Bool} (h : EvIs eb w any all neg stk sk sa) (x : Nat) : EvIs eb (w.setCell ⟨eb, 6, none⟩ (.int .i64 (x : Int))) any all neg stk x sa := by
  obtain ⟨T, fv, ws, h1, h2, h3⟩ := h
  exact ⟨T, fv, ws, row_sk h1 x, own_set h2 _, h3⟩
theorem ev_sa {eb : Nat} {w : World} {any all neg : Bool} {stk : List Bool} {sk : Nat} {sa : Bool} (h : EvIs eb w any all neg stk sk sa) (x : Bool) : EvIs eb (w.setCell ⟨eb, 7, none⟩ (.bool x)) any all neg stk sk x := by
  obtain ⟨T, fv, ws, h1, h2, h3⟩ := h
  exact ⟨T, fv, ws, row_sa h1 x, own_set h2 _, h3⟩
theorem ev_drewN {eb : Nat} {w : World} {any all neg : Bool} {stk : List Bool} {sk : Nat} {sa : Bool} (q : Nat) (h : EvIs eb w any all neg stk sk sa) : EvIs eb (w.drewN q) any all neg stk sk sa := h
theorem bel_drewN {B : Nat} {a w : World} (h : Below B a w) (q : Nat) : Below B a (w.drewN q) := ⟨h.os, h.tape, h.output, h.size, h.block⟩

theorem ev_lt {eb : Nat} {w : World} {any all neg : Bool} {stk : List Bool} {sk : Nat} {sa : Bool} (h : EvIs eb w any all neg stk sk sa) : eb < w.heap.size := by
  obtain ⟨T, fv, ws, h1, _, _⟩ := h
  exact h1.lt

/-- What the walk is told of the cells, and that they may be written. -/
theorem ev_cells {eb : Nat} {w : World} {any all neg : Bool} {stk : List Bool} {sk : Nat} {sa : Bool} (h : EvIs eb w any all neg stk sk sa) :
    w.cell? ⟨eb, 0, none⟩ = some (.bool any) ∧ w.cell? ⟨eb, 1, none⟩ = some (.bool all) ∧ w.cell? ⟨eb, 2, none⟩ = some (.bool neg) ∧ w.cell? ⟨eb, 6, none⟩ = some (.int .i64 (sk : Int)) ∧ w.cell? ⟨eb, 7, none⟩ = some (.bool sa) ∧
    w.frozen? ⟨eb, 0, none⟩ = false ∧ w.frozen? ⟨eb, 1, none⟩ = false ∧ w.frozen? ⟨eb, 2, none⟩ = false ∧ w.frozen? ⟨eb, 6, none⟩ = false ∧ w.frozen? ⟨eb, 7, none⟩ = false := by
  obtain ⟨T, fv, ws, h1, _, _⟩ := h
  obtain ⟨a, b, c, _, _, _, d, e⟩ := row_cells h1
  exact ⟨a, b, c, d, e, h1.frozen 0, h1.frozen 1, h1.frozen 2, h1.frozen 6, h1.frozen 7⟩

/-- A call that leaves an evaluation. -/
def EvPost (eb : Nat) (w : World) (v : Value) (any all neg : Bool) (stk : List Bool) (sk : Nat) (sa : Bool) (e : Ending) (w' : World) : Prop :=
  e = .returned v ∧ EvIs eb w' any all neg stk sk sa ∧ Below eb w w'

set_option maxHeartbeats 400000 in
/-- ZZSetEvalState. -/
theorem set_any (eb : Nat) (x y z any all neg : Bool) (stk : List Bool) (sk : Nat) (sa : Bool) (w : World) (h : EvIs eb w any all neg stk sk sa) :
    Calls Try.prog 17 #[.pointer (some ⟨eb, 0, none⟩), .bool x, .bool y, .bool z] w (EvPost eb w (.tuple #[]) x y z stk sk sa) := by
  obtain ⟨c0, c1, c2, _, _, f0, f1, f2, _, _⟩ := ev_cells h
  have HP : Hid (EvPost eb w (.tuple #[]) x y z stk sk sa (.returned (.tuple #[])) (((w.setCell ⟨eb, 0, none⟩ (.bool x)).setCell ⟨eb, 1, none⟩ (.bool y)).setCell ⟨eb, 2, none⟩ (.bool z))) :=
    ⟨rfl, ev_neg (ev_all (ev_any h x) y) z, (((Below.refl eb w).setCell (Nat.le_refl _) _).setCell (Nat.le_refl _) _).setCell (Nat.le_refl _) _⟩
  clear h
  go_enter Try.func17, Try.ntmps17
  go_wp2
  go_end0
  exact HP.out

set_option maxHeartbeats 400000 in
/-- operand. -/
theorem operand_any (eb : Nat) (v any all neg : Bool) (stk : List Bool) (sk : Nat) (sa : Bool) (w : World) (h : EvIs eb w any all neg stk sk sa) :
    Calls Try.prog 36 #[.pointer (some ⟨eb, 0, none⟩), .bool v] w (EvPost eb w (.tuple #[]) any (all && (v != neg)) false stk sk sa) := by
  obtain ⟨c0, c1, c2, _, _, f0, f1, f2, _, _⟩ := ev_cells h
  have HP : Hid (EvPost eb w (.tuple #[]) any (all && (v != neg)) false stk sk sa (.returned (.tuple #[])) ((w.setCell ⟨eb, 1, none⟩ (.bool (all && (v != neg)))).setCell ⟨eb, 2, none⟩ (.bool false))) :=
    ⟨rfl, ev_neg (ev_all h _) false, ((Below.refl eb w).setCell (Nat.le_refl _) _).setCell (Nat.le_refl _) _⟩
  clear h
  cases all
  all_goals
    (go_enter Try.func36, Try.ntmps36
     go_wp2
     go_end0
     exact HP.out)

set_option maxHeartbeats 400000 in
/-- ZZOperand. -/
theorem zzoperand_any (eb : Nat) (v any all neg : Bool) (stk : List Bool) (sk : Nat) (sa : Bool) (w : World) (h : EvIs eb w any all neg stk sk sa) :
    Calls Try.prog 18 #[.pointer (some ⟨eb, 0, none⟩), .bool v] w (EvPost eb w (.tuple #[]) any (all && (v != neg)) false stk sk sa) := by
  go_enter Try.func18, Try.ntmps18
  go_wp2_with fail
  refine (operand_any eb v any all neg stk sk sa w h).mono ?_
  rintro e w1 ⟨rfl, h1, h2⟩
  go_wp2
  go_end0
  exact ⟨rfl, h1, h2⟩

set_option maxHeartbeats 400000 in
/-- ZZEvalState. -/
theorem state_any (eb : Nat) (any all neg : Bool) (stk : List Bool) (sk : Nat) (sa : Bool) (w : World) (h : EvIs eb w any all neg stk sk sa) :
    Calls Try.prog 25 #[.pointer (some ⟨eb, 0, none⟩)] w fun e w' => e = .returned (.tuple #[.bool any, .bool all, .bool neg]) ∧ ∃ q, w' = w.drewN q := by
  obtain ⟨c0, c1, c2, _, _, f0, f1, f2, _, _⟩ := ev_cells h
  clear h
  go_enter Try.func25, Try.ntmps25
  go_wp2
  go_quiet (fail)
  go_wp2
  go_ret3
  exact ⟨rfl, _, rfl⟩

set_option maxHeartbeats 400000 in
/-- A 'not'. -/
theorem not_any (eb : Nat) (any all neg : Bool) (stk : List Bool) (sk : Nat) (sa : Bool) (w : World) (h : EvIs eb w any all neg stk sk sa) :
    Calls Try.prog 19 #[.pointer (some ⟨eb, 0, none⟩)] w (EvPost eb w (.tuple #[]) any all (!neg) stk sk sa) := by
  go_enter Try.func19, Try.ntmps19
  go_wp2_with fail
  refine (state_any eb any all neg stk sk sa w h).mono ?_
  rintro e w1 ⟨rfl, q, rfl⟩
  go_wp2_with fail
  refine (set_any eb any all (!neg) any all neg stk sk sa (w.drewN q) (ev_drewN q h)).mono ?_
  rintro e w1 ⟨rfl, h1, h2⟩
  go_wp2
  go_end0
  exact ⟨rfl, h1, (bel_drewN (Below.refl eb w) q).trans h2⟩

set_option maxHeartbeats 400000 in
/-- An 'or'. -/
theorem or_any (eb : Nat) (any all neg : Bool) (stk : List Bool) (sk : Nat) (sa : Bool) (w : World) (h : EvIs eb w any all neg stk sk sa) :
    Calls Try.prog 20 #[.pointer (some ⟨eb, 0, none⟩)] w (EvPost eb w (.tuple #[]) (any || all) true false stk sk sa) := by
  cases any
  all_goals
    (go_enter Try.func20, Try.ntmps20
     go_wp2_with fail
     refine (state_any eb _ all neg stk sk sa w h).mono ?_
     rintro e w1 ⟨rfl, q, rfl⟩
     go_wp2_with fail
     refine (set_any eb _ true false _ all neg stk sk sa (w.drewN q) (ev_drewN q h)).mono ?_
     rintro e w1 ⟨rfl, h1, h2⟩
     go_wp2
     go_end0
     exact ⟨rfl, h1, (bel_drewN (Below.refl eb w) q).trans h2⟩)

end Go.Proofs.Qxb6003468a
