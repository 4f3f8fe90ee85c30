import Derived.Test.Qxb6003468aPopF
import Derived.Deep.RegionWith
namespace Go.Proofs.Qxb6003468a
open Go.RowKit

theorem ev3 {eb : Nat} {w w1 : World} {any all neg : Bool} {stk : List Bool} {sk : Nat} {sa : Bool} (h : EvIs eb w1 any all neg stk sk sa) (hB : Below eb w w1) (x y z : Bool) :
    EvPost eb w (.tuple #[]) x y z stk sk sa (.returned (.tuple #[])) (((w1.setCell ⟨eb, 0, none⟩ (.bool x)).setCell ⟨eb, 1, none⟩ (.bool y)).setCell ⟨eb, 2, none⟩ (.bool z)) :=
  ⟨rfl, ev_neg (ev_all (ev_any h x) y) z, ((hB.setCell (p := ⟨eb, 0, none⟩) (Nat.le_refl _) _).setCell (p := ⟨eb, 1, none⟩) (Nat.le_refl _) _).setCell (p := ⟨eb, 2, none⟩) (Nat.le_refl _) _⟩

set_option maxHeartbeats 400000 in
/-- open, inside a skipped parenthesis. -/
theorem open_skip (eb : Nat) (any all neg : Bool) (stk : List Bool) (sk : Nat) (sa : Bool) (w : World) (h : EvIs eb w any all neg stk sk sa) (hs : 0 < sk) (hb : sk ≤ 1048576) :
    Calls Try.prog 37 #[.pointer (some ⟨eb, 0, none⟩)] w (EvPost eb w (.tuple #[]) false true false stk (sk + 1) sa) := by
  obtain ⟨c0, c1, c2, c6, c7, f0, f1, f2, f6, f7⟩ := ev_cells h
  have hp : (0 : Int) < sk := by omega
  have HP : Hid (EvPost eb w (.tuple #[]) false true false stk (sk + 1) sa (.returned (.tuple #[])) ((((w.setCell ⟨eb, 6, none⟩ (.int .i64 ((sk : Int) + 1))).setCell ⟨eb, 0, none⟩ (.bool false)).setCell ⟨eb, 1, none⟩ (.bool true)).setCell ⟨eb, 2, none⟩ (.bool false))) := by
    have e := ev_sk h (sk + 1)
    exact ev3 e ((Below.refl eb w).setCell (p := ⟨eb, 6, none⟩) (Nat.le_refl _) _) false true false
  clear h
  go_enter Try.func37, Try.ntmps37
  go_wp2
  go_end0
  exact HP.out

set_option maxHeartbeats 400000 in
/-- open, where the value inside cannot count. -/
theorem open_dead (eb : Nat) (any all neg : Bool) (stk : List Bool) (sa : Bool) (w : World) (h : EvIs eb w any all neg stk 0 sa) (hd : (any || !all) = true) :
    Calls Try.prog 37 #[.pointer (some ⟨eb, 0, none⟩)] w (EvPost eb w (.tuple #[]) false true false stk 1 any) := by
  obtain ⟨c0, c1, c2, c6, c7, f0, f1, f2, f6, f7⟩ := ev_cells h
  have HP : Hid (EvPost eb w (.tuple #[]) false true false stk 1 any (.returned (.tuple #[])) (((((w.setCell ⟨eb, 6, none⟩ (.int .i64 1)).setCell ⟨eb, 7, none⟩ (.bool any)).setCell ⟨eb, 0, none⟩ (.bool false)).setCell ⟨eb, 1, none⟩ (.bool true)).setCell ⟨eb, 2, none⟩ (.bool false))) := by
    have e := ev_sa (ev_sk h 1) any
    exact ev3 e (((Below.refl eb w).setCell (p := ⟨eb, 6, none⟩) (Nat.le_refl _) _).setCell (p := ⟨eb, 7, none⟩) (Nat.le_refl _) _) false true false
  clear h
  cases any
  · cases all
    · go_enter Try.func37, Try.ntmps37
      go_wp2
      go_end0
      exact HP.out
    · cases hd
  · go_enter Try.func37, Try.ntmps37
    go_wp2
    go_end0
    exact HP.out

set_option maxHeartbeats 1000000 in
/-- open, where it counts. -/
theorem open_live (eb : Nat) (neg : Bool) (stk : List Bool) (sa : Bool) (w : World) (h : EvIs eb w false true neg stk 0 sa) (hL : stk.length ≤ 1048576) :
    Calls Try.prog 37 #[.pointer (some ⟨eb, 0, none⟩)] w (EvPost eb w (.tuple #[]) false true false (neg :: stk) 0 sa) := by
  obtain ⟨c0, c1, c2, c6, c7, f0, f1, f2, f6, f7⟩ := ev_cells h
  have H : Hid (EvIs eb w false true neg stk 0 sa) := h
  clear h
  go_enter Try.func37, Try.ntmps37
  go_wp2
  go_region_with (go_at_call 44; refine (push_any eb neg false true neg stk 0 sa _ (by exact H.out) hL).mono ?_; rintro e w1 ⟨rfl, h1, h2⟩)
  have HP : Hid (EvPost eb w (.tuple #[]) false true false (neg :: stk) 0 sa (.returned (.tuple #[])) (((w1.setCell ⟨eb, 0, none⟩ (.bool false)).setCell ⟨eb, 1, none⟩ (.bool true)).setCell ⟨eb, 2, none⟩ (.bool false))) :=
    ev3 h1 ((Below.refl eb w).drew.trans h2) false true false
  obtain ⟨d0, d1, d2, d6, d7, e0, e1, e2, e6, e7⟩ := ev_cells h1
  clear h1 h2 c0 c1 c2 c6 c7 f0 f1 f2 f6 f7
  go_wp2
  go_end0
  exact HP.out

set_option maxHeartbeats 400000 in
/-- close, inside a skipped parenthesis. -/
theorem close_skip (eb : Nat) (any all neg : Bool) (stk : List Bool) (sk : Nat) (sa : Bool) (w : World) (h : EvIs eb w any all neg stk (sk + 1) sa) (hb : sk ≤ 1048576) :
    Calls Try.prog 38 #[.pointer (some ⟨eb, 0, none⟩)] w (EvPost eb w (.bool true) sa false false stk sk sa) := by
  obtain ⟨c0, c1, c2, c6, c7, f0, f1, f2, f6, f7⟩ := ev_cells h
  have hp : (0 : Int) < (sk : Int) + 1 := by omega
  have HP : Hid (EvPost eb w (.bool true) sa false false stk sk sa (.returned (.bool true)) ((((w.setCell ⟨eb, 6, none⟩ (.int .i64 (sk : Int))).setCell ⟨eb, 0, none⟩ (.bool sa)).setCell ⟨eb, 1, none⟩ (.bool false)).setCell ⟨eb, 2, none⟩ (.bool false))) := by
    have e := ev3 (ev_sk h sk) ((Below.refl eb w).setCell (p := ⟨eb, 6, none⟩) (Nat.le_refl _) _) sa false false
    exact ⟨rfl, e.2.1, e.2.2⟩
  clear h
  go_enter Try.func38, Try.ntmps38
  go_wp2
  go_ret
  exact HP.out

set_option maxHeartbeats 400000 in
/-- close, where no parenthesis is open. -/
theorem close_none (eb : Nat) (any all neg : Bool) (sa : Bool) (w : World) (h : EvIs eb w any all neg [] 0 sa) :
    Calls Try.prog 38 #[.pointer (some ⟨eb, 0, none⟩)] w (EvPost eb w (.bool false) any all neg [] 0 sa) := by
  obtain ⟨c0, c1, c2, c6, c7, f0, f1, f2, f6, f7⟩ := ev_cells h
  have H : Hid (EvIs eb w any all neg [] 0 sa) := h
  clear h
  cases any
  all_goals
    (go_enter Try.func38, Try.ntmps38
     go_wp2_with fail
     refine (pop_nil eb _ all neg 0 sa w H.out).mono ?_
     rintro e w1 ⟨rfl, h1, h2⟩
     have HP : Hid (EvIs eb w1 _ all neg [] 0 sa ∧ Below eb w w1) := ⟨h1, h2⟩
     clear h1 h2
     go_wp2
     go_ret
     exact ⟨rfl, HP.out.1, HP.out.2⟩)

set_option maxHeartbeats 1000000 in
set_option maxRecDepth 100000 in
/-- close, where the value counts. -/
theorem close_live (eb : Nat) (b any all neg : Bool) (stk : List Bool) (sa : Bool) (w : World) (h : EvIs eb w any all neg (b :: stk) 0 sa) (hL : stk.length ≤ 1048576) :
    Calls Try.prog 38 #[.pointer (some ⟨eb, 0, none⟩)] w (EvPost eb w (.bool true) false ((any || all) != b) false stk 0 sa) := by
  obtain ⟨c0, c1, c2, c6, c7, f0, f1, f2, f6, f7⟩ := ev_cells h
  have H : Hid (EvIs eb w any all neg (b :: stk) 0 sa) := h
  clear h
  obtain ⟨v, hv⟩ : ∃ v, v = (any || all) := ⟨_, rfl⟩
  rw [← hv]
  cases any
  · have hva : all = v := by rw [hv]; rfl
    subst hva
    clear hv
    go_enter Try.func38, Try.ntmps38
    go_wp2_with fail
    refine (pop_cons eb b false all neg stk 0 sa w H.out hL).mono ?_
    rintro e w1 ⟨rfl, h1, h2⟩
    have H1 : Hid (EvIs eb (((w1.setCell ⟨eb, 0, none⟩ (.bool false)).setCell ⟨eb, 1, none⟩ (.bool true)).setCell ⟨eb, 2, none⟩ (.bool b)) false true b stk 0 sa) := (ev3 h1 h2 false true b).2.1
    have H2 : Hid (Below eb w (((w1.setCell ⟨eb, 0, none⟩ (.bool false)).setCell ⟨eb, 1, none⟩ (.bool true)).setCell ⟨eb, 2, none⟩ (.bool b))) := (ev3 h1 h2 false true b).2.2
    obtain ⟨d0, d1, d2, d6, d7, e0, e1, e2, e6, e7⟩ := ev_cells h1
    clear h1 h2 c0 c1 c2 c6 c7 f0 f1 f2 f6 f7
    go_wp2_with fail
    refine (operand_any eb all false true b stk 0 sa _ H1.out).mono ?_
    rintro e w2 ⟨rfl, h3, h4⟩
    have HP : Hid (EvIs eb w2 false (all != b) false stk 0 sa ∧ Below eb w w2) := ⟨by simpa using h3, H2.out.trans h4⟩
    clear h3 h4 H1 H2
    go_wp2
    go_ret
    exact ⟨rfl, HP.out.1, HP.out.2⟩
  · have hva : true = v := by rw [hv]; rfl
    subst hva
    clear hv
    go_enter Try.func38, Try.ntmps38
    go_wp2_with fail
    refine (pop_cons eb b true all neg stk 0 sa w H.out hL).mono ?_
    rintro e w1 ⟨rfl, h1, h2⟩
    have H1 : Hid (EvIs eb (((w1.setCell ⟨eb, 0, none⟩ (.bool false)).setCell ⟨eb, 1, none⟩ (.bool true)).setCell ⟨eb, 2, none⟩ (.bool b)) false true b stk 0 sa) := (ev3 h1 h2 false true b).2.1
    have H2 : Hid (Below eb w (((w1.setCell ⟨eb, 0, none⟩ (.bool false)).setCell ⟨eb, 1, none⟩ (.bool true)).setCell ⟨eb, 2, none⟩ (.bool b))) := (ev3 h1 h2 false true b).2.2
    obtain ⟨d0, d1, d2, d6, d7, e0, e1, e2, e6, e7⟩ := ev_cells h1
    clear h1 h2 c0 c1 c2 c6 c7 f0 f1 f2 f6 f7
    go_wp2_with fail
    refine (operand_any eb true false true b stk 0 sa _ H1.out).mono ?_
    rintro e w2 ⟨rfl, h3, h4⟩
    have HP : Hid (EvIs eb w2 false (true != b) false stk 0 sa ∧ Below eb w w2) := ⟨by simpa using h3, H2.out.trans h4⟩
    clear h3 h4 H1 H2
    go_wp2
    go_ret
    exact ⟨rfl, HP.out.1, HP.out.2⟩

end Go.Proofs.Qxb6003468a
