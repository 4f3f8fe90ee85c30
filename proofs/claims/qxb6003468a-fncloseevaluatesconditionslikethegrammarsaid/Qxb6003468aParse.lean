import Derived.Test.Qxb6003468aBase
import Derived.Test.Qxb6003468aGram
import Derived.OwnWalk
namespace Go.Proofs.Qxb6003468a
open Go.RowKit

/-- What a parser answers: behind it the tokens from i to j are what X says. -/
def PPost (X : Nat → Nat → Bool → Prop) (n i : Nat) (w : World) (e : Ending) (w' : World) : Prop :=
  ∃ (v : Bool) (j : Nat) (ok : Bool), e = .returned (.tuple #[.bool v, .int .i64 (j : Int), .bool ok]) ∧ j ≤ n ∧ (ok = true → X i j v) ∧ w = w'

/-- Each parser's contract, from every i of which fewer than d tokens follow. -/
def UpTo (F : Nat) (X : Nat → Nat → Bool → Prop) (a : Option Addr) (n : Nat) (w : World) (d : Nat) : Prop :=
  ∀ i, i ≤ n → n - i < d → Calls Try.prog F #[.slice a n n, .int .i64 (i : Int)] w (PPost X n i w)

set_option maxHeartbeats 2000000 in
set_option maxRecDepth 100000 in
theorem factor_step {a : Option Addr} {n : Nat} {f : Nat → Int} {w : World} {d : Nat} (r : Row w a n f) (hn : n ≤ 1048576) (hF : UpTo 46 (FX f) a n w d) (hE : UpTo 24 (EX f) a n w d) : UpTo 46 (FX f) a n w (d + 1) := by
  intro i hi hd
  have R : Hid (Row w a n f) := r
  have HF : Hid (UpTo 46 (FX f) a n w d) := hF
  have HE : Hid (UpTo 24 (EX f) a n w d) := hE
  clear r hF hE
  by_cases h1 : i < n
  · have hi1 : (i : Int) < n := by omega
    obtain ⟨b, o, rfl, hc⟩ : ∃ b o, a = some ⟨b, o, none⟩ ∧ ∀ k, k < n → w.cell? ⟨b, o + k, none⟩ = some (.int .u8 (f k)) := by
      rcases R.out with h0 | h0
      · omega
      · exact h0
    have HC : Hid (∀ k, k < n → w.cell? ⟨b, o + k, none⟩ = some (.int .u8 (f k))) := hc
    have g1 := hc i h1
    clear hc
    by_cases h0 : f i = 0
    · have HP : Hid (PPost (FX f) n i w (.returned (.tuple #[.bool false, .int .i64 ((i : Int) + 1), .bool true])) w) := ⟨false, i + 1, true, by simp, by omega, fun _ => fx_lit (by simp [h0]), rfl⟩
      go_enter Try.func46, Try.ntmps46
      go_wp2
      go_ret3
      exact HP.out
    by_cases h11 : f i = 1
    · have HP : Hid (PPost (FX f) n i w (.returned (.tuple #[.bool true, .int .i64 ((i : Int) + 1), .bool true])) w) := ⟨true, i + 1, true, by simp, by omega, fun _ => fx_lit (by simp [h11]), rfl⟩
      clear h0
      go_enter Try.func46, Try.ntmps46
      go_wp2
      go_ret3
      exact HP.out
    by_cases h2 : f i = 2
    · clear h0 h11
      have H2 : Hid (f i = 2) := h2
      go_enter Try.func46, Try.ntmps46
      go_wp2_with fail
      rw [show ((i : Int) + 1) = ((i + 1 : Nat) : Int) from by omega]
      refine (HF.out (i + 1) (by omega) (by omega)).mono ?_
      rintro e w1 ⟨v, j, ok, rfl, hj, hx, rfl⟩
      have HX : Hid (ok = true → FX f (i + 1) j v) := hx
      clear hx
      go_wp2
      go_ret3
      exact ⟨!v, j, ok, rfl, hj, fun e => fx_not H2.out (HX.out e), rfl⟩
    by_cases h5 : f i = 5
    · clear h0 h11 h2
      have H5 : Hid (f i = 5) := h5
      go_enter Try.func46, Try.ntmps46
      go_wp2_with fail
      rw [show ((i : Int) + 1) = ((i + 1 : Nat) : Int) from by omega]
      refine (HE.out (i + 1) (by omega) (by omega)).mono ?_
      rintro e w1 ⟨v, j, ok, rfl, hj, hx, rfl⟩
      have HX : Hid (ok = true → EX f (i + 1) j v) := hx
      clear hx
      cases ok
      · go_wp2
        go_ret3
        exact ⟨false, j, false, rfl, hj, (by intro c; cases c), rfl⟩
      · by_cases hjn : j < n
        · have hj1 : (j : Int) < n := by omega
          have g2 := HC.out j hjn
          by_cases h6 : f j = 6
          · have h6' : (f j != 6) = false := by simp [h6]
            have H6 : Hid (f j = 6) := h6
            clear h6
            go_wp2
            go_ret3
            exact ⟨v, j + 1, true, by simp, by omega, fun _ => fx_par H5.out (HX.out (by simp)) H6.out, rfl⟩
          · have h6' : (f j != 6) = true := by simp [h6]
            clear h6
            go_wp2
            go_ret3
            exact ⟨false, j, false, rfl, hj, (by intro c; cases c), rfl⟩
        · have hj1 : ¬ ((j : Int) < n) := by omega
          go_wp2
          go_ret3
          exact ⟨false, j, false, rfl, hj, (by intro c; cases c), rfl⟩
    · have e0 : (f i == 0) = false := by simp [h0]
      have e1 : (f i == 1) = false := by simp [h11]
      have e2 : (f i == 2) = false := by simp [h2]
      have e5 : (f i == 5) = false := by simp [h5]
      clear h0 h11 h2 h5
      go_enter Try.func46, Try.ntmps46
      go_wp2
      go_ret3
      exact ⟨false, i, false, rfl, hi, (by intro c; cases c), rfl⟩
  · have hi1 : ¬ ((i : Int) < n) := by omega
    go_enter Try.func46, Try.ntmps46
    go_wp2
    go_ret3
    exact ⟨false, i, false, rfl, hi, (by intro c; cases c), rfl⟩

set_option maxHeartbeats 2000000 in
set_option maxRecDepth 100000 in
theorem term_step {a : Option Addr} {n : Nat} {f : Nat → Int} {w : World} {d : Nat} (r : Row w a n f) (hn : n ≤ 1048576) (hG : UpTo 46 (FX f) a n w d) : UpTo 39 (TX f) a n w d := by
  intro i hi hd
  have R : Hid (Row w a n f) := r
  have HG : Hid (UpTo 46 (FX f) a n w d) := hG
  clear r hG
  go_enter Try.func39, Try.ntmps39
  go_wp2_with fail
  refine (HG.out i hi hd).mono ?_
  rintro e w1 ⟨v, j, ok, rfl, hj, hx, rfl⟩
  have HX : Hid (ok = true → FX f i j v) := hx
  clear hx
  go_wp2_with fail
  go_loopg [7, 8, 9] (if ok = true then n - j + 1 else 0) (fun g x y z wr => w = wr ∧ ∃ (v : Bool) (j : Nat) (ok : Bool), x = .bool v ∧ y = .int .i64 (j : Int) ∧ z = .bool ok ∧ j ≤ n ∧ g = (if ok = true then n - j + 1 else 0) ∧ (ok = true → TX f i j v))
  case atStart => exact ⟨rfl, v, j, ok, rfl, rfl, rfl, hj, rfl, fun e => tx_one (HX.out e)⟩
  case round =>
    obtain ⟨rfl, v, j, ok, rfl, rfl, rfl, hj, rfl, hx⟩ := hrel
    clear HX
    cases ok
    · go_wp2
      go_ret3
      exact ⟨v, j, false, rfl, hj, (by intro c; cases c), rfl⟩
    · have HX : Hid (TX f i j v) := hx rfl
      clear hx
      have hij : i < j := HX.out.1
      by_cases hjn : j < n
      · have hj1 : (j : Int) < n := by omega
        obtain ⟨b, o, rfl, hc⟩ : ∃ b o, a = some ⟨b, o, none⟩ ∧ w.cell? ⟨b, o + j, none⟩ = some (.int .u8 (f j)) := by
          rcases R.out with h0 | ⟨b, o, h0, hc⟩
          · omega
          · exact ⟨b, o, h0, hc j hjn⟩
        by_cases ht : f j = 3
        · have ht' : (f j == 3) = true := by simp [ht]
          have HT : Hid (f j = 3) := ht
          clear ht
          go_wp2_with fail
          rw [show ((j : Int) + 1) = ((j + 1 : Nat) : Int) from by omega]
          refine (HG.out (j + 1) (by omega) (by omega)).mono ?_
          rintro e w1 ⟨u, j', ok', rfl, hj', hx', rfl⟩
          have HX' : Hid (ok' = true → FX f (j + 1) j' u) := hx'
          clear hx'
          cases v
          all_goals
            (go_wp2
             go_roundg (if ok' = true then n - j' + 1 else 0)
             case measure =>
               split
               · rename_i c
                 have := (HX'.out c).1
                 omega
               · omega
             case rel => exact ⟨rfl, _, j', ok', rfl, rfl, rfl, hj', rfl, fun c => tx_and HX.out HT.out (HX'.out c)⟩)
        · have ht' : (f j == 3) = false := by simp [ht]
          clear ht
          go_wp2
          go_ret3
          exact ⟨v, j, true, rfl, hj, fun _ => HX.out, rfl⟩
      · have hj1 : ¬ ((j : Int) < n) := by omega
        go_wp2
        go_ret3
        exact ⟨v, j, true, rfl, hj, fun _ => HX.out, rfl⟩

set_option maxHeartbeats 2000000 in
set_option maxRecDepth 100000 in
theorem expr_step {a : Option Addr} {n : Nat} {f : Nat → Int} {w : World} {d : Nat} (r : Row w a n f) (hn : n ≤ 1048576) (hG : UpTo 39 (TX f) a n w d) : UpTo 24 (EX f) a n w d := by
  intro i hi hd
  have R : Hid (Row w a n f) := r
  have HG : Hid (UpTo 39 (TX f) a n w d) := hG
  clear r hG
  go_enter Try.func24, Try.ntmps24
  go_wp2_with fail
  refine (HG.out i hi hd).mono ?_
  rintro e w1 ⟨v, j, ok, rfl, hj, hx, rfl⟩
  have HX : Hid (ok = true → TX f i j v) := hx
  clear hx
  go_wp2_with fail
  go_loopg [7, 8, 9] (if ok = true then n - j + 1 else 0) (fun g x y z wr => w = wr ∧ ∃ (v : Bool) (j : Nat) (ok : Bool), x = .bool v ∧ y = .int .i64 (j : Int) ∧ z = .bool ok ∧ j ≤ n ∧ g = (if ok = true then n - j + 1 else 0) ∧ (ok = true → EX f i j v))
  case atStart => exact ⟨rfl, v, j, ok, rfl, rfl, rfl, hj, rfl, fun e => ex_one (HX.out e)⟩
  case round =>
    obtain ⟨rfl, v, j, ok, rfl, rfl, rfl, hj, rfl, hx⟩ := hrel
    clear HX
    cases ok
    · go_wp2
      go_ret3
      exact ⟨v, j, false, rfl, hj, (by intro c; cases c), rfl⟩
    · have HX : Hid (EX f i j v) := hx rfl
      clear hx
      have hij : i < j := HX.out.1
      by_cases hjn : j < n
      · have hj1 : (j : Int) < n := by omega
        obtain ⟨b, o, rfl, hc⟩ : ∃ b o, a = some ⟨b, o, none⟩ ∧ w.cell? ⟨b, o + j, none⟩ = some (.int .u8 (f j)) := by
          rcases R.out with h0 | ⟨b, o, h0, hc⟩
          · omega
          · exact ⟨b, o, h0, hc j hjn⟩
        by_cases ht : f j = 4
        · have ht' : (f j == 4) = true := by simp [ht]
          have HT : Hid (f j = 4) := ht
          clear ht
          go_wp2_with fail
          rw [show ((j : Int) + 1) = ((j + 1 : Nat) : Int) from by omega]
          refine (HG.out (j + 1) (by omega) (by omega)).mono ?_
          rintro e w1 ⟨u, j', ok', rfl, hj', hx', rfl⟩
          have HX' : Hid (ok' = true → TX f (j + 1) j' u) := hx'
          clear hx'
          cases v
          all_goals
            (go_wp2
             go_roundg (if ok' = true then n - j' + 1 else 0)
             case measure =>
               split
               · rename_i c
                 have := (HX'.out c).1
                 omega
               · omega
             case rel => exact ⟨rfl, _, j', ok', rfl, rfl, rfl, hj', rfl, fun c => ex_or HX.out HT.out (HX'.out c)⟩)
        · have ht' : (f j == 4) = false := by simp [ht]
          clear ht
          go_wp2
          go_ret3
          exact ⟨v, j, true, rfl, hj, fun _ => HX.out, rfl⟩
      · have hj1 : ¬ ((j : Int) < n) := by omega
        go_wp2
        go_ret3
        exact ⟨v, j, true, rfl, hj, fun _ => HX.out, rfl⟩

theorem parse_all {a : Option Addr} {n : Nat} {f : Nat → Int} {w : World} (r : Row w a n f) (hn : n ≤ 1048576) : ∀ d, UpTo 46 (FX f) a n w d ∧ UpTo 24 (EX f) a n w d
  | 0 => ⟨fun i _ h => absurd h (Nat.not_lt_zero _), fun i _ h => absurd h (Nat.not_lt_zero _)⟩
  | d + 1 => by
    obtain ⟨h1, h2⟩ := parse_all r hn d
    have h3 := factor_step r hn h1 h2
    exact ⟨h3, expr_step r hn (term_step r hn h3)⟩

/-- zzParseExpr. -/
theorem expr_any (a : Option Addr) (n i : Nat) (f : Nat → Int) (w : World) (r : Row w a n f) (hn : n ≤ 1048576) (hi : i ≤ n) : Calls Try.prog 24 #[.slice a n n, .int .i64 (i : Int)] w (PPost (EX f) n i w) :=
  (parse_all r hn (n + 1)).2 i hi (by omega)

end Go.Proofs.Qxb6003468a
