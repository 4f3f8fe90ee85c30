import Derived.Test.Qxb6603796aDigits
import Derived.Test.Qxb6603796aWhole
import Derived.Deep.CutBlock
namespace Go.Proofs.Qxb6603796a
open Go.RowKit

/-- What 'validNumber' leaves. -/
def VPost (f : Nat → Int) (n o rb : Nat) (w : World) (e : Ending) (w' : World) : Prop :=
  ∃ (ok : Bool) (off : Nat), e = .returned (.bool ok) ∧ w'.cell? ⟨rb, 1, none⟩ = some (.int .i64 (off : Int)) ∧ w.grownBy w' (some rb) ∧ ((ok = true ∧ vnum f n o = some off) ∨ (ok = false ∧ vnum f n o = none ∧ off = o))

theorem vpost_no {f : Nat → Int} {n o rb : Nat} {w : World} (q : Nat) (ho : w.cell? ⟨rb, 1, none⟩ = some (.int .i64 o)) (h : vnum f n o = none) : VPost f n o rb w (.returned (.bool false)) (w.drewN q) :=
  ⟨false, o, rfl, ho, grown_drewN _ _ _, .inr ⟨rfl, h, rfl⟩⟩

theorem vpost_yes {f : Nat → Int} {n o rb : Nat} {w : World} (q i : Nat) (ho : w.cell? ⟨rb, 1, none⟩ = some (.int .i64 o)) (h : vnum f n o = some i) : VPost f n o rb w (.returned (.bool true)) ((w.drewN q).setCell ⟨rb, 1, none⟩ (.int .i64 (i : Int))) :=
  ⟨true, i, rfl, World.cell?_setCell_same _ _ _ (u := .int .i64 o) ho, grown_set (grown_drewN _ _ _) _ (.inr rfl), .inl ⟨rfl, h⟩⟩

theorem row_drewN {w : World} {a : Option Addr} {n : Nat} {f : Nat → Int} (q : Nat) (h : Row w a n f) : Row (w.drewN q) a n f := h

def isPt (f : Nat → Int) (n i : Nat) : Bool := decide (i < n) && (f i == 46)
theorem isPt_iff (f : Nat → Int) (n i : Nat) : isPt f n i = true ↔ i < n ∧ f i = 46 := by simp [isPt]
theorem stg3_no {f : Nat → Int} {n i : Nat} (h : isPt f n i = false) : stg3 f n i = some i := by
  rw [stg3, if_neg]
  intro e
  rw [(isPt_iff f n i).2 e] at h
  cases h

def isEx (f : Nat → Int) (n i : Nat) : Bool := decide (i < n) && (f i == 101 || f i == 69)
theorem isEx_iff (f : Nat → Int) (n i : Nat) : isEx f n i = true ↔ i < n ∧ (f i = 101 ∨ f i = 69) := by simp [isEx]
theorem stg4_no {f : Nat → Int} {n i : Nat} (h : isEx f n i = false) : stg4 f n i = some i := by
  rw [stg4, if_neg]
  intro e
  rw [(isEx_iff f n i).2 e] at h
  cases h
def isSg (f : Nat → Int) (n i : Nat) : Bool := decide (i < n) && (f i == 43 || f i == 45)
theorem isSg_iff (f : Nat → Int) (n i : Nat) : isSg f n i = true ↔ i < n ∧ (f i = 43 ∨ f i = 45) := by simp [isSg]

set_option maxHeartbeats 4000000 in
set_option maxRecDepth 100000 in
theorem valid_any (rb : Nat) (a : Option Addr) (n c o : Nat) (f : Nat → Int) (w : World) (hd : w.cell? ⟨rb, 0, none⟩ = some (.slice a n c)) (ho : w.cell? ⟨rb, 1, none⟩ = some (.int .i64 o)) (hf : w.frozen? ⟨rb, 1, none⟩ = false)
    (h : Row w a n f) (hn : n ≤ 2097152) (hon : o < n) :
    Calls Try.prog 26 #[.pointer (some ⟨rb, 0, none⟩)] w (VPost f n o rb w) := by
  have HR : Hid (Row w a n f) := h
  rcases h with h0 | ⟨b, off, rfl, hc⟩
  · omega
  have HC : Hid (∀ i, i < n → w.cell? ⟨b, off + i, none⟩ = some (.int .u8 (f i))) := hc
  clear hc
  have hi0 : (o : Int) < n := by omega
  have g0 := HC.out o hon
  go_enter Try.func26, Try.ntmps26
  go_wp2
  go_quiet (fail)
  go_upto_if 18 with fail
  go_cut [4] (fun v w1 => w1 = w.drewN nq ∧ v = .int .i64 ((stg1 f o : Nat) : Int))
  case first =>
    by_cases h1 : f o = 45
    · have h1' : (f o == 45) = true := by simp [h1]
      have HS : Hid (stg1 f o = o + 1) := by simp [stg1, h1, Hid]
      clear h1
      go_wp2
      go_meet
      case rel => exact ⟨rfl, by rw [HS.out]; go_num⟩
    · have h1' : (f o == 45) = false := by simp [h1]
      have HS : Hid (stg1 f o = o) := by simp [stg1, h1, Hid]
      clear h1
      go_wp2
      go_meet
      case rel => exact ⟨rfl, by rw [HS.out]⟩
  case rest =>
    obtain ⟨rfl, rfl⟩ := hcut
    obtain ⟨i1, hi1⟩ : ∃ i1, i1 = stg1 f o := ⟨_, rfl⟩
    have H1 : Hid (i1 = stg1 f o) := hi1
    rw [← hi1]
    have hi1n : i1 ≤ n := by rw [hi1]; unfold stg1; split <;> omega
    clear hi1
    go_upto_block 0 with fail
    go_cut [4] (fun v w1 => w1 = w.drewN nq ∧ ∃ i2 : Nat, v = .int .i64 (i2 : Int) ∧ stg2 f n i1 = some i2 ∧ i2 ≤ n)
    case first =>
      by_cases h1 : i1 < n
      · have hi1' : (i1 : Int) < n := by omega
        have g1 := HC.out i1 h1
        by_cases h2 : f i1 = 48
        · have h2' : (f i1 == 48) = true := by simp [h2]
          have HS : Hid (stg2 f n i1 = some (i1 + 1)) := by simp [stg2, h1, h2, Hid]
          clear h2
          go_wp2
          go_meet
          case rel => exact ⟨rfl, i1 + 1, by go_num, HS.out, by omega⟩
        · have h2' : (f i1 == 48) = false := by simp [h2]
          by_cases h3 : 49 ≤ f i1 ∧ f i1 ≤ 57
          · have HS : Hid (stg2 f n i1 = some (dEnd f n i1)) := by simp [stg2, h1, h2, h3, Hid]
            obtain ⟨h4, h5⟩ := h3
            clear h2
            go_wp2_with (go_at_call 33; refine (digits_any _ n c i1 f _ (row_drewN nq HR.out) hn).mono ?_; rintro e w1 ⟨rfl, rfl⟩)
            go_meet
            case rel => exact ⟨rfl, dEnd f n i1, rfl, HS.out, dEnd_le hi1n⟩
          · have HS : Hid (vnum f n o = none) := by simp [vnum, ← H1.out, stg2, h1, h2, h3, Hid]
            have h4 : f i1 < 49 ∨ 57 < f i1 := by omega
            clear h2 h3
            rcases h4 with h4 | h4
            all_goals
              (go_wp2
               go_ret
               exact vpost_no nq ho HS.out)
      · have hi1' : ¬ ((i1 : Int) < n) := by omega
        have HS : Hid (vnum f n o = none) := by simp [vnum, ← H1.out, stg2, h1, Hid]
        go_wp2
        go_ret
        exact vpost_no nq ho HS.out
    case rest =>
      obtain ⟨rfl, i2, rfl, hs2, hi2⟩ := hcut
      have H2 : Hid (stg2 f n i1 = some i2) := hs2
      clear hs2
      go_upto_region 9 with fail
      go_cut [67] (fun v w1 => w1 = w.drewN nq ∧ v = .bool (isPt f n i2))
      case first =>
        by_cases h1 : i2 < n
        · have hi1' : (i2 : Int) < n := by omega
          have g1 := HC.out i2 h1
          go_wp2
          go_meet
          case rel => exact ⟨rfl, by simp [isPt, h1]⟩
        · have hi1' : ¬ ((i2 : Int) < n) := by omega
          go_wp2
          go_meet
          case rel => exact ⟨rfl, by simp [isPt, h1]⟩
      case rest =>
        obtain ⟨rfl, rfl⟩ := hcut
        go_upto_if 67 with fail
        go_cut [4] (fun v w1 => w1 = w.drewN nq ∧ ∃ i3 : Nat, v = .int .i64 (i3 : Int) ∧ stg3 f n i2 = some i3 ∧ i3 ≤ n)
        case first =>
          cases hpt : isPt f n i2
          · go_wp2
            go_meet
            case rel => exact ⟨rfl, i2, rfl, stg3_no hpt, hi2⟩
          · have hp := (isPt_iff f n i2).1 hpt
            have hi2n := hp.1
            have HP : Hid (i2 < n ∧ f i2 = 46) := hp
            clear hp
            have he1 := dEnd_ge f n (i2 + 1)
            have he2 : dEnd f n (i2 + 1) ≤ n := dEnd_le (by omega)
            obtain ⟨e1, hee⟩ : ∃ e1, dEnd f n (i2 + 1) = e1 + 1 := ⟨dEnd f n (i2 + 1) - 1, by omega⟩
            rw [hee] at he1 he2
            have HE : Hid (dEnd f n (i2 + 1) = e1 + 1) := hee
            clear hee
            have g1 := HC.out e1 (by omega)
            have hi1' : (e1 : Int) < n := by omega
            by_cases hl : f e1 = 46
            · have hl' : (f e1 == 46) = true := by simp [hl]
              have HS : Hid (vnum f n o = none) := by simp [vnum, ← H1.out, H2.out, stg3, HP.out, HE.out, hl, Hid]
              clear hl
              go_wp2_with (go_at_call 33; rw [show ((i2 : Int) + 1) = ((i2 + 1 : Nat) : Int) from by omega]; refine (digits_any _ n c (i2 + 1) f _ (row_drewN nq HR.out) hn).mono ?_; rintro e w1 ⟨rfl, rfl⟩; rw [HE.out])
              go_ret
              exact vpost_no nq ho HS.out
            · have hl' : (f e1 == 46) = false := by simp [hl]
              have HS : Hid (stg3 f n i2 = some (e1 + 1)) := by simp [stg3, HP.out, HE.out, hl, Hid]
              clear hl
              go_wp2_with (go_at_call 33; rw [show ((i2 : Int) + 1) = ((i2 + 1 : Nat) : Int) from by omega]; refine (digits_any _ n c (i2 + 1) f _ (row_drewN nq HR.out) hn).mono ?_; rintro e w1 ⟨rfl, rfl⟩; rw [HE.out])
              go_meet
              case rel => exact ⟨rfl, e1 + 1, by go_num, HS.out, he2⟩
        case rest =>
          obtain ⟨rfl, i3, rfl, hs3, hi3⟩ := hcut
          have H3 : Hid (stg3 f n i2 = some i3) := hs3
          clear hs3
          go_upto_region 13 with fail
          go_cut [95] (fun v w1 => w1 = w.drewN nq ∧ v = .bool (isEx f n i3))
          case first =>
            by_cases h1 : i3 < n
            · have hi1' : (i3 : Int) < n := by omega
              have g1 := HC.out i3 h1
              by_cases h2 : f i3 = 101
              · have h2' : (f i3 == 101) = true := by simp [h2]
                have HS : Hid (isEx f n i3 = true) := by simp [isEx, h1, h2, Hid]
                clear h2
                go_wp2
                go_meet
                case rel => exact ⟨rfl, by rw [HS.out]⟩
              · have h2' : (f i3 == 101) = false := by simp [h2]
                have HS : Hid (isEx f n i3 = (f i3 == 69)) := by simp [isEx, h1, h2, Hid]
                clear h2
                go_wp2
                go_meet
                case rel => exact ⟨rfl, by rw [HS.out]⟩
            · have hi1' : ¬ ((i3 : Int) < n) := by omega
              go_wp2
              go_meet
              case rel => exact ⟨rfl, by simp [isEx, h1]⟩
          case rest =>
            obtain ⟨rfl, rfl⟩ := hcut
            go_upto_if 95 with fail
            go_cut [4] (fun v w1 => w1 = w.drewN nq ∧ ∃ i4 : Nat, v = .int .i64 (i4 : Int) ∧ stg4 f n i3 = some i4 ∧ i4 ≤ n)
            case first =>
              cases hpt : isEx f n i3
              · go_wp2
                go_meet
                case rel => exact ⟨rfl, i3, rfl, stg4_no hpt, hi3⟩
              · have hp := (isEx_iff f n i3).1 hpt
                have hi3n := hp.1
                have HP : Hid (i3 < n ∧ (f i3 = 101 ∨ f i3 = 69)) := hp
                clear hp
                go_upto_region 15 with fail
                go_cut [115] (fun v w1 => w1 = w.drewN nq ∧ v = .bool (isSg f n (i3 + 1)))
                case first =>
                  by_cases h1 : i3 + 1 < n
                  · have hi1' : (i3 : Int) + 1 < n := by omega
                    have g1 := HC.out (i3 + 1) h1
                    by_cases h2 : f (i3 + 1) = 43
                    · have h2' : (f (i3 + 1) == 43) = true := by simp [h2]
                      have HS : Hid (isSg f n (i3 + 1) = true) := by simp [isSg, h1, h2, Hid]
                      clear h2
                      go_wp2
                      go_meet
                      case rel => exact ⟨rfl, by rw [HS.out]⟩
                    · have h2' : (f (i3 + 1) == 43) = false := by simp [h2]
                      have HS : Hid (isSg f n (i3 + 1) = (f (i3 + 1) == 45)) := by simp [isSg, h1, h2, Hid]
                      clear h2
                      go_wp2
                      go_meet
                      case rel => exact ⟨rfl, by rw [HS.out]⟩
                  · have hi1' : ¬ ((i3 : Int) + 1 < n) := by omega
                    go_wp2
                    go_meet
                    case rel => exact ⟨rfl, by simp [isSg, h1]⟩
                case rest =>
                  obtain ⟨rfl, rfl⟩ := hcut
                  go_upto_if 115 with fail
                  go_cut [4] (fun v w1 => w1 = w.drewN nq ∧ v = .int .i64 ((esg f n (i3 + 1) : Nat) : Int))
                  case first =>
                    cases hsg : isSg f n (i3 + 1)
                    · have HS : Hid (esg f n (i3 + 1) = i3 + 1) := by rw [Hid, esg, if_neg]; intro e; rw [(isSg_iff _ _ _).2 e] at hsg; cases hsg
                      go_wp2
                      go_meet
                      case rel => exact ⟨rfl, by rw [HS.out]; go_num⟩
                    · have HS : Hid (esg f n (i3 + 1) = i3 + 1 + 1) := by rw [Hid, esg, if_pos ((isSg_iff _ _ _).1 hsg)]
                      go_wp2
                      go_meet
                      case rel => exact ⟨rfl, by rw [HS.out]; go_num⟩
                  case rest =>
                    obtain ⟨rfl, rfl⟩ := hcut
                    obtain ⟨j, hj⟩ : ∃ j, j = esg f n (i3 + 1) := ⟨_, rfl⟩
                    have HJ : Hid (j = esg f n (i3 + 1)) := hj
                    rw [← hj]
                    have hjn : j ≤ n := by rw [hj]; unfold esg; split <;> omega
                    clear hj
                    by_cases hl : dEnd f n j = j
                    · have hl' : ((dEnd f n j : Int) == j) = true := by simp [hl]
                      have HS : Hid (vnum f n o = none) := by simp [vnum, ← H1.out, H2.out, H3.out, stg4, HP.out, ← HJ.out, hl, Hid]
                      clear hl
                      go_wp2_with (go_at_call 33; refine (digits_any _ n c j f _ (row_drewN nq HR.out) hn).mono ?_; rintro e w1 ⟨rfl, rfl⟩)
                      go_ret
                      exact vpost_no nq ho HS.out
                    · have hl' : ((dEnd f n j : Int) == j) = false := by simp; omega
                      have HS : Hid (stg4 f n i3 = some (dEnd f n j)) := by simp [stg4, HP.out, ← HJ.out, hl, Hid]
                      clear hl
                      go_wp2_with (go_at_call 33; refine (digits_any _ n c j f _ (row_drewN nq HR.out) hn).mono ?_; rintro e w1 ⟨rfl, rfl⟩)
                      go_meet
                      case rel => exact ⟨rfl, dEnd f n j, rfl, HS.out, dEnd_le hjn⟩
            case rest =>
              obtain ⟨rfl, i4, rfl, hs4, hi4⟩ := hcut
              have HS : Hid (vnum f n o = some i4) := by simp [vnum, ← H1.out, H2.out, H3.out, hs4, Hid]
              clear hs4
              go_wp2
              go_ret
              exact vpost_yes nq i4 ho HS.out
end Go.Proofs.Qxb6603796a
