import Derived.Test.Qxb6603796aZZValid
import Derived.Test.Qxb6603796aSmall
import Derived.Test.Qxb6603796aAgrPlain
import Derived.Test.Qxb6603796aClone
namespace Go.Proofs.Qxb6603796a
open Go.RowKit

/-- Neither a point nor an exponent's letter among the d places from o on. -/
def plainB (f : Nat → Int) (o : Nat) : Nat → Bool
  | 0 => true
  | d + 1 => plainB f o d && !isFE (f (o + d))

theorem plainB_all {f : Nat → Int} {o : Nat} : ∀ d, plainB f o d = true → ∀ i, o ≤ i → i < o + d → isFE (f i) = false
  | 0, _, i, h1, h2 => by omega
  | d + 1, h, i, h1, h2 => by
    simp only [plainB, Bool.and_eq_true, Bool.not_eq_true'] at h
    by_cases e : i = o + d
    · rw [e]; exact h.2
    · exact plainB_all d h.1 i h1 (by omega)

theorem vnum_le {f : Nat → Int} {n o e : Nat} (ho : o < n) (h : vnum f n o = some e) : o ≤ e ∧ e ≤ n := by
  have h1 : o ≤ stg1 f o ∧ stg1 f o ≤ n := by unfold stg1; split <;> omega
  obtain ⟨s, hs⟩ : ∃ s, s = stg1 f o := ⟨_, rfl⟩
  rw [vnum, ← hs] at h
  rw [← hs] at h1
  obtain ⟨i2, h2, hv2⟩ : ∃ i2, stg2 f n s = some i2 ∧ ((stg3 f n i2).bind fun i => stg4 f n i) = some e := by
    cases c : stg2 f n s with
    | none => rw [c] at h; simp at h
    | some i2 => rw [c] at h; exact ⟨i2, rfl, by simpa using h⟩
  obtain ⟨i3, h3, h4⟩ : ∃ i3, stg3 f n i2 = some i3 ∧ stg4 f n i3 = some e := by
    cases c : stg3 f n i2 with
    | none => rw [c] at hv2; simp at hv2
    | some i3 => rw [c] at hv2; exact ⟨i3, rfl, by simpa using hv2⟩
  have b2 : s ≤ i2 ∧ i2 ≤ n := by
    unfold stg2 at h2
    split at h2
    · obtain rfl := Option.some.inj h2
      omega
    · split at h2
      · obtain rfl := Option.some.inj h2
        exact ⟨dEnd_ge _ _ _, dEnd_le (by omega)⟩
      · cases h2
  have b3 : i2 ≤ i3 ∧ i3 ≤ n := by
    unfold stg3 at h3
    split at h3
    · split at h3
      · cases h3
      · obtain rfl := Option.some.inj h3
        have := dEnd_ge f n (i2 + 1)
        exact ⟨by omega, dEnd_le (by omega)⟩
    · obtain rfl := Option.some.inj h3
      omega
  have b4 : i3 ≤ e ∧ e ≤ n := by
    unfold stg4 at h4
    split at h4
    · split at h4
      · cases h4
      · obtain rfl := Option.some.inj h4
        have := dEnd_ge f n (esg f n (i3 + 1))
        have e2 : i3 + 1 ≤ esg f n (i3 + 1) ∧ esg f n (i3 + 1) ≤ n := by unfold esg; split <;> omega
        exact ⟨by omega, dEnd_le e2.2⟩
    · obtain rfl := Option.some.inj h4
      omega
  omega

set_option maxHeartbeats 4000000 in
set_option maxRecDepth 100000 in
/-- THE WALK of FnValidNumberAgreesWithWhole, inside the data. -/
theorem agr_main (a : Option Addr) (n c o : Nat) (d u : Int) (f : Nat → Int) (w : World) (r : Row w a n f) (y : Byt f) (ha : a = none → n = 0) (hn : n ≤ 1048576) (ho : o < n) :
    Calls Try.prog 4 #[.slice a n c, .int .i64 (o : Int), .int .i64 d, .int .i64 u] w fun e w' => e = .returned (.bool true) ∧ Below w.heap.size w w' := by
  have R : Hid (Row w a n f) := r
  have HA : Hid (a = none → n = 0) := ha
  clear r ha
  have ho' : (o : Int) < n := by omega
  go_enter Try.func4, Try.ntmps4
  go_wp2_with (first | (go_at_call 13; go_in) | (go_at_call 10; refine (clone_any a n c f _ R.out hn HA.out).mono ?_; rintro e w1 ⟨x1, rfl, ro1, _, be1⟩))
  refine (zzwhole_any x1 n n o d u f w1 ro1 y (by omega) (by omega)).mono ?_
  rintro e w2 ⟨neg, mag, wok, woff, rfl, hres, be2⟩
  have HR2 : Hid (Row w2 x1 n f) := ro1.keep be2
  have HB2 : Hid (Below w.heap.size w w2) := be1.trans (be2.mono be1.size)
  have HW : Hid (WholeRes f n o neg mag wok woff) := hres
  clear ro1 be1 be2 hres
  go_wp2_with fail
  refine (zzvalid_any x1 n n o d u f w2 HR2.out (by omega) ho).mono ?_
  rintro e w3 ⟨vok, voff, rfl, hv, be3⟩
  have HR : Hid (Row w3 x1 n f) := HR2.out.keep be3
  have HB : Hid (Below w.heap.size w w3) := HB2.out.trans (be3.mono HB2.out.size)
  have HV : Hid ((vok = true ∧ vnum f n o = some voff) ∨ (vok = false ∧ vnum f n o = none ∧ voff = o)) := hv
  clear HR2 HB2 be3 hv
  cases vok
  · have hwok : wok = false := by
      cases e : wok
      · rfl
      · exfalso
        have h1 := HW.out
        rw [e] at h1
        have h2 := agr_one ho h1
        rcases HV.out with ⟨h3, _⟩ | ⟨_, h3, _⟩
        · cases h3
        · rw [h2] at h3; cases h3
    subst hwok
    go_wp2
    go_ret
    exact ⟨rfl, HB.out⟩
  · have hvn : vnum f n o = some voff := by
      rcases HV.out with ⟨_, h3⟩ | ⟨h3, _⟩
      · exact h3
      · cases h3
    have HVN : Hid (vnum f n o = some voff) := hvn
    obtain ⟨hl1, hl2⟩ := vnum_le ho hvn
    have hww : wok = true → woff = voff := fun e => by
      have h1 := HW.out
      rw [e] at h1
      have h2 := agr_one ho h1
      rw [hvn] at h2
      exact (Option.some.inj h2).symm
    clear hvn HV
    cases wok
    · clear hww
      go_wp2
      go_loopg [15, 16, 17] (voff - o) (fun g p ct k wr => w3 = wr ∧ ∃ t : Nat, o + t ≤ voff ∧ g = voff - (o + t) ∧ p = .bool (plainB f o t) ∧ ct = .int .i64 ((cnt f o t : Nat) : Int) ∧ k = .int .i64 ((o + t : Nat) : Int))
      case atStart => exact ⟨rfl, 0, by omega, rfl, rfl, rfl, rfl⟩
      case round =>
        obtain ⟨rfl, t, ht, rfl, rfl, rfl, rfl⟩ := hrel
        obtain ⟨k, hk⟩ : ∃ k, k = o + t := ⟨_, rfl⟩
        have HK : Hid (k = o + t) := hk
        have hct := cnt_le f o t
        have hkv : k ≤ voff := by omega
        obtain ⟨C, hC⟩ : ∃ C, C = cnt f o t := ⟨_, rfl⟩
        have HCt : Hid (C = cnt f o t) := hC
        obtain ⟨P, hP⟩ : ∃ P, P = plainB f o t := ⟨_, rfl⟩
        have HPt : Hid (P = plainB f o t) := hP
        have hCb : C ≤ 1048576 := by omega
        rw [← hk, ← hC, ← hP]
        clear hk hC hP hct
        by_cases hlt : k < voff
        · have hi : (k : Int) < voff := by omega
          have hi2 : (k : Int) < n := by omega
          rcases HR.out with h0 | ⟨b, off, rfl, hc⟩
          · omega
          have g1 := hc k (by omega)
          clear hc
          cases hfe : isFE (f k)
          · have HP1 : Hid (P = plainB f o (t + 1)) := by rw [Hid, plainB, ← HK.out, hfe, HPt.out]; simp
            cases hd : isD (f k)
            · have HC1 : Hid (C = cnt f o (t + 1)) := by rw [Hid, cnt, ← HK.out, hd, HCt.out]; simp
              go_wp2_with (first | (go_at_call 15; refine (isFE_any _ _).mono ?_; rintro e w4 ⟨rfl, rfl⟩) | (go_at_call 16; refine (isD_any _ _).mono ?_; rintro e w4 ⟨rfl, rfl⟩))
              go_roundg (voff - (o + (t + 1)))
              case measure => have := HK.out; omega
              case rel => exact ⟨rfl, t + 1, by have := HK.out; omega, rfl, by rw [← HP1.out], by rw [← HC1.out], by rw [HK.out]; go_num⟩
            · have HC1 : Hid (C + 1 = cnt f o (t + 1)) := by rw [Hid, cnt, ← HK.out, hd, HCt.out]; simp
              go_wp2_with (first | (go_at_call 15; refine (isFE_any _ _).mono ?_; rintro e w4 ⟨rfl, rfl⟩) | (go_at_call 16; refine (isD_any _ _).mono ?_; rintro e w4 ⟨rfl, rfl⟩))
              go_roundg (voff - (o + (t + 1)))
              case measure => have := HK.out; omega
              case rel => exact ⟨rfl, t + 1, by have := HK.out; omega, rfl, by rw [← HP1.out], by rw [← HC1.out]; go_num, by rw [HK.out]; go_num⟩
          · have HP1 : Hid (false = plainB f o (t + 1)) := by rw [Hid, plainB, ← HK.out, hfe]; simp
            cases hd : isD (f k)
            · have HC1 : Hid (C = cnt f o (t + 1)) := by rw [Hid, cnt, ← HK.out, hd, HCt.out]; simp
              go_wp2_with (first | (go_at_call 15; refine (isFE_any _ _).mono ?_; rintro e w4 ⟨rfl, rfl⟩) | (go_at_call 16; refine (isD_any _ _).mono ?_; rintro e w4 ⟨rfl, rfl⟩))
              go_roundg (voff - (o + (t + 1)))
              case measure => have := HK.out; omega
              case rel => exact ⟨rfl, t + 1, by have := HK.out; omega, rfl, by rw [← HP1.out], by rw [← HC1.out], by rw [HK.out]; go_num⟩
            · have HC1 : Hid (C + 1 = cnt f o (t + 1)) := by rw [Hid, cnt, ← HK.out, hd, HCt.out]; simp
              go_wp2_with (first | (go_at_call 15; refine (isFE_any _ _).mono ?_; rintro e w4 ⟨rfl, rfl⟩) | (go_at_call 16; refine (isD_any _ _).mono ?_; rintro e w4 ⟨rfl, rfl⟩))
              go_roundg (voff - (o + (t + 1)))
              case measure => have := HK.out; omega
              case rel => exact ⟨rfl, t + 1, by have := HK.out; omega, rfl, by rw [← HP1.out], by rw [← HC1.out]; go_num, by rw [HK.out]; go_num⟩
        · have hkv2 : k = voff := by omega
          have HT : Hid (t = voff - o) := by have := HK.out; show t = voff - o; omega
          subst hkv2
          by_cases hvn : k = n
          · subst hvn
            have heq : ((k : Int) == k) = true := by simp
            cases P
            · go_wp2_with (first | (go_at_call 15; refine (isFE_any _ _).mono ?_; rintro e w4 ⟨rfl, rfl⟩) | (go_at_call 16; refine (isD_any _ _).mono ?_; rintro e w4 ⟨rfl, rfl⟩))
              go_ret
              exact ⟨rfl, HB.out⟩
            · by_cases h19 : C ≤ 19
              · have HP : Hid (∀ i, o ≤ i → i < k → isFE (f i) = false) := fun i h1 h2 => plainB_all t HPt.out.symm i h1 (by have := HK.out; omega)
                have HC : Hid (cnt f o (k - o) ≤ 19) := by show cnt f o (k - o) ≤ 19; rw [← HT.out, ← HCt.out]; exact h19
                have HX : Hid (k = k ∨ isD (f k) = false) := .inl rfl
                exfalso
                exact absurd (agr_two ho HVN.out HP.out HC.out HX.out HW.out).1 (by decide)
              · have hi19 : ¬ ((C : Int) ≤ 19) := by omega
                go_wp2_with (first | (go_at_call 15; refine (isFE_any _ _).mono ?_; rintro e w4 ⟨rfl, rfl⟩) | (go_at_call 16; refine (isD_any _ _).mono ?_; rintro e w4 ⟨rfl, rfl⟩))
                go_ret
                exact ⟨rfl, HB.out⟩
          · have hnv : ((k : Int) == n) = false := by simp; omega
            have hi2 : (k : Int) < n := by omega
            rcases HR.out with h0 | ⟨b, off, rfl, hc⟩
            · omega
            have g1 := hc k (by omega)
            clear hc
            cases P
            · cases hd : isD (f k)
              all_goals
                (go_wp2_with (first | (go_at_call 15; refine (isFE_any _ _).mono ?_; rintro e w4 ⟨rfl, rfl⟩) | (go_at_call 16; refine (isD_any _ _).mono ?_; rintro e w4 ⟨rfl, rfl⟩))
                 go_ret
                 exact ⟨rfl, HB.out⟩)
            · by_cases h19 : C ≤ 19
              · cases hd : isD (f k)
                · have HP : Hid (∀ i, o ≤ i → i < k → isFE (f i) = false) := fun i h1 h2 => plainB_all t HPt.out.symm i h1 (by have := HK.out; omega)
                  have HC : Hid (cnt f o (k - o) ≤ 19) := by show cnt f o (k - o) ≤ 19; rw [← HT.out, ← HCt.out]; exact h19
                  have HX : Hid (k = n ∨ isD (f k) = false) := .inr hd
                  exfalso
                  exact absurd (agr_two ho HVN.out HP.out HC.out HX.out HW.out).1 (by decide)
                · go_wp2_with (first | (go_at_call 15; refine (isFE_any _ _).mono ?_; rintro e w4 ⟨rfl, rfl⟩) | (go_at_call 16; refine (isD_any _ _).mono ?_; rintro e w4 ⟨rfl, rfl⟩))
                  go_ret
                  exact ⟨rfl, HB.out⟩
              · have hi19 : ¬ ((C : Int) ≤ 19) := by omega
                cases hd : isD (f k)
                all_goals
                  (go_wp2_with (first | (go_at_call 15; refine (isFE_any _ _).mono ?_; rintro e w4 ⟨rfl, rfl⟩) | (go_at_call 16; refine (isD_any _ _).mono ?_; rintro e w4 ⟨rfl, rfl⟩))
                   go_ret
                   exact ⟨rfl, HB.out⟩)
    · obtain rfl := hww rfl
      clear hww
      go_wp2
      go_loopg [15, 16, 17] (woff - o) (fun g p ct k wr => w3 = wr ∧ ∃ t : Nat, o + t ≤ woff ∧ g = woff - (o + t) ∧ p = .bool (plainB f o t) ∧ ct = .int .i64 ((cnt f o t : Nat) : Int) ∧ k = .int .i64 ((o + t : Nat) : Int))
      case atStart => exact ⟨rfl, 0, by omega, rfl, rfl, rfl, rfl⟩
      case round =>
        obtain ⟨rfl, t, ht, rfl, rfl, rfl, rfl⟩ := hrel
        obtain ⟨k, hk⟩ : ∃ k, k = o + t := ⟨_, rfl⟩
        have HK : Hid (k = o + t) := hk
        have hct := cnt_le f o t
        have hkv : k ≤ woff := by omega
        obtain ⟨C, hC⟩ : ∃ C, C = cnt f o t := ⟨_, rfl⟩
        have HCt : Hid (C = cnt f o t) := hC
        obtain ⟨P, hP⟩ : ∃ P, P = plainB f o t := ⟨_, rfl⟩
        have HPt : Hid (P = plainB f o t) := hP
        have hCb : C ≤ 1048576 := by omega
        rw [← hk, ← hC, ← hP]
        clear hk hC hP hct
        by_cases hlt : k < woff
        · have hi : (k : Int) < woff := by omega
          have hi2 : (k : Int) < n := by omega
          rcases HR.out with h0 | ⟨b, off, rfl, hc⟩
          · omega
          have g1 := hc k (by omega)
          clear hc
          cases hfe : isFE (f k)
          · have HP1 : Hid (P = plainB f o (t + 1)) := by rw [Hid, plainB, ← HK.out, hfe, HPt.out]; simp
            cases hd : isD (f k)
            · have HC1 : Hid (C = cnt f o (t + 1)) := by rw [Hid, cnt, ← HK.out, hd, HCt.out]; simp
              go_wp2_with (first | (go_at_call 15; refine (isFE_any _ _).mono ?_; rintro e w4 ⟨rfl, rfl⟩) | (go_at_call 16; refine (isD_any _ _).mono ?_; rintro e w4 ⟨rfl, rfl⟩))
              go_roundg (woff - (o + (t + 1)))
              case measure => have := HK.out; omega
              case rel => exact ⟨rfl, t + 1, by have := HK.out; omega, rfl, by rw [← HP1.out], by rw [← HC1.out], by rw [HK.out]; go_num⟩
            · have HC1 : Hid (C + 1 = cnt f o (t + 1)) := by rw [Hid, cnt, ← HK.out, hd, HCt.out]; simp
              go_wp2_with (first | (go_at_call 15; refine (isFE_any _ _).mono ?_; rintro e w4 ⟨rfl, rfl⟩) | (go_at_call 16; refine (isD_any _ _).mono ?_; rintro e w4 ⟨rfl, rfl⟩))
              go_roundg (woff - (o + (t + 1)))
              case measure => have := HK.out; omega
              case rel => exact ⟨rfl, t + 1, by have := HK.out; omega, rfl, by rw [← HP1.out], by rw [← HC1.out]; go_num, by rw [HK.out]; go_num⟩
          · have HP1 : Hid (false = plainB f o (t + 1)) := by rw [Hid, plainB, ← HK.out, hfe]; simp
            cases hd : isD (f k)
            · have HC1 : Hid (C = cnt f o (t + 1)) := by rw [Hid, cnt, ← HK.out, hd, HCt.out]; simp
              go_wp2_with (first | (go_at_call 15; refine (isFE_any _ _).mono ?_; rintro e w4 ⟨rfl, rfl⟩) | (go_at_call 16; refine (isD_any _ _).mono ?_; rintro e w4 ⟨rfl, rfl⟩))
              go_roundg (woff - (o + (t + 1)))
              case measure => have := HK.out; omega
              case rel => exact ⟨rfl, t + 1, by have := HK.out; omega, rfl, by rw [← HP1.out], by rw [← HC1.out], by rw [HK.out]; go_num⟩
            · have HC1 : Hid (C + 1 = cnt f o (t + 1)) := by rw [Hid, cnt, ← HK.out, hd, HCt.out]; simp
              go_wp2_with (first | (go_at_call 15; refine (isFE_any _ _).mono ?_; rintro e w4 ⟨rfl, rfl⟩) | (go_at_call 16; refine (isD_any _ _).mono ?_; rintro e w4 ⟨rfl, rfl⟩))
              go_roundg (woff - (o + (t + 1)))
              case measure => have := HK.out; omega
              case rel => exact ⟨rfl, t + 1, by have := HK.out; omega, rfl, by rw [← HP1.out], by rw [← HC1.out]; go_num, by rw [HK.out]; go_num⟩
        · have hkv2 : k = woff := by omega
          have HT : Hid (t = woff - o) := by have := HK.out; show t = woff - o; omega
          subst hkv2
          by_cases hvn : k = n
          · subst hvn
            have heq : ((k : Int) == k) = true := by simp
            cases P
            · go_wp2_with (first | (go_at_call 15; refine (isFE_any _ _).mono ?_; rintro e w4 ⟨rfl, rfl⟩) | (go_at_call 16; refine (isD_any _ _).mono ?_; rintro e w4 ⟨rfl, rfl⟩))
              go_ret
              exact ⟨rfl, HB.out⟩
            · by_cases h19 : C ≤ 19
              · have HP : Hid (∀ i, o ≤ i → i < k → isFE (f i) = false) := fun i h1 h2 => plainB_all t HPt.out.symm i h1 (by have := HK.out; omega)
                have HC : Hid (cnt f o (k - o) ≤ 19) := by show cnt f o (k - o) ≤ 19; rw [← HT.out, ← HCt.out]; exact h19
                have HX : Hid (k = k ∨ isD (f k) = false) := .inl rfl
                clear HP HC HX
                go_wp2_with (first | (go_at_call 15; refine (isFE_any _ _).mono ?_; rintro e w4 ⟨rfl, rfl⟩) | (go_at_call 16; refine (isD_any _ _).mono ?_; rintro e w4 ⟨rfl, rfl⟩))
                go_ret
                exact ⟨rfl, HB.out⟩
              · have hi19 : ¬ ((C : Int) ≤ 19) := by omega
                go_wp2_with (first | (go_at_call 15; refine (isFE_any _ _).mono ?_; rintro e w4 ⟨rfl, rfl⟩) | (go_at_call 16; refine (isD_any _ _).mono ?_; rintro e w4 ⟨rfl, rfl⟩))
                go_ret
                exact ⟨rfl, HB.out⟩
          · have hnv : ((k : Int) == n) = false := by simp; omega
            have hi2 : (k : Int) < n := by omega
            rcases HR.out with h0 | ⟨b, off, rfl, hc⟩
            · omega
            have g1 := hc k (by omega)
            clear hc
            cases P
            · cases hd : isD (f k)
              all_goals
                (go_wp2_with (first | (go_at_call 15; refine (isFE_any _ _).mono ?_; rintro e w4 ⟨rfl, rfl⟩) | (go_at_call 16; refine (isD_any _ _).mono ?_; rintro e w4 ⟨rfl, rfl⟩))
                 go_ret
                 exact ⟨rfl, HB.out⟩)
            · by_cases h19 : C ≤ 19
              · cases hd : isD (f k)
                · have HP : Hid (∀ i, o ≤ i → i < k → isFE (f i) = false) := fun i h1 h2 => plainB_all t HPt.out.symm i h1 (by have := HK.out; omega)
                  have HC : Hid (cnt f o (k - o) ≤ 19) := by show cnt f o (k - o) ≤ 19; rw [← HT.out, ← HCt.out]; exact h19
                  have HX : Hid (k = n ∨ isD (f k) = false) := .inr hd
                  clear HP HC HX
                  go_wp2_with (first | (go_at_call 15; refine (isFE_any _ _).mono ?_; rintro e w4 ⟨rfl, rfl⟩) | (go_at_call 16; refine (isD_any _ _).mono ?_; rintro e w4 ⟨rfl, rfl⟩))
                  go_ret
                  exact ⟨rfl, HB.out⟩
                · go_wp2_with (first | (go_at_call 15; refine (isFE_any _ _).mono ?_; rintro e w4 ⟨rfl, rfl⟩) | (go_at_call 16; refine (isD_any _ _).mono ?_; rintro e w4 ⟨rfl, rfl⟩))
                  go_ret
                  exact ⟨rfl, HB.out⟩
              · have hi19 : ¬ ((C : Int) ≤ 19) := by omega
                cases hd : isD (f k)
                all_goals
                  (go_wp2_with (first | (go_at_call 15; refine (isFE_any _ _).mono ?_; rintro e w4 ⟨rfl, rfl⟩) | (go_at_call 16; refine (isD_any _ _).mono ?_; rintro e w4 ⟨rfl, rfl⟩))
                   go_ret
                   exact ⟨rfl, HB.out⟩)

set_option maxHeartbeats 1000000 in
/-- The ways on which the law's own tests answer. -/
theorem agr_out (a : Option Addr) (n c : Nat) (o d u : Int) (w : World) (hm : (n : Int) ≤ 9223372036854775807) (h : 1048576 < n ∨ o < 0 ∨ (n : Int) ≤ o) :
    Calls Try.prog 4 #[.slice a n c, .int .i64 o, .int .i64 d, .int .i64 u] w fun e w' => e = .returned (.bool true) ∧ Below w.heap.size w w' := by
  by_cases h1 : 1048576 < n
  · clear h
    go_enter Try.func4, Try.ntmps4
    go_wp2
    go_ret
    exact ⟨rfl, Below.refl _ _⟩
  · by_cases h2 : o < 0
    · clear h
      go_enter Try.func4, Try.ntmps4
      go_wp2
      go_ret
      exact ⟨rfl, Below.refl _ _⟩
    · have h3 : (n : Int) ≤ o := by omega
      clear h
      go_enter Try.func4, Try.ntmps4
      go_wp2
      go_ret
      exact ⟨rfl, Below.refl _ _⟩

end Go.Proofs.Qxb6603796a
