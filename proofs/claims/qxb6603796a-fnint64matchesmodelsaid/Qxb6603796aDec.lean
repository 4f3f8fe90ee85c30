import Derived.Test.Qxb6603796aSmall
import Derived.Test.Qxb6603796aValPlain
import Derived.Deep.QuietTactic
import Derived.BigQuiet
namespace Go.Proofs.Qxb6603796a
open Go.RowKit

set_option maxHeartbeats 1000000 in
/-- 'decimalValue', of digits whose value a uint64 holds. -/
theorem dec_any (a : Option Addr) (n c : Nat) (f : Nat → Int) (w : World) (h : Row w a n f) (hn : n ≤ 2097152) (hd : ∀ i, i < n → isD (f i) = true) (hv : val f 0 n ≤ maxU) :
    Calls Try.prog 31 #[.slice a n c] w fun e w' => e = .returned (.int .u64 (val f 0 n)) ∧ w = w' := by
  have H : Hid (Row w a n f) := h
  have HD : Hid (∀ i, i < n → isD (f i) = true) := hd
  have HV : Hid (val f 0 n ≤ maxU) := hv
  clear h hd hv
  go_enter Try.func31, Try.ntmps31
  go_wp2
  go_loopg [3, 4] n (fun g x y wr => w = wr ∧ ∃ k : Nat, k ≤ n ∧ g = n - k ∧ x = .int .u64 (val f 0 k) ∧ y = .int .i64 (k : Int))
  case atStart => exact ⟨rfl, 0, Nat.zero_le _, rfl, rfl, rfl⟩
  case round =>
    obtain ⟨rfl, k, hk, rfl, rfl, rfl⟩ := hrel
    by_cases h1 : k < n
    · have hi : (k : Int) < n := by omega
      rcases H.out with h0 | ⟨b, o, rfl, hc⟩
      · omega
      have g1 := hc k h1
      clear hc
      obtain ⟨d1, d2⟩ := (isD_iff _).1 (HD.out k h1)
      obtain ⟨v, hv⟩ : ∃ v, v = val f 0 k := ⟨_, rfl⟩
      have hv0 : 0 ≤ v := by rw [hv]; exact val_nonneg f 0 k (fun i hi => by rw [Nat.zero_add]; exact HD.out i (by omega))
      have hstep : val f 0 (k + 1) = v * 10 + (f k - 48) := by rw [val, hv, Nat.zero_add]
      have hle : v * 10 + (f k - 48) ≤ 18446744073709551615 := by
        rw [← hstep]
        obtain ⟨d, hd⟩ : ∃ d, n = k + 1 + d := ⟨n - (k + 1), by omega⟩
        have e := val_mono (f := f) (s := 0) (k := k + 1) d (fun i hi => by rw [Nat.zero_add]; exact HD.out i (by omega))
        rw [← hd] at e
        have e2 := HV.out
        unfold maxU at e2
        omega
      have HS : Hid (val f 0 (k + 1) = v * 10 + (f k - 48)) := hstep
      rw [← hv]
      clear hv hstep
      go_wp2
      go_roundg (n - (k + 1))
      case measure => omega
      case rel => exact ⟨rfl, k + 1, by omega, rfl, by rw [HS.out], by go_num⟩
    · obtain rfl : k = n := by omega
      go_wp2
      go_ret
      exact ⟨rfl, rfl⟩

set_option maxHeartbeats 1000000 in
/-- 'greaterDigits', of two digit texts of one length. -/
theorem gtr_any (a : Option Addr) (L c : Nat) (f : Nat → Int) (s : ByteArray) (T : Nat → Int) (w : World) (h : Row w a L f) (hn : L ≤ 2097152) (hs : s.size = L) (hT : ∀ i (hi : i < s.size), ((s[i]'hi).toNat : Int) = T i)
    (hd : ∀ i, i < L → isD (f i) = true) (hdT : ∀ i, i < L → isD (T i) = true) :
    Calls Try.prog 30 #[.slice a L c, .string s] w fun e w' => e = .returned (.bool (decide (val T 0 L < val f 0 L))) ∧ ∃ q, w' = w.drewN q := by
  have H : Hid (Row w a L f) := h
  have HT : Hid (∀ i (hi : i < s.size), ((s[i]'hi).toNat : Int) = T i) := hT
  have HD : Hid (∀ i, i < L → isD (f i) = true) := hd
  have HDT : Hid (∀ i, i < L → isD (T i) = true) := hdT
  subst hs
  clear h hd hdT hT
  go_enter Try.func30, Try.ntmps30
  go_wp2
  go_loopg [5] s.size (fun g x wr => (∃ q, wr = w.drewN q) ∧ ∃ k : Nat, k ≤ s.size ∧ g = s.size - k ∧ x = .int .i64 (k : Int) ∧ ∀ i, i < k → f i = T i)
  case atStart => exact ⟨⟨0, rfl⟩, 0, Nat.zero_le _, rfl, rfl, fun i hi => absurd hi (by omega)⟩
  case round =>
    obtain ⟨⟨q, rfl⟩, k, hk, rfl, rfl, heq⟩ := hrel
    have HQ : Hid (∀ i, i < k → f i = T i) := heq
    clear heq
    by_cases h1 : k < s.size
    · have hi : (k : Int) < s.size := by omega
      rcases H.out with h0 | ⟨b, o, rfl, hc⟩
      · omega
      have g1 := hc k h1
      clear hc
      have g2 := HT.out k h1
      by_cases h2 : f k = T k
      · have h2' : (f k != T k) = false := by simp [h2]
        have HQ2 : Hid (∀ i, i < k + 1 → f i = T i) := fun i hi => by
          by_cases e : i = k
          · rw [e]; exact h2
          · exact HQ.out i (by omega)
        clear h2
        go_wp2
        go_quiet (fail)
        go_wp2
        go_roundg (s.size - (k + 1))
        case measure => omega
        case rel => exact ⟨⟨_, rfl⟩, k + 1, by omega, rfl, by go_num, HQ2.out⟩
      · have h2' : (f k != T k) = true := by simp [h2]
        have HS : Hid (decide (val T 0 s.size < val f 0 s.size) = decide (T k < f k)) := by
          by_cases e : T k < f k
          · have := val_part (f := T) (g := f) (s := 0) h1 (fun i hi => by rw [Nat.zero_add]; exact HDT.out i hi) (fun i hi => by rw [Nat.zero_add]; exact HD.out i hi) (fun i hi => by rw [Nat.zero_add]; exact (HQ.out i hi).symm) (by rw [Nat.zero_add]; exact e)
            simp [this, e, Hid]
          · have := val_part (f := f) (g := T) (s := 0) h1 (fun i hi => by rw [Nat.zero_add]; exact HD.out i hi) (fun i hi => by rw [Nat.zero_add]; exact HDT.out i hi) (fun i hi => by rw [Nat.zero_add]; exact HQ.out i hi) (by rw [Nat.zero_add]; omega)
            have e2 : ¬ val T 0 s.size < val f 0 s.size := by omega
            simp [e2, e, Hid]
        clear h2
        go_wp2
        go_quiet (fail)
        go_wp2
        go_quiet (fail)
        go_wp2
        go_ret
        exact ⟨by rw [HS.out]; rfl, _, by rw [World.drewN_drewN, World.drewN_drewN]⟩
    · obtain rfl : k = s.size := by omega
      have HS : Hid (decide (val T 0 s.size < val f 0 s.size) = false) := by
        have e := val_congr (f := f) (g := T) (s := 0) s.size (fun i hi => by rw [Nat.zero_add]; exact HQ.out i hi)
        rw [e]
        simp [Hid]
      go_wp2
      go_ret
      exact ⟨by rw [HS.out]; rfl, _, rfl⟩

end Go.Proofs.Qxb6603796a
