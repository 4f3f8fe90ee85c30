import Derived.Test.Qxb6603796aBase
import Derived.Test.Qxb6603796aDigPlain
namespace Go.Proofs.Qxb6603796a
open Go.RowKit

set_option maxHeartbeats 1000000 in
/-- 'digits'. -/
theorem digits_any (a : Option Addr) (n c i : Nat) (f : Nat → Int) (w : World) (h : Row w a n f) (hn : n ≤ 2097152) :
    Calls Try.prog 33 #[.slice a n c, .int .i64 (i : Int)] w fun e w' => e = .returned (.int .i64 (dEnd f n i : Nat)) ∧ w = w' := by
  have H : Hid (Row w a n f) := h
  clear h
  go_enter Try.func33, Try.ntmps33
  go_wp2
  go_loopg [1] (n - i) (fun g x wr => w = wr ∧ ∃ k : Nat, g = n - k ∧ x = .int .i64 (k : Int) ∧ dEnd f n k = dEnd f n i)
  case atStart => exact ⟨rfl, i, rfl, rfl, rfl⟩
  case round =>
    obtain ⟨rfl, k, rfl, rfl, hk⟩ := hrel
    have HK : Hid (dEnd f n k = dEnd f n i) := hk
    clear hk
    by_cases h1 : k < n
    · have hi : (k : Int) < n := by omega
      rcases H.out with h0 | ⟨b, o, rfl, hc⟩
      · omega
      have g1 := hc k h1
      clear hc
      by_cases hd : isD (f k) = true
      · obtain ⟨h2, h3⟩ := (isD_iff _).1 hd
        have HD : Hid (isD (f k) = true) := hd
        clear hd
        go_wp2
        go_roundg (n - (k + 1))
        case measure => omega
        case rel => exact ⟨rfl, k + 1, rfl, by go_num, by rw [dEnd_step h1 HD.out]; exact HK.out⟩
      · have hs : dEnd f n k = k := dEnd_stay (fun h => hd h.2)
        have HS : Hid (k = dEnd f n i) := by rw [← HK.out, hs]; exact rfl
        have hnd : f k < 48 ∨ 57 < f k := by rw [isD_iff] at hd; omega
        clear hs hd HK
        rcases hnd with hnd | hnd
        all_goals
          (go_wp2
           go_ret
           exact ⟨by rw [← HS.out]; rfl, rfl⟩)
    · have hi : ¬ ((k : Int) < n) := by omega
      have hs : dEnd f n k = k := dEnd_stay (fun h => h1 h.1)
      have HS : Hid (k = dEnd f n i) := by rw [← HK.out, hs]; exact rfl
      clear hs HK
      go_wp2
      go_ret
      exact ⟨by rw [← HS.out]; rfl, rfl⟩

end Go.Proofs.Qxb6603796a
