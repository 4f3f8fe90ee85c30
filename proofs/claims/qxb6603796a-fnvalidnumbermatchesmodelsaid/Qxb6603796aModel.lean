import Derived.Test.Qxb6603796aSmall
import Derived.Test.Qxb6603796aDigPlain
import Derived.Deep.Light
namespace Go.Proofs.Qxb6603796a
open Go.RowKit

theorem ret_int {k : IntKind} {a b : Int} (h : a = b) : Ending.returned (.int k a) = .returned (.int k b) := by rw [h]

theorem acc_any (s : Int) (w : World) : Calls Try.prog 28 #[.int .i64 s] w fun e w' => e = .returned (.bool (acc s)) ∧ w = w' := by
  by_cases h1 : s = 2
  · subst h1
    rw [show acc 2 = true by decide]
    go_enter Try.func28, Try.ntmps28
    go_wp2
    go_ret
    exact ⟨rfl, rfl⟩
  by_cases h2 : s = 3
  · subst h2
    rw [show acc 3 = true by decide]
    go_enter Try.func28, Try.ntmps28
    go_wp2
    go_ret
    exact ⟨rfl, rfl⟩
  by_cases h3 : s = 5
  · subst h3
    rw [show acc 5 = true by decide]
    go_enter Try.func28, Try.ntmps28
    go_wp2
    go_ret
    exact ⟨rfl, rfl⟩
  by_cases h4 : s = 8
  · subst h4
    rw [show acc 8 = true by decide]
    go_enter Try.func28, Try.ntmps28
    go_wp2
    go_ret
    exact ⟨rfl, rfl⟩
  have g1 : (s == 2) = false := by simp [h1]
  have g2 : (s == 3) = false := by simp [h2]
  have g3 : (s == 5) = false := by simp [h3]
  have g4 : (s == 8) = false := by simp [h4]
  rw [show acc s = false by simp [acc, g1, g2, g3, g4]]
  go_enter Try.func28, Try.ntmps28
  go_wp2
  go_ret
  exact ⟨rfl, rfl⟩

set_option maxHeartbeats 4000000 in
theorem step_any (s c : Int) (w : World) (hs : 0 ≤ s) (hs8 : s ≤ 8) : Calls Try.prog 27 #[.int .i64 s, .int .u8 c] w fun e w' => e = .returned (.int .i64 (stp s c)) ∧ w = w' := by
  cases hD : isD c
  · have hnd : ¬ (48 ≤ c ∧ c ≤ 57) := fun e => by rw [(isD_iff c).2 e] at hD; cases hD
    obtain rfl | rfl | rfl | rfl | rfl | rfl | rfl | rfl | rfl : s = 0 ∨ s = 1 ∨ s = 2 ∨ s = 3 ∨ s = 4 ∨ s = 5 ∨ s = 6 ∨ s = 7 ∨ s = 8 := by omega
    all_goals
      (go_enter Try.func27, Try.ntmps27
       go_wp2_with (go_at_call 16; refine (isD_any _ _).mono ?_; rintro e w1 ⟨rfl, rfl⟩)
       all_goals (go_ret; refine ⟨ret_int ?_, rfl⟩; go_light; clear hD))
    all_goals (try simp only [beq_iff_eq, beq_eq_false_iff_ne, ne_eq] at *)
    all_goals (simp only [stp, Int.reduceEq, if_true, if_false])
    all_goals (repeat' split)
    all_goals first | rfl | omega
  · obtain ⟨h1, h2⟩ := (isD_iff c).1 hD
    obtain rfl | rfl | rfl | rfl | rfl | rfl | rfl | rfl | rfl : s = 0 ∨ s = 1 ∨ s = 2 ∨ s = 3 ∨ s = 4 ∨ s = 5 ∨ s = 6 ∨ s = 7 ∨ s = 8 := by omega
    all_goals
      (go_enter Try.func27, Try.ntmps27
       go_wp2_with (go_at_call 16; refine (isD_any _ _).mono ?_; rintro e w1 ⟨rfl, rfl⟩)
       all_goals (go_ret; refine ⟨ret_int ?_, rfl⟩; go_light; clear hD))
    all_goals (try simp only [beq_iff_eq, beq_eq_false_iff_ne, ne_eq] at *)
    all_goals (simp only [stp, Int.reduceEq, if_true, if_false, true_or, or_true])
    all_goals (repeat' split)
    all_goals first | rfl | omega

set_option maxHeartbeats 1000000 in
/-- 'numberModel'. -/
theorem model_any (a : Option Addr) (n c o : Nat) (f : Nat → Int) (w : World) (h : Row w a n f) (hn : n ≤ 2097152) (ho : o < n) :
    Calls Try.prog 12 #[.slice a n c, .int .i64 (o : Int)] w fun e w' => e = .returned (.tuple #[.bool (acc (mrun f n 0 o).1), .int .i64 ((mrun f n 0 o).2 : Nat)]) ∧ w = w' := by
  rcases h with h0 | ⟨b, off, rfl, hc⟩
  · omega
  have HC : Hid (∀ i, i < n → w.cell? ⟨b, off + i, none⟩ = some (.int .u8 (f i))) := hc
  clear hc
  go_enter Try.func12, Try.ntmps12
  go_wp2
  go_loopg [6, 7] (n - o) (fun g x y wr => w = wr ∧ ∃ (s : Int) (k : Nat), g = n - k ∧ x = .int .i64 s ∧ y = .int .i64 (k : Int) ∧ 0 ≤ s ∧ s ≤ 8 ∧ mrun f n s k = mrun f n 0 o)
  case atStart => exact ⟨rfl, 0, o, rfl, rfl, rfl, by omega, by omega, rfl⟩
  case round =>
    obtain ⟨rfl, s, k, rfl, rfl, rfl, hs0, hs8, hm⟩ := hrel
    have HM : Hid (mrun f n s k = mrun f n 0 o) := hm
    clear hm
    by_cases h1 : k < n
    · have hi : (k : Int) < n := by omega
      have g1 := HC.out k h1
      obtain ⟨t, ht⟩ : ∃ t, t = stp s (f k) := ⟨_, rfl⟩
      have HT : Hid (t = stp s (f k)) := ht
      have htr := stp_range s (f k)
      rw [← ht] at htr
      clear ht
      by_cases hx : t = -1
      · have HS : Hid (mrun f n 0 o = (s, k)) := by rw [← HM.out]; exact mrun_stop (fun h => h.2 (by rw [← HT.out]; exact hx))
        have hx1 : (t == -1) = true := by simp [hx]
        clear hx
        go_wp2_with (first | (go_at_call 27; refine (step_any s (f k) _ hs0 hs8).mono ?_; rintro e w1 ⟨rfl, rfl⟩; rw [← HT.out]) | (go_at_call 28; refine (acc_any _ _).mono ?_; rintro e w1 ⟨rfl, rfl⟩))
        go_ret2
        exact ⟨by rw [HS.out]; rfl, rfl⟩
      · have hx1 : (t == -1) = false := by simp [hx]
        have HS : Hid (mrun f n t (k + 1) = mrun f n 0 o) := by rw [← HM.out, mrun_step h1 (by rw [← HT.out]; exact hx), ← HT.out]; exact rfl
        go_wp2_with (first | (go_at_call 27; refine (step_any s (f k) _ hs0 hs8).mono ?_; rintro e w1 ⟨rfl, rfl⟩; rw [← HT.out]))
        go_roundg (n - (k + 1))
        case measure => omega
        case rel => exact ⟨rfl, t, k + 1, rfl, rfl, by go_num, by omega, by omega, HS.out⟩
    · have hi : ¬ ((k : Int) < n) := by omega
      have HS : Hid (mrun f n 0 o = (s, k)) := by rw [← HM.out]; exact mrun_stop (fun h => h1 h.1)
      go_wp2_with (first | (go_at_call 28; refine (acc_any _ _).mono ?_; rintro e w1 ⟨rfl, rfl⟩))
      go_ret2
      exact ⟨by rw [HS.out]; rfl, rfl⟩

end Go.Proofs.Qxb6603796a
