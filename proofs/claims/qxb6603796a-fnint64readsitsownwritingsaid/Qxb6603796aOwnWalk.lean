import Derived.Test.Qxb6603796aZZWhole
import Derived.Test.Qxb6603796aOwnPlain
import Derived.Test.Qxb6603796aSmall
namespace Go.Proofs.Qxb6603796a
open Go.RowKit

theorem byt_cat {f g h : Nat → Int} (nf ng : Nat) (hf : Byt f) (hg : Byt g) (hh : Byt h) : Byt (cat3 f g h nf ng) := by
  intro i
  unfold cat3
  split
  · exact hf _
  · split
    · exact hg _
    · exact hh _

theorem byt_wrt (neg : Bool) (M nd : Nat) : Byt (wrt neg M nd) := by
  intro i
  unfold wrt
  split
  · omega
  · have := (isD_iff _).1 (dg_isD M (nd - 1 - (i - sl neg)))
    omega

set_option maxHeartbeats 1000000 in
/-- THE WALK, the way on which the number is written and read. -/
theorem main_walk (a0 : Bool) (M : Nat) (a2 : Option Addr) (len2 cap2 : Nat) (a3 : Option Addr) (len3 cap3 : Nat) (f2 f3 : Nat → Int) (w : World) (hM : M < 18446744073709551616) (r2 : Row w a2 len2 f2) (r3 : Row w a3 len3 f3) (y2 : Byt f2) (y3 : Byt f3)
    (b2 : len2 ≤ 1048576) (b3 : len3 ≤ 1048576) (b4 : (len2 : Int) + len3 ≤ 1048576) :
    Calls Try.prog 6 #[.bool a0, .int .u64 M, .slice a2 len2 cap2, .slice a3 len3 cap3] w fun e w' => e = .returned (.bool true) ∧ Below w.heap.size w w' := by
  have R2 : Hid (Row w a2 len2 f2) := r2
  have R3 : Hid (Row w a3 len3 f3) := r3
  clear r2 r3
  by_cases hsx : len3 ≠ 0 → isD (f3 0) = false ∧ isFE (f3 0) = false
  · have HS : Hid (len3 ≠ 0 → isD (f3 0) = false ∧ isFE (f3 0) = false) := hsx
    by_cases h0 : len3 = 0
    · clear hsx
      subst h0
      go_enter Try.func6, Try.ntmps6
      go_wp2_with (first | (go_at_call 20; refine (write_any a0 M hM _).mono ?_; rintro e w1 ⟨nd, x1, k1, k2, k3, k4, rfl, ro1, be1⟩) | (go_at_call 19; go_in))
      obtain ⟨L, hL⟩ : ∃ L, L = sl a0 + nd := ⟨_, rfl⟩
      have HL : Hid (L = sl a0 + nd) := hL
      have hL2 : L ≤ 21 := by rw [hL]; cases a0 <;> simp [sl] <;> omega
      rw [← hL] at ro1 ⊢
      clear hL
      refine (concat_any _ x1 _ len2 cap2 L L 0 cap3 f2 (wrt a0 M nd) f3 w1 (R2.out.keep be1) ro1 (R3.out.keep be1) b2 (by omega) b3).mono ?_
      rintro e w2 ⟨x2, rfl, ro2, be2⟩
      have HB : Hid (Below w.heap.size w w2) := be1.trans (be2.mono be1.size)
      clear be1 be2 ro1
      go_wp2_with fail
      refine (zzwhole_any x2 (len2 + L + 0) (len2 + L + 0) len2 0 0 _ w2 ro2 (byt_cat _ _ y2 (byt_wrt _ _ _) y3) (by omega) (by omega)).mono ?_
      rintro e w3 ⟨neg', mag, ok, off, rfl, hres, be3⟩
      have hpl := own_plain f2 f3 len2 0 a0 M nd hM k1 k3 k4 HS.out (by rw [← HL.out]; exact hres)
      rw [← HL.out] at hpl
      obtain ⟨rfl, rfl, rfl, rfl⟩ := hpl
      have HB3 : Hid (Below w.heap.size w w3) := HB.out.trans (be3.mono HB.out.size)
      clear hres be3 ro2 HB HS
      cases neg'
      all_goals
        (go_wp2
         go_ret
         exact ⟨rfl, HB3.out⟩)
    · obtain ⟨hs1, hs2⟩ := hsx h0
      clear hsx
      have g0 : ((0 : Int) < (len3 : Int)) := by omega
      obtain ⟨b, o, rfl, hc⟩ := row_at R3.out (Below.refl _ _) (k := 0) (by omega)
      rw [Nat.add_zero] at hc
      go_enter Try.func6, Try.ntmps6
      go_wp2_with (first | (go_at_call 20; refine (write_any a0 M hM _).mono ?_; rintro e w1 ⟨nd, x1, k1, k2, k3, k4, rfl, ro1, be1⟩) | (go_at_call 19; go_in) | (go_at_call 16; refine (isD_any _ _).mono ?_; rintro e w1 ⟨rfl, rfl⟩) | (go_at_call 15; refine (isFE_any _ _).mono ?_; rintro e w1 ⟨rfl, rfl⟩))
      obtain ⟨L, hL⟩ : ∃ L, L = sl a0 + nd := ⟨_, rfl⟩
      have HL : Hid (L = sl a0 + nd) := hL
      have hL2 : L ≤ 21 := by rw [hL]; cases a0 <;> simp [sl] <;> omega
      rw [← hL] at ro1 ⊢
      clear hL
      refine (concat_any _ x1 _ len2 cap2 L L len3 cap3 f2 (wrt a0 M nd) f3 w1 (R2.out.keep be1) ro1 (R3.out.keep be1) b2 (by omega) b3).mono ?_
      rintro e w2 ⟨x2, rfl, ro2, be2⟩
      have HB : Hid (Below w.heap.size w w2) := be1.trans (be2.mono be1.size)
      clear be1 be2 ro1
      go_wp2_with fail
      refine (zzwhole_any x2 (len2 + L + len3) (len2 + L + len3) len2 0 0 _ w2 ro2 (byt_cat _ _ y2 (byt_wrt _ _ _) y3) (by omega) (by omega)).mono ?_
      rintro e w3 ⟨neg', mag, ok, off, rfl, hres, be3⟩
      have hpl := own_plain f2 f3 len2 len3 a0 M nd hM k1 k3 k4 HS.out (by rw [← HL.out]; exact hres)
      rw [← HL.out] at hpl
      obtain ⟨rfl, rfl, rfl, rfl⟩ := hpl
      have HB3 : Hid (Below w.heap.size w w3) := HB.out.trans (be3.mono HB.out.size)
      clear hres be3 ro2 HB HS
      cases neg'
      all_goals
        (go_wp2
         go_ret
         exact ⟨rfl, HB3.out⟩)
  · have hsx1 : len3 ≠ 0 ∧ (isD (f3 0) = true ∨ (isD (f3 0) = false ∧ isFE (f3 0) = true)) := by
      by_cases h0 : len3 = 0
      · exact absurd (fun h => absurd h0 h) hsx
      · refine ⟨h0, ?_⟩
        cases e1 : isD (f3 0)
        · cases e2 : isFE (f3 0)
          · exact absurd (fun _ => ⟨e1, e2⟩) hsx
          · exact .inr ⟨rfl, rfl⟩
        · exact .inl rfl
    obtain ⟨h0, hsx2⟩ := hsx1
    clear hsx
    have g0 : ((0 : Int) < (len3 : Int)) := by omega
    obtain ⟨b, o, rfl, hc⟩ := row_at R3.out (Below.refl _ _) (k := 0) (by omega)
    rw [Nat.add_zero] at hc
    rcases hsx2 with hs1 | ⟨hs1, hs2⟩
    all_goals
      (go_enter Try.func6, Try.ntmps6
       go_wp2_with (first | (go_at_call 19; go_in) | (go_at_call 16; refine (isD_any _ _).mono ?_; rintro e w1 ⟨rfl, rfl⟩) | (go_at_call 15; refine (isFE_any _ _).mono ?_; rintro e w1 ⟨rfl, rfl⟩))
       go_ret
       exact ⟨rfl, Below.refl _ _⟩)
end Go.Proofs.Qxb6603796a
