import Derived.Test.Qxb6603796aInt64
import Derived.Test.Qxb6603796aOwnWalk
namespace Go.Proofs.Qxb6603796a
open Go.RowKit

theorem wrap_neg (M : Nat) (h : M ≤ 9223372036854775808) : IntKind.u64.wrap (-IntKind.u64.wrap (-(M : Int))) = M := by
  simp only [IntKind.wrap_u64]
  omega

set_option maxHeartbeats 1000000 in
/-- THE WALK, the way on which the number is written and read; the suffix lets it through. -/
theorem owni_main (v : Int) (neg : Bool) (M : Nat) (a1 : Option Addr) (len1 cap1 : Nat) (a2 : Option Addr) (len2 cap2 : Nat) (p : Int) (f1 f2 : Nat → Int) (w : World) (hneg : decide (v < 0) = neg) (hv : sval neg M = v)
    (hv1 : -9223372036854775808 ≤ v) (hv2 : v ≤ 9223372036854775807) (r1 : Row w a1 len1 f1) (r2 : Row w a2 len2 f2) (y1 : Byt f1) (y2 : Byt f2)
    (b1 : len1 ≤ 1048576) (b2 : len2 ≤ 1048576) (b3 : (len1 : Int) + len2 ≤ 1048576) (hsx : len2 ≠ 0 → isD (f2 0) = false ∧ isFE (f2 0) = false) :
    Calls Try.prog 8 #[.int .i64 v, .slice a1 len1 cap1, .slice a2 len2 cap2, .int .i64 p] w fun e w' => e = .returned (.bool true) ∧ Below w.heap.size w w' := by
  have R1 : Hid (Row w a1 len1 f1) := r1
  have R2 : Hid (Row w a2 len2 f2) := r2
  have HS : Hid (len2 ≠ 0 → isD (f2 0) = false ∧ isFE (f2 0) = false) := hsx
  have HV : Hid (sval neg M = v) := hv
  have HNG : Hid (decide (v < 0) = neg) := hneg
  clear r1 r2 hneg
  by_cases h0 : len2 = 0
  · subst h0
    clear hsx
    cases neg
    · have hvM : v = M := by rw [← hv]; simp [sval]
      subst hvM
      clear hv
      go_enter Try.func8, Try.ntmps8
      go_wp2_with (first | (go_at_call 25; go_in))
      rw [show decide ((M : Int) < 0) = false by simp]
      refine (write_any false M (by omega) _).mono ?_
      rintro e w1 ⟨nd, x1, k1, k2, k3, k4, rfl, ro1, be1⟩
      obtain ⟨L, hL⟩ : ∃ L, L = sl false + nd := ⟨_, rfl⟩
      have HL : Hid (L = sl false + nd) := hL
      have hL2 : L ≤ 21 := by rw [hL]; simp [sl]; omega
      rw [← hL] at ro1 ⊢
      clear hL
      go_wp2_with fail
      refine (concat_any _ x1 _ len1 cap1 L L 0 cap2 f1 (wrt false M nd) f2 w1 (R1.out.keep be1) ro1 (R2.out.keep be1) b1 (by omega) b2).mono ?_
      rintro e w2 ⟨x2, rfl, ro2, be2⟩
      have HB : Hid (Below w.heap.size w w2) := be1.trans (be2.mono be1.size)
      clear be1 be2 ro1
      go_wp2_with fail
      refine (zzint64_any x2 (len1 + L + 0) (len1 + L + 0) len1 0 0 p _ w2 ro2 (byt_cat _ _ y1 (byt_wrt _ _ _) y2) (by omega) (by omega)).mono ?_
      rintro e w3 ⟨neg', mag, ok, off, rfl, hres, be3⟩
      have hpl := own_plain f1 f2 len1 0 false M nd (by omega) k1 k3 k4 HS.out (by rw [← HL.out]; exact hres)
      rw [← HL.out] at hpl
      obtain ⟨rfl, rfl, rfl, rfl⟩ := hpl
      have HB3 : Hid (Below w.heap.size w w3) := HB.out.trans (be3.mono HB.out.size)
      clear hres be3 ro2 HB HS
      have hfit : fitsB false (M : Int) true = true := by simp [fitsB]; omega
      have hsv : sval false (M : Int) = (M : Int) := by simp [sval]
      rw [hfit, if_pos rfl, hsv]
      clear hfit hsv HV
      go_wp2
      go_ret
      exact ⟨rfl, HB3.out⟩
    · have hvM : v = -M := by rw [← hv]; simp [sval]
      have hn0 : v < 0 := by have := HNG.out; simpa using this
      subst hvM
      clear hv
      go_enter Try.func8, Try.ntmps8
      go_wp2_with (first | (go_at_call 25; go_in))
      rw [wrap_neg M (by omega)]
      refine (write_any true M (by omega) _).mono ?_
      rintro e w1 ⟨nd, x1, k1, k2, k3, k4, rfl, ro1, be1⟩
      obtain ⟨L, hL⟩ : ∃ L, L = sl true + nd := ⟨_, rfl⟩
      have HL : Hid (L = sl true + nd) := hL
      have hL2 : L ≤ 21 := by rw [hL]; simp [sl]; omega
      rw [← hL] at ro1 ⊢
      clear hL
      go_wp2_with fail
      refine (concat_any _ x1 _ len1 cap1 L L 0 cap2 f1 (wrt true M nd) f2 w1 (R1.out.keep be1) ro1 (R2.out.keep be1) b1 (by omega) b2).mono ?_
      rintro e w2 ⟨x2, rfl, ro2, be2⟩
      have HB : Hid (Below w.heap.size w w2) := be1.trans (be2.mono be1.size)
      clear be1 be2 ro1
      go_wp2_with fail
      refine (zzint64_any x2 (len1 + L + 0) (len1 + L + 0) len1 0 0 p _ w2 ro2 (byt_cat _ _ y1 (byt_wrt _ _ _) y2) (by omega) (by omega)).mono ?_
      rintro e w3 ⟨neg', mag, ok, off, rfl, hres, be3⟩
      have hpl := own_plain f1 f2 len1 0 true M nd (by omega) k1 k3 k4 HS.out (by rw [← HL.out]; exact hres)
      rw [← HL.out] at hpl
      obtain ⟨rfl, rfl, rfl, rfl⟩ := hpl
      have HB3 : Hid (Below w.heap.size w w3) := HB.out.trans (be3.mono HB.out.size)
      clear hres be3 ro2 HB HS
      have hfit : fitsB true (M : Int) true = true := by simp [fitsB]; omega
      have hsv : sval true (M : Int) = -(M : Int) := by simp [sval]
      rw [hfit, if_pos rfl, hsv]
      clear hfit hsv HV
      go_wp2
      go_ret
      exact ⟨rfl, HB3.out⟩
  · obtain ⟨hs1, hs2⟩ := hsx h0
    clear hsx
    have g0 : ((0 : Int) < (len2 : Int)) := by omega
    obtain ⟨b, o, rfl, hc⟩ := row_at R2.out (Below.refl _ _) (k := 0) (by omega)
    rw [Nat.add_zero] at hc
    cases neg
    · have hvM : v = M := by rw [← hv]; simp [sval]
      subst hvM
      clear hv
      go_enter Try.func8, Try.ntmps8
      go_wp2_with (first | (go_at_call 25; go_in) | (go_at_call 16; refine (isD_any _ _).mono ?_; rintro e w1 ⟨rfl, rfl⟩) | (go_at_call 15; refine (isFE_any _ _).mono ?_; rintro e w1 ⟨rfl, rfl⟩))
      rw [show decide ((M : Int) < 0) = false by simp]
      refine (write_any false M (by omega) _).mono ?_
      rintro e w1 ⟨nd, x1, k1, k2, k3, k4, rfl, ro1, be1⟩
      obtain ⟨L, hL⟩ : ∃ L, L = sl false + nd := ⟨_, rfl⟩
      have HL : Hid (L = sl false + nd) := hL
      have hL2 : L ≤ 21 := by rw [hL]; simp [sl]; omega
      rw [← hL] at ro1 ⊢
      clear hL
      go_wp2_with fail
      refine (concat_any _ x1 _ len1 cap1 L L len2 cap2 f1 (wrt false M nd) f2 w1 (R1.out.keep be1) ro1 (R2.out.keep be1) b1 (by omega) b2).mono ?_
      rintro e w2 ⟨x2, rfl, ro2, be2⟩
      have HB : Hid (Below w.heap.size w w2) := be1.trans (be2.mono be1.size)
      clear be1 be2 ro1
      go_wp2_with fail
      refine (zzint64_any x2 (len1 + L + len2) (len1 + L + len2) len1 0 0 p _ w2 ro2 (byt_cat _ _ y1 (byt_wrt _ _ _) y2) (by omega) (by omega)).mono ?_
      rintro e w3 ⟨neg', mag, ok, off, rfl, hres, be3⟩
      have hpl := own_plain f1 f2 len1 len2 false M nd (by omega) k1 k3 k4 HS.out (by rw [← HL.out]; exact hres)
      rw [← HL.out] at hpl
      obtain ⟨rfl, rfl, rfl, rfl⟩ := hpl
      have HB3 : Hid (Below w.heap.size w w3) := HB.out.trans (be3.mono HB.out.size)
      clear hres be3 ro2 HB HS
      have hfit : fitsB false (M : Int) true = true := by simp [fitsB]; omega
      have hsv : sval false (M : Int) = (M : Int) := by simp [sval]
      rw [hfit, if_pos rfl, hsv]
      clear hfit hsv HV
      go_wp2
      go_ret
      exact ⟨rfl, HB3.out⟩
    · have hvM : v = -M := by rw [← hv]; simp [sval]
      have hn0 : v < 0 := by have := HNG.out; simpa using this
      subst hvM
      clear hv
      go_enter Try.func8, Try.ntmps8
      go_wp2_with (first | (go_at_call 25; go_in) | (go_at_call 16; refine (isD_any _ _).mono ?_; rintro e w1 ⟨rfl, rfl⟩) | (go_at_call 15; refine (isFE_any _ _).mono ?_; rintro e w1 ⟨rfl, rfl⟩))
      rw [wrap_neg M (by omega)]
      refine (write_any true M (by omega) _).mono ?_
      rintro e w1 ⟨nd, x1, k1, k2, k3, k4, rfl, ro1, be1⟩
      obtain ⟨L, hL⟩ : ∃ L, L = sl true + nd := ⟨_, rfl⟩
      have HL : Hid (L = sl true + nd) := hL
      have hL2 : L ≤ 21 := by rw [hL]; simp [sl]; omega
      rw [← hL] at ro1 ⊢
      clear hL
      go_wp2_with fail
      refine (concat_any _ x1 _ len1 cap1 L L len2 cap2 f1 (wrt true M nd) f2 w1 (R1.out.keep be1) ro1 (R2.out.keep be1) b1 (by omega) b2).mono ?_
      rintro e w2 ⟨x2, rfl, ro2, be2⟩
      have HB : Hid (Below w.heap.size w w2) := be1.trans (be2.mono be1.size)
      clear be1 be2 ro1
      go_wp2_with fail
      refine (zzint64_any x2 (len1 + L + len2) (len1 + L + len2) len1 0 0 p _ w2 ro2 (byt_cat _ _ y1 (byt_wrt _ _ _) y2) (by omega) (by omega)).mono ?_
      rintro e w3 ⟨neg', mag, ok, off, rfl, hres, be3⟩
      have hpl := own_plain f1 f2 len1 len2 true M nd (by omega) k1 k3 k4 HS.out (by rw [← HL.out]; exact hres)
      rw [← HL.out] at hpl
      obtain ⟨rfl, rfl, rfl, rfl⟩ := hpl
      have HB3 : Hid (Below w.heap.size w w3) := HB.out.trans (be3.mono HB.out.size)
      clear hres be3 ro2 HB HS
      have hfit : fitsB true (M : Int) true = true := by simp [fitsB]; omega
      have hsv : sval true (M : Int) = -(M : Int) := by simp [sval]
      rw [hfit, if_pos rfl, hsv]
      clear hfit hsv HV
      go_wp2
      go_ret
      exact ⟨rfl, HB3.out⟩

set_option maxHeartbeats 1000000 in
/-- The ways on which the suffix goes on with a digit, a point or an exponent. -/
theorem owni_suffix (v : Int) (a1 : Option Addr) (len1 cap1 : Nat) (a2 : Option Addr) (len2 cap2 : Nat) (p : Int) (f2 : Nat → Int) (w : World) (r2 : Row w a2 len2 f2)
    (b1 : len1 ≤ 1048576) (b2 : len2 ≤ 1048576) (b3 : (len1 : Int) + len2 ≤ 1048576) (hsx : ¬ (len2 ≠ 0 → isD (f2 0) = false ∧ isFE (f2 0) = false)) :
    Calls Try.prog 8 #[.int .i64 v, .slice a1 len1 cap1, .slice a2 len2 cap2, .int .i64 p] w fun e w' => e = .returned (.bool true) ∧ Below w.heap.size w w' := by
  have hsx1 : len2 ≠ 0 ∧ (isD (f2 0) = true ∨ (isD (f2 0) = false ∧ isFE (f2 0) = true)) := by
    by_cases h0 : len2 = 0
    · exact absurd (fun h => absurd h0 h) hsx
    · refine ⟨h0, ?_⟩
      cases e1 : isD (f2 0)
      · cases e2 : isFE (f2 0)
        · exact absurd (fun _ => ⟨e1, e2⟩) hsx
        · exact .inr ⟨rfl, rfl⟩
      · exact .inl rfl
  obtain ⟨h0, hsx2⟩ := hsx1
  clear hsx
  have g0 : ((0 : Int) < (len2 : Int)) := by omega
  obtain ⟨b, o, rfl, hc⟩ := row_at r2 (Below.refl _ _) (k := 0) (by omega)
  rw [Nat.add_zero] at hc
  clear r2
  rcases hsx2 with hs1 | ⟨hs1, hs2⟩
  all_goals
    (go_enter Try.func8, Try.ntmps8
     go_wp2_with (first | (go_at_call 25; go_in) | (go_at_call 16; refine (isD_any _ _).mono ?_; rintro e w1 ⟨rfl, rfl⟩) | (go_at_call 15; refine (isFE_any _ _).mono ?_; rintro e w1 ⟨rfl, rfl⟩))
     go_ret
     exact ⟨rfl, Below.refl _ _⟩)

set_option maxHeartbeats 1000000 in
/-- The ways on which the law's own bounds answer. -/
theorem owni_out (v : Int) (a1 : Option Addr) (len1 cap1 : Nat) (a2 : Option Addr) (len2 cap2 : Nat) (p : Int) (w : World) (m1 : (len1 : Int) ≤ 9223372036854775807) (m2 : (len2 : Int) ≤ 9223372036854775807)
    (h : 1048576 < len1 ∨ 1048576 < len2 ∨ 1048576 < (len1 : Int) + len2) :
    Calls Try.prog 8 #[.int .i64 v, .slice a1 len1 cap1, .slice a2 len2 cap2, .int .i64 p] w fun e w' => e = .returned (.bool true) ∧ Below w.heap.size w w' := by
  by_cases b2 : len1 ≤ 1048576
  · by_cases b3 : len2 ≤ 1048576
    · have b4 : 1048576 < (len1 : Int) + len2 := by omega
      clear h
      go_enter Try.func8, Try.ntmps8
      go_wp2
      go_ret
      exact ⟨rfl, Below.refl _ _⟩
    · clear h
      go_enter Try.func8, Try.ntmps8
      go_wp2
      go_ret
      exact ⟨rfl, Below.refl _ _⟩
  · clear h
    go_enter Try.func8, Try.ntmps8
    go_wp2
    go_ret
    exact ⟨rfl, Below.refl _ _⟩

end Go.Proofs.Qxb6603796a
