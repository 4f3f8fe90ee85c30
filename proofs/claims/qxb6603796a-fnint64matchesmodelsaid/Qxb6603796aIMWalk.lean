import Derived.Test.Qxb6603796aInt64
import Derived.Test.Qxb6603796aIModel
import Derived.Test.Qxb6603796aClone
namespace Go.Proofs.Qxb6603796a
open Go.RowKit

theorem fit_same (neg : Bool) (mag : Int) (ok : Bool) : fitsB neg mag ok = fitB neg mag ok := rfl
theorem svl_same (neg : Bool) (mag : Int) : sval neg mag = svl neg mag := rfl

set_option maxHeartbeats 1000000 in
/-- THE WALK of FnInt64MatchesModel, off not below zero. -/
theorem im_main (a : Option Addr) (n c o : Nat) (d u p : Int) (f : Nat → Int) (w : World) (r : Row w a n f) (y : Byt f) (ha : a = none → n = 0) (hn : n ≤ 1048576) (ho : (o : Int) ≤ 9223372036854775807) :
    Calls Try.prog 7 #[.slice a n c, .int .i64 (o : Int), .int .i64 d, .int .i64 u, .int .i64 p] w fun e w' => e = .returned (.bool true) ∧ Below w.heap.size w w' := by
  have R : Hid (Row w a n f) := r
  have HA : Hid (a = none → n = 0) := ha
  clear r ha
  go_enter Try.func7, Try.ntmps7
  go_wp2_with (first | (go_at_call 22; go_in) | (go_at_call 10; refine (clone_any a n c f _ R.out hn HA.out).mono ?_; rintro e w1 ⟨x1, rfl, ro1, _, be1⟩))
  refine (zzint64_any x1 n n o d u p f w1 ro1 y (by omega) ho).mono ?_
  rintro e w2 ⟨neg, mag, ok, off, rfl, hres, be2⟩
  obtain ⟨fb, hfb⟩ : ∃ fb, fb = fitsB neg mag ok := ⟨_, rfl⟩
  rw [← hfb]
  obtain ⟨x, hx⟩ : ∃ x, x = if fb = true then sval neg mag else p := ⟨_, rfl⟩
  rw [← hx]
  have HFB : Hid (fb = fitsB neg mag ok) := hfb
  have HX : Hid (x = if fb = true then sval neg mag else p) := hx
  clear hfb hx
  have HR : Hid (Row w2 x1 n f) := ro1.keep be2
  have HB : Hid (Below w.heap.size w w2) := be1.trans (be2.mono be1.size)
  have HW : Hid (WholeRes f n o neg mag ok off) := hres
  clear ro1 be1 be2 hres
  go_wp2_with fail
  refine (imodel_any x1 n o f w2 HR.out hn ho).mono ?_
  rintro e w3 ⟨wok, wv, rfl, him, q, rfl⟩
  obtain ⟨e1, e2⟩ := him neg mag ok off HW.out
  have hfw : fb = wok := by rw [HFB.out, e1, fit_same]
  subst hfw
  clear him e1 HFB
  have HR3 : Hid (Row (w2.drewN q) x1 n f) := row_drw q HR.out
  have HB3 : Hid (Below w.heap.size w (w2.drewN q)) := by have c := HB.out; exact ⟨c.os, c.tape, c.output, c.size, c.block⟩
  clear HR HB
  cases fb
  · clear e2
    have hx : x = p := by rw [HX.out]; rfl
    subst hx
    clear HX
    go_wp2_with fail
    refine (wmodel_any x1 n o f (w2.drewN q) HR3.out hn ho).mono ?_
    rintro e w4 ⟨neg', mag', ok', off', rfl, hres, q2, rfl⟩
    obtain ⟨_, _, _, rfl⟩ := wholeRes_unique HW.out hres
    have HB4 : Hid (Below w.heap.size w ((w2.drewN q).drewN q2)) := by have c := HB3.out; exact ⟨c.os, c.tape, c.output, c.size, c.block⟩
    clear hres HW HB3
    go_wp2
    go_ret
    exact ⟨rfl, by have c := HB4.out; rwa [World.drewN_drewN] at c⟩
  · have e3 := e2 rfl
    have hx : x = wv := by rw [HX.out, if_pos rfl, e3, svl_same]
    subst hx
    clear e2 e3 HX
    go_wp2_with fail
    refine (wmodel_any x1 n o f (w2.drewN q) HR3.out hn ho).mono ?_
    rintro e w4 ⟨neg', mag', ok', off', rfl, hres, q2, rfl⟩
    obtain ⟨_, _, _, rfl⟩ := wholeRes_unique HW.out hres
    have HB4 : Hid (Below w.heap.size w ((w2.drewN q).drewN q2)) := by have c := HB3.out; exact ⟨c.os, c.tape, c.output, c.size, c.block⟩
    clear hres HW HB3
    go_wp2
    go_ret
    exact ⟨rfl, by have c := HB4.out; rwa [World.drewN_drewN] at c⟩

set_option maxHeartbeats 1000000 in
/-- The ways on which the law's own tests answer. -/
theorem im_out (a : Option Addr) (n c : Nat) (o d u p : Int) (w : World) (hm : (n : Int) ≤ 9223372036854775807) (h : 1048576 < n ∨ o < 0) :
    Calls Try.prog 7 #[.slice a n c, .int .i64 o, .int .i64 d, .int .i64 u, .int .i64 p] w fun e w' => e = .returned (.bool true) ∧ Below w.heap.size w w' := by
  by_cases h1 : 1048576 < n
  · clear h
    go_enter Try.func7, Try.ntmps7
    go_wp2
    go_ret
    exact ⟨rfl, Below.refl _ _⟩
  · have h2 : o < 0 := by omega
    clear h
    go_enter Try.func7, Try.ntmps7
    go_wp2
    go_ret
    exact ⟨rfl, Below.refl _ _⟩

end Go.Proofs.Qxb6603796a
