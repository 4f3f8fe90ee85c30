import Derived.Test.Qxb6603796aZZWhole
import Derived.Test.Qxb6603796aWModel
import Derived.Test.Qxb6603796aClone
namespace Go.Proofs.Qxb6603796a
open Go.RowKit

set_option maxHeartbeats 1000000 in
/-- THE WALK of FnWholeMatchesModel, off not below zero. -/
theorem wmm_main (a : Option Addr) (n c o : Nat) (d u : Int) (f : Nat → Int) (w : World) (r : Row w a n f) (y : Byt f) (ha : a = none → n = 0) (hn : n ≤ 1048576) (ho : (o : Int) ≤ 9223372036854775807) :
    Calls Try.prog 5 #[.slice a n c, .int .i64 (o : Int), .int .i64 d, .int .i64 u] w fun e w' => e = .returned (.bool true) ∧ Below w.heap.size w w' := by
  have R : Hid (Row w a n f) := r
  have HA : Hid (a = none → n = 0) := ha
  clear r ha
  go_enter Try.func5, Try.ntmps5
  go_wp2_with (first | (go_at_call 17; go_in) | (go_at_call 10; refine (clone_any a n c f _ R.out hn HA.out).mono ?_; rintro e w1 ⟨x1, rfl, ro1, _, be1⟩))
  refine (zzwhole_any x1 n n o d u f w1 ro1 y (by omega) ho).mono ?_
  rintro e w2 ⟨neg, mag, ok, off, rfl, hres, be2⟩
  have HR : Hid (Row w2 x1 n f) := ro1.keep be2
  have HB : Hid (Below w.heap.size w w2) := be1.trans (be2.mono be1.size)
  have HW : Hid (WholeRes f n o neg mag ok off) := hres
  clear ro1 be1 be2 hres
  go_wp2_with fail
  refine (wmodel_any x1 n o f w2 HR.out hn ho).mono ?_
  rintro e w3 ⟨neg', mag', ok', off', rfl, hres, q, rfl⟩
  obtain ⟨rfl, rfl, rfl, rfl⟩ := wholeRes_unique HW.out hres
  have HB3 : Hid (Below w.heap.size w (w2.drewN q)) := by have e := HB.out; exact ⟨e.os, e.tape, e.output, e.size, e.block⟩
  clear hres HW HB
  cases neg
  all_goals
    (cases ok
     all_goals
       (go_wp2
        go_ret
        exact ⟨rfl, HB3.out⟩))

set_option maxHeartbeats 1000000 in
/-- The ways on which the law's own tests answer. -/
theorem wmm_out (a : Option Addr) (n c : Nat) (o d u : Int) (w : World) (hm : (n : Int) ≤ 9223372036854775807) (h : 1048576 < n ∨ o < 0) :
    Calls Try.prog 5 #[.slice a n c, .int .i64 o, .int .i64 d, .int .i64 u] w fun e w' => e = .returned (.bool true) ∧ Below w.heap.size w w' := by
  by_cases h1 : 1048576 < n
  · clear h
    go_enter Try.func5, Try.ntmps5
    go_wp2
    go_ret
    exact ⟨rfl, Below.refl _ _⟩
  · have h2 : o < 0 := by omega
    clear h
    go_enter Try.func5, Try.ntmps5
    go_wp2
    go_ret
    exact ⟨rfl, Below.refl _ _⟩

end Go.Proofs.Qxb6603796a
