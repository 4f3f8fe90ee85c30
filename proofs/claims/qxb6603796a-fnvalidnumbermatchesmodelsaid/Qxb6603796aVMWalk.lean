import Derived.Test.Qxb6603796aZZValid
import Derived.Test.Qxb6603796aModel
import Derived.Test.Qxb6603796aAutPlain
import Derived.Test.Qxb6603796aClone
namespace Go.Proofs.Qxb6603796a
open Go.RowKit

/-- What the automaton's answer and the stages' answer come to. -/
theorem corr_cases {r : Int × Nat} {v : Option Nat} {ok : Bool} {off o : Nat} (h : Corr r v) (hv : (ok = true ∧ v = some off) ∨ (ok = false ∧ v = none ∧ off = o)) :
    acc r.1 = ok ∧ (ok = true → r.2 = off) ∧ (ok = false → off = o) := by
  rcases hv with ⟨rfl, rfl⟩ | ⟨rfl, rfl, rfl⟩
  · exact ⟨h.1, ⟨fun _ => h.2, fun e => (by cases e)⟩⟩
  · exact ⟨h, ⟨fun e => (by cases e), fun _ => rfl⟩⟩

set_option maxHeartbeats 1000000 in
/-- THE WALK of FnValidNumberMatchesModel, inside the data. -/
theorem vm_main (a : Option Addr) (n c o : Nat) (d u : Int) (f : Nat → Int) (w : World) (r : Row w a n f) (ha : a = none → n = 0) (hn : n ≤ 1048576) (ho : o < n) :
    Calls Try.prog 3 #[.slice a n c, .int .i64 (o : Int), .int .i64 d, .int .i64 u] w fun e w' => e = .returned (.bool true) ∧ Below w.heap.size w w' := by
  have R : Hid (Row w a n f) := r
  have HA : Hid (a = none → n = 0) := ha
  clear r ha
  have ho' : (o : Int) < n := by omega
  go_enter Try.func3, Try.ntmps3
  go_wp2_with (first | (go_at_call 9; go_in) | (go_at_call 10; refine (clone_any a n c f _ R.out hn HA.out).mono ?_; rintro e w1 ⟨x1, rfl, ro1, _, be1⟩))
  refine (zzvalid_any x1 n n o d u f w1 ro1 (by omega) ho).mono ?_
  rintro e w2 ⟨ok, off, rfl, hv, be2⟩
  have HR : Hid (Row w2 x1 n f) := ro1.keep be2
  have HB : Hid (Below w.heap.size w w2) := be1.trans (be2.mono be1.size)
  clear ro1 be1 be2
  have hc := corr_cases (vnum_mrun ho) hv
  clear hv
  obtain ⟨k1, k2, k3⟩ := hc
  go_wp2_with fail
  refine (model_any x1 n n o f w2 HR.out (by omega) ho).mono ?_
  rintro e w3 ⟨rfl, rfl⟩
  rw [k1]
  cases ok
  · obtain rfl := k3 rfl
    clear k1 k2 k3
    go_wp2
    go_ret
    exact ⟨rfl, HB.out⟩
  · have e := k2 rfl
    rw [e]
    clear e k1 k2 k3
    go_wp2
    go_ret
    exact ⟨rfl, HB.out⟩

set_option maxHeartbeats 1000000 in
/-- The ways on which the law's own tests answer. -/
theorem vm_out (a : Option Addr) (n c : Nat) (o d u : Int) (w : World) (hm : (n : Int) ≤ 9223372036854775807) (h : 1048576 < n ∨ o < 0 ∨ (n : Int) ≤ o) :
    Calls Try.prog 3 #[.slice a n c, .int .i64 o, .int .i64 d, .int .i64 u] w fun e w' => e = .returned (.bool true) ∧ Below w.heap.size w w' := by
  by_cases h1 : 1048576 < n
  · clear h
    go_enter Try.func3, Try.ntmps3
    go_wp2
    go_ret
    exact ⟨rfl, Below.refl _ _⟩
  · by_cases h2 : o < 0
    · clear h
      go_enter Try.func3, Try.ntmps3
      go_wp2
      go_ret
      exact ⟨rfl, Below.refl _ _⟩
    · have h3 : (n : Int) ≤ o := by omega
      clear h
      go_enter Try.func3, Try.ntmps3
      go_wp2
      go_ret
      exact ⟨rfl, Below.refl _ _⟩

end Go.Proofs.Qxb6603796a
