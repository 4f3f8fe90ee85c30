import Derived.Test.Qxb6603796aValid
import Derived.Test.Qxb6603796aZZWhole
namespace Go.Proofs.Qxb6603796a
open Go.RowKit

/-- What 'ZZValidNumber' leaves. -/
def ZVPost (f : Nat → Int) (n o : Nat) (w : World) (e : Ending) (w' : World) : Prop :=
  ∃ (ok : Bool) (off : Nat), e = .returned (.tuple #[.bool ok, .int .i64 (off : Int)]) ∧ ((ok = true ∧ vnum f n o = some off) ∨ (ok = false ∧ vnum f n o = none ∧ off = o)) ∧ Below w.heap.size w w'

set_option maxHeartbeats 1000000 in
set_option maxRecDepth 100000 in
theorem zzvalid_any (a : Option Addr) (n c o : Nat) (d u : Int) (f : Nat → Int) (w : World) (h : Row w a n f) (hn : n ≤ 2097152) (ho : o < n) :
    Calls Try.prog 11 #[.slice a n c, .int .i64 o, .int .i64 d, .int .i64 u] w (ZVPost f n o w) := by
  obtain ⟨h1, _⟩ := row_ne h (.cells #[.slice a n c, .int .i64 o, .int .i64 d, .int .i64 u] 45)
  have H1 : Hid (Row (w.alloc (.cells #[.slice a n c, .int .i64 o, .int .i64 d, .int .i64 u] 45)) a n f) := h1
  clear h1 h
  go_enter Try.func11, Try.ntmps11
  go_wp2_with fail
  refine (valid_any w.heap.size a n c o f _ (by simp [go_sem]) (by simp [go_sem]) (by simp [go_sem]) H1.out hn ho).mono ?_
  rintro e w1 ⟨ok, off, rfl, hoff, hg, hres⟩
  have Hres : Hid ((ok = true ∧ vnum f n o = some off) ∨ (ok = false ∧ vnum f n o = none ∧ off = o)) := hres
  have hsz : w.heap.size < w1.heap.size := by have := hg.size; simp at this; omega
  have Hg : Hid (Below w.heap.size w w1) := ((Below.refl w.heap.size w).alloc (Nat.le_refl _) _).grown hg (by simp) (fun k hk => by simp at hk; omega)
  clear hres hg
  go_wp2
  go_quiet (fail)
  go_wp2
  go_ret2
  have e := Hg.out
  exact ⟨ok, off, rfl, Hres.out, e.os, e.tape, e.output, e.size, e.block⟩
end Go.Proofs.Qxb6603796a
