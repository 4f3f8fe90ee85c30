import Derived.Test.Qxb6603796aBase
import Derived.Test.Qxb6603796aPlain
import Derived.Deep.QuietTactic
import Derived.BigQuiet
namespace Go.Proofs.Qxb6603796a
open Go.RowKit

/-- The byte at o, or 0 behind the end. -/
def pk (f : Nat → Int) (n o : Nat) : Int := if o < n then f o else 0

set_option maxHeartbeats 400000 in
theorem peek_any (rb : Nat) (a : Option Addr) (n c o : Nat) (f : Nat → Int) (w : World) (hd : w.cell? ⟨rb, 0, none⟩ = some (.slice a n c)) (ho : w.cell? ⟨rb, 1, none⟩ = some (.int .i64 o)) (h : Row w a n f) :
    Calls Try.prog 34 #[.pointer (some ⟨rb, 0, none⟩)] w fun e w' => e = .returned (.int .u8 (pk f n o)) ∧ ∃ q, w' = w.drewN q := by
  by_cases hlt : o < n
  · have hp : pk f n o = f o := by simp [pk, hlt]
    rw [hp]
    clear hp
    rcases h with h | ⟨b, off, rfl, hc⟩
    · omega
    have hc0 := hc o hlt
    have hi : (o : Int) < (n : Int) := by omega
    clear hc
    go_enter Try.func34, Try.ntmps34
    go_wp2
    go_quiet (fail)
    go_wp2
    go_quiet (fail)
    go_wp2
    go_ret
    exact ⟨rfl, _, World.drewN_drewN _ _ _⟩
  · have hp : pk f n o = 0 := by simp [pk, hlt]
    rw [hp]
    clear hp
    have hi : ¬ ((o : Int) < (n : Int)) := by omega
    go_enter Try.func34, Try.ntmps34
    go_wp2
    go_quiet (fail)
    go_wp2
    go_ret
    exact ⟨rfl, _, rfl⟩

end Go.Proofs.Qxb6603796a
