/-
  Shared by all claims of this seat: what a slice of bytes holds ('Row'), and how it stands when the world grows.
-/
import Derived.Test.Qxb6003468aRows
import Derived.WalkKit
import Derived.WalkSpells
import Derived.Below
import Derived.Deep.OwnRows
import Derived.Deep.LoopGhost
namespace Go.Proofs.Qxb6003468a
open Go.RowKit

/-- The slice at a, of n bytes, holds the numbers f 0, f 1, .. -/
def Row (w : World) (a : Option Addr) (n : Nat) (f : Nat → Int) : Prop :=
  n = 0 ∨ ∃ b o, a = some ⟨b, o, none⟩ ∧ ∀ i, i < n → w.cell? ⟨b, o + i, none⟩ = some (.int .u8 (f i))

theorem Row.keep {w w' : World} {a : Option Addr} {n : Nat} {f : Nat → Int} (h : Row w a n f) (hb : Below w.heap.size w w') : Row w' a n f := by
  rcases h with h | ⟨b, o, ha, hc⟩
  · exact .inl h
  · exact .inr ⟨b, o, ha, fun i hi => cell_later hb (hc i hi)⟩

theorem Row.congr {w : World} {a : Option Addr} {n : Nat} {f g : Nat → Int} (h : Row w a n f) (e : ∀ i, i < n → f i = g i) : Row w a n g := by
  rcases h with h | ⟨b, o, ha, hc⟩
  · exact .inl h
  · exact .inr ⟨b, o, ha, fun i hi => by rw [hc i hi, e i hi]⟩

/-- Bytes. -/
def Byt (f : Nat → Int) : Prop := ∀ i, 0 ≤ f i ∧ f i ≤ 255

theorem Try.info5 : (Try.prog.info? 5).map (fun i => (i.zero, i.size, i.bytes)) = some (some (.int .u8 0), 1, 1) := by kernel_rfl

end Go.Proofs.Qxb6003468a
