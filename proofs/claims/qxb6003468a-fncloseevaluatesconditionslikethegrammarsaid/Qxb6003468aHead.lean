/-
  The dump's head, read word by word: the kernel's own reading of so long a string ('String.toList' of 911 signs) wants more than 12 GB; split at its first three blanks it wants a second.
-/
import Derived.Test.Qxb6003468aRows
import Derived.ProofKit
namespace Go.Proofs.Qxb6003468a

theorem ws_split : ∀ (a b : List Char), (∀ c ∈ a, c ≠ ' ') → wordsSigns (a ++ ' ' :: b) = a :: wordsSigns b
  | [], b, _ => rfl
  | c :: a, b, h => by
    have e := ws_split a b (fun x hx => h x (by simp [hx]))
    have hc : c ≠ ' ' := h c (by simp)
    rw [List.cons_append, wordsSigns.eq_def]
    split
    · rename_i h0; cases h0
    · rename_i r h0
      injection h0 with h1 h2
      exact absurd h1 hc
    · rename_i c' r h1 h0
      injection h0 with h2 h3
      subst h2 h3
      rw [e]

def headW1 : List Nat := [104, 97, 114, 110, 101, 115, 115]
def headW2 : List Nat := [102, 49, 57, 101, 48, 51, 100, 53, 102, 99, 98, 98, 56, 51, 50, 56, 99, 97, 49, 52, 100, 54, 100, 49, 57, 100, 97, 98, 100, 100, 100, 97, 52, 53, 50, 53, 100, 101, 55, 53, 102, 54, 50, 55, 99, 55, 98, 48, 50, 101, 49, 52, 98, 49, 49, 56, 49, 98, 48, 48, 99, 97, 98, 98]
def headW3 : List Nat := [99, 117, 116]
def headW4 : List Nat := [97, 116, 32, 101, 120, 97, 109, 112, 108, 101, 46, 99, 111, 109, 47, 99, 111, 110, 102, 105, 103, 45, 118, 97, 108, 117, 101, 45, 114, 101, 115, 111, 108, 118, 101, 114, 47, 99, 111, 110, 102, 105, 103, 45, 118, 97, 108, 117, 101, 45, 114, 101, 115, 111, 108, 118, 101, 114, 47, 122, 122, 108, 97, 119, 115, 95, 105, 110, 116, 101, 114, 110, 97, 108, 95, 115, 121, 110, 116, 97, 120, 95, 98, 50, 46, 70, 110, 67, 117, 116, 79, 112, 101, 114, 97, 116, 111, 114, 82, 101, 98, 117, 105, 108, 100, 115, 84, 101, 120, 116, 32, 101, 120, 97, 109, 112, 108, 101, 46, 99, 111, 109, 47, 99, 111, 110, 102, 105, 103, 45, 118, 97, 108, 117, 101, 45, 114, 101, 115, 111, 108, 118, 101, 114, 47, 99, 111, 110, 102, 105, 103, 45, 118, 97, 108, 117, 101, 45, 114, 101, 115, 111, 108, 118, 101, 114, 47, 122, 122, 108, 97, 119, 115, 95, 105, 110, 116, 101, 114, 110, 97, 108, 95, 115, 121, 110, 116, 97, 120, 95, 98, 50, 46, 70, 110, 67, 117, 116, 79, 112, 101, 114, 97, 116, 111, 114, 83, 116, 97, 98, 108, 101, 85, 110, 100, 101, 114, 65, 112, 112, 101, 110, 100, 101, 100, 84, 101, 120, 116, 32, 101, 120, 97, 109, 112, 108, 101, 46, 99, 111, 109, 47, 99, 111, 110, 102, 105, 103, 45, 118, 97, 108, 117, 101, 45, 114, 101, 115, 111, 108, 118, 101, 114, 47, 99, 111, 110, 102, 105, 103, 45, 118, 97, 108, 117, 101, 45, 114, 101, 115, 111, 108, 118, 101, 114, 47, 122, 122, 108, 97, 119, 115, 95, 105, 110, 116, 101, 114, 110, 97, 108, 95, 115, 121, 110, 116, 97, 120, 95, 98, 50, 46, 70, 110, 67, 108, 111, 115, 101, 82, 101, 112, 111, 114, 116, 115, 87, 104, 101, 116, 104, 101, 114, 65, 80, 97, 114, 101, 110, 116, 104, 101, 115, 105, 115, 73, 115, 79, 112, 101, 110, 32, 101, 120, 97, 109, 112, 108, 101, 46, 99, 111, 109, 47, 99, 111, 110, 102, 105, 103, 45, 118, 97, 108, 117, 101, 45, 114, 101, 115, 111, 108, 118, 101, 114, 47, 99, 111, 110, 102, 105, 103, 45, 118, 97, 108, 117, 101, 45, 114, 101, 115, 111, 108, 118, 101, 114, 47, 122, 122, 108, 97, 119, 115, 95, 105, 110, 116, 101, 114, 110, 97, 108, 95, 115, 121, 110, 116, 97, 120, 95, 98, 50, 46, 70, 110, 67, 108, 111, 115, 101, 69, 118, 97, 108, 117, 97, 116, 101, 115, 67, 111, 110, 100, 105, 116, 105, 111, 110, 115, 76, 105, 107, 101, 84, 104, 101, 71, 114, 97, 109, 109, 97, 114, 32, 101, 120, 97, 109, 112, 108, 101, 46, 99, 111, 109, 47, 99, 111, 110, 102, 105, 103, 45, 118, 97, 108, 117, 101, 45, 114, 101, 115, 111, 108, 118, 101, 114, 47, 99, 111, 110, 102, 105, 103, 45, 118, 97, 108, 117, 101, 45, 114, 101, 115, 111, 108, 118, 101, 114, 47, 122, 122, 108, 97, 119, 115, 95, 105, 110, 116, 101, 114, 110, 97, 108, 95, 115, 121, 110, 116, 97, 120, 95, 98, 50, 46, 70, 110, 79, 112, 116, 105, 111, 110, 76, 105, 110, 101, 115, 78, 101, 120, 116, 77, 97, 116, 99, 104, 101, 115, 65, 76, 105, 110, 101, 66, 121, 76, 105, 110, 101, 87, 97, 108, 107, 32, 101, 120, 97, 109, 112, 108, 101, 46, 99, 111, 109, 47, 99, 111, 110, 102, 105, 103, 45, 118, 97, 108, 117, 101, 45, 114, 101, 115, 111, 108, 118, 101, 114, 47, 99, 111, 110, 102, 105, 103, 45, 118, 97, 108, 117, 101, 45, 114, 101, 115, 111, 108, 118, 101, 114, 47, 122, 122, 108, 97, 119, 115, 95, 105, 110, 116, 101, 114, 110, 97, 108, 95, 115, 121, 110, 116, 97, 120, 95, 98, 50, 46, 70, 110, 79, 112, 116, 105, 111, 110, 76, 105, 110, 101, 115, 78, 101, 120, 116, 82, 101, 117, 115, 101, 100, 65, 103, 114, 101, 101, 115, 87, 105, 116, 104, 70, 114, 101, 115, 104, 32, 101, 120, 97, 109, 112, 108, 101, 46, 99, 111, 109, 47, 99, 111, 110, 102, 105, 103, 45, 118, 97, 108, 117, 101, 45, 114, 101, 115, 111, 108, 118, 101, 114, 47, 99, 111, 110, 102, 105, 103, 45, 118, 97, 108, 117, 101, 45, 114, 101, 115, 111, 108, 118, 101, 114, 47, 122, 122, 108, 97, 119, 115, 95, 105, 110, 116, 101, 114, 110, 97, 108, 95, 115, 121, 110, 116, 97, 120, 95, 98, 50, 46, 70, 110, 79, 112, 116, 105, 111, 110, 76, 105, 110, 101, 115, 78, 101, 120, 116, 82, 101, 97, 100, 97, 98, 108, 101, 73, 115, 78, 111, 76, 97, 116, 101, 114]
set_option maxRecDepth 100000 in
theorem head_is : Try.prog.initOrder = String.ofList (headW1.map Char.ofNat ++ ' ' :: (headW2.map Char.ofNat ++ ' ' :: (headW3.map Char.ofNat ++ ' ' :: headW4.map Char.ofNat))) := by kernel_rfl
theorem head_n1 : ∀ c ∈ headW1.map Char.ofNat, c ≠ ' ' := by decide +kernel
theorem head_n2 : ∀ c ∈ headW2.map Char.ofNat, c ≠ ' ' := by decide +kernel
theorem head_n3 : ∀ c ∈ headW3.map Char.ofNat, c ≠ ' ' := by decide +kernel
theorem head_words : wordsSigns Try.prog.initOrder.toList = headW1.map Char.ofNat :: headW2.map Char.ofNat :: headW3.map Char.ofNat :: wordsSigns (headW4.map Char.ofNat) := by
  rw [head_is, String.toList_ofList, ws_split _ _ head_n1, ws_split _ _ head_n2, ws_split _ _ head_n3]
theorem head_behind : ∀ R, behindMainWord (headW1.map Char.ofNat :: headW2.map Char.ofNat :: headW3.map Char.ofNat :: R) = ['c', 'u', 't'] :: R := fun R => by kernel_rfl
theorem head_cut : behindMainWord (wordsSigns Try.prog.initOrder.toList) = ['c', 'u', 't'] :: wordsSigns (headW4.map Char.ofNat) := by rw [head_words, head_behind]

theorem may_cut (P : Program) (R : List (List Char)) (h : behindMainWord (wordsSigns P.initOrder.toList) = ['c', 'u', 't'] :: R) (h1 : P.laysLater = false) (h2 : P.bearsReflect = false) (h3 : P.doorFits [] = true) : P.mayEnter = true := by
  unfold Program.mayEnter
  rw [h]
  have g1 : stripLifts liftWords (['c', 'u', 't'] :: R) = ([], ['c', 'u', 't'] :: R) := by kernel_rfl
  simp [g1, h1, h2, h3]
theorem final_cut (P : Program) (R : List (List Char)) (h : behindMainWord (wordsSigns P.initOrder.toList) = ['c', 'u', 't'] :: R) : P.liftsFinal = false := by
  unfold Program.liftsFinal Program.headLifts
  rw [h]
  have g1 : stripLifts liftWords (['c', 'u', 't'] :: R) = ([], ['c', 'u', 't'] :: R) := by kernel_rfl
  simp [g1]
theorem make_cut (P : Program) (R : List (List Char)) (h : behindMainWord (wordsSigns P.initOrder.toList) = ['c', 'u', 't'] :: R) : P.make = some .cut := by
  unfold Program.make
  rw [h]
  have e : (['c', 'u', 't'] == "gc".toList || ['c', 'u', 't'] == "spec".toList) = false := by kernel_rfl
  have e2 : (['c', 'u', 't'] == "cut".toList || ['c', 'u', 't'] == "finals".toList && R.head? == some "cut".toList) = true := by kernel_rfl
  simp only [e, e2]
  rfl
theorem head_later : Try.prog.laysLater = false := by kernel_rfl
theorem head_refl : Try.prog.bearsReflect = false := by kernel_rfl
theorem head_door : Try.prog.doorFits [] = true := by kernel_rfl
theorem head_may : Try.prog.mayEnter = true := may_cut Try.prog _ head_cut head_later head_refl head_door
theorem head_final : Try.prog.liftsFinal = false := final_cut Try.prog _ head_cut
theorem head_make : Try.prog.make = some .cut := make_cut Try.prog _ head_cut

end Go.Proofs.Qxb6003468a
