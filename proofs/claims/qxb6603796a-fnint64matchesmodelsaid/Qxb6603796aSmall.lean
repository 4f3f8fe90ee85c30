import Derived.Test.Qxb6603796aBase
import Derived.Test.Qxb6603796aPlain
import Derived.OpenShut
namespace Go.Proofs.Qxb6603796a
open Go.RowKit

theorem isD_any (x : Int) (w : World) : Calls Try.prog 16 #[.int .u8 x] w fun e w' => e = .returned (.bool (isD x)) ∧ w = w' := by
  by_cases h1 : 48 ≤ x
  · by_cases h2 : x ≤ 57
    · have e : isD x = true := by simp [isD, h1, h2]
      rw [e]; clear e
      go_enter Try.func16, Try.ntmps16
      go_wp2
      go_ret
      exact ⟨rfl, rfl⟩
    · have e : isD x = false := by simp [isD, h2]
      rw [e]; clear e
      go_enter Try.func16, Try.ntmps16
      go_wp2
      go_ret
      exact ⟨rfl, rfl⟩
  · have e : isD x = false := by simp [isD, h1]
    rw [e]; clear e
    go_enter Try.func16, Try.ntmps16
    go_wp2
    go_ret
    exact ⟨rfl, rfl⟩

theorem isFE_any (x : Int) (w : World) : Calls Try.prog 15 #[.int .u8 x] w fun e w' => e = .returned (.bool (isFE x)) ∧ w = w' := by
  by_cases h1 : x = 46
  · subst h1
    have e : isFE 46 = true := by decide
    rw [e]; clear e
    go_enter Try.func15, Try.ntmps15
    go_wp2
    go_ret
    exact ⟨rfl, rfl⟩
  by_cases h2 : x = 101
  · subst h2
    have e : isFE 101 = true := by decide
    rw [e]; clear e
    go_enter Try.func15, Try.ntmps15
    go_wp2
    go_ret
    exact ⟨rfl, rfl⟩
  have g1 : (x == 46) = false := by simp [h1]
  have g2 : (x == 101) = false := by simp [h2]
  by_cases h3 : x = 69
  · subst h3
    have e : isFE 69 = true := by decide
    rw [e]; clear e g1 g2
    go_enter Try.func15, Try.ntmps15
    go_wp2
    go_ret
    exact ⟨rfl, rfl⟩
  · have g3 : (x == 69) = false := by simp [h3]
    have e : isFE x = false := by simp [isFE, g1, g2, g3]
    rw [e]; clear e
    go_enter Try.func15, Try.ntmps15
    go_wp2
    go_ret
    exact ⟨rfl, rfl⟩

/-- A slice of bytes that came in. -/
theorem row_in {w : World} {x : Addr} {len cap : Nat} {zs : List Int} (hl : len ≤ cap) (hz : zs.length = cap) (hc : ∀ i, i < zs.length → w.cell? (x.add i) = some (.int .u8 (zs.getD i 0))) :
    Row w (some x) len (fun i => zs.getD i 0) := by
  by_cases h0 : len = 0
  · exact .inl h0
  · obtain ⟨b, o, spot⟩ := x
    have hc0 := hc 0 (by omega)
    have hspot : spot = none := by simpa [Addr.add] using World.cell?_spot hc0
    subst hspot
    exact .inr ⟨b, o, rfl, fun i hi => by have e := hc i (by omega); rwa [Addr.add_lit] at e⟩

theorem byt_in {zs : List Int} (h : ∀ n ∈ zs, (Lit.int .u8 n).wf = true) : Byt (fun i => zs.getD i 0) := by
  intro i
  by_cases hi : i < zs.length
  · have := bounds_u8 (h (zs.getD i 0) (by rw [List.getD_eq_getElem?_getD, List.getElem?_eq_getElem hi]; simp))
    exact this
  · have : zs.getD i 0 = 0 := by rw [List.getD_eq_getElem?_getD, List.getElem?_eq_none (by omega)]; rfl
    simp only [this]; omega

end Go.Proofs.Qxb6603796a
