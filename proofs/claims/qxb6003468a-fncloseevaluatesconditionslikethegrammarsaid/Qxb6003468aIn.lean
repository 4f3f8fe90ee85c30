import Derived.Test.Qxb6003468aBase
import Derived.OpenShut
namespace Go.Proofs.Qxb6003468a
open Go.RowKit

/-- A slice of bytes that came in. -/
theorem row_in {w : World} {x : Addr} {len cap : Nat} {zs : List Int} (hl : len ≤ cap) (hz : zs.length = cap) (hc : ∀ i, i < zs.length → w.cell? (x.add i) = some (.int .u8 (zs.getD i 0))) :
    Row w (some x) len (fun i => zs.getD i 0) := by
  by_cases h0 : len = 0
  · exact .inl h0
  · obtain ⟨b, o, spot⟩ := x
    have hc0 := hc 0 (by omega)
    have hspot : spot = none := by simpa [Addr.add] using World.cell?_spot hc0
    subst hspot
    exact .inr ⟨b, o, rfl, fun i hi => by have e := hc i (by omega); rwa [Addr.add_lit] at e⟩

theorem byt_in {zs : List Int} (h : ∀ n ∈ zs, (Lit.int .u8 n).wf = true) : Byt (fun i => zs.getD i 0) := by
  intro i
  by_cases hi : i < zs.length
  · have := bounds_u8 (h (zs.getD i 0) (by rw [List.getD_eq_getElem?_getD, List.getElem?_eq_getElem hi]; simp))
    exact this
  · have : zs.getD i 0 = 0 := by rw [List.getD_eq_getElem?_getD, List.getElem?_eq_none (by omega)]; rfl
    simp only [this]; omega

end Go.Proofs.Qxb6003468a
