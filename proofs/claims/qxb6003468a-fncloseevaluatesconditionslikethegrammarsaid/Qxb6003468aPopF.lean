import Derived.Test.Qxb6003468aPop
import Derived.Test.Qxb6003468aPushF
namespace Go.Proofs.Qxb6003468a
open Go.RowKit

set_option maxHeartbeats 4000000 in
set_option maxRecDepth 100000 in
theorem pop_full (eb : Nat) (b any all neg : Bool) (stk : List Bool) (sk : Nat) (sa : Bool) (T V g cap : Nat) (ws : List Nat) (w : World)
    (h1 : w.rowIs eb 38 8 (evV any all neg T (.slice (some ⟨g, 0, none⟩) (ws.length + 1) cap) (b :: stk).length sk sa)) (h2 : w.ownsRow (eb + 1) 33 1 (.slice (some ⟨g, 0, none⟩) (ws.length + 1) cap) (ws.length + 1) (ws.map wv ++ [wv V]))
    (h3 : Words (b :: stk) T (ws ++ [V])) (hL : stk.length ≤ 1048576) (hr : stk.length = 64 * (ws.length + 1)) :
    Calls Try.prog 45 #[.pointer (some ⟨eb, 3, none⟩)] w (PopPost eb w b true any all neg stk sk sa) := by
  obtain ⟨c0, c1, c2, c3, c4, c5, c6, c7⟩ := row_cells h1
  have f3 := h1.frozen 3
  have f4 := h1.frozen 4
  have f5 := h1.frozen 5
  have hT := h3.tl
  have hg : eb + 1 ≤ g := (h2.lt g rfl).1
  have hcap : ws.length + 1 ≤ cap := by
    rcases h2.2 with ⟨_, h⟩ | ⟨g', cap', cur, hv, _, _, hn, _⟩
    · omega
    · cases hv; exact hn
  have hcell : w.cell? ⟨g, ws.length, none⟩ = some (.int .u64 (V : Int)) := by
    rw [h2.cellAt ws.length (by omega), List.getElem?_append_right (by simp)]
    simp [wv]
  have H1 : Hid (w.rowIs eb 38 8 (evV any all neg T (.slice (some ⟨g, 0, none⟩) (ws.length + 1) cap) (b :: stk).length sk sa)) := h1
  have H2 : Hid (w.ownsRow (eb + 1) 33 1 (.slice (some ⟨g, 0, none⟩) (ws.length + 1) cap) (ws.length + 1) (ws.map wv ++ [wv V])) := h2
  have H3 : Hid (Words (b :: stk) T (ws ++ [V])) := h3
  obtain ⟨L, hLd⟩ : ∃ L, L = stk.length := ⟨_, rfl⟩
  obtain ⟨F, hFd⟩ : ∃ F, F = ws.length := ⟨_, rfl⟩
  rw [List.length_cons, ← hLd] at c5
  rw [← hLd] at hL hr
  rw [← hFd] at c4 hr hcap hcell
  have HL : Hid (L = stk.length) := hLd
  have HF : Hid (F = ws.length) := hFd
  have HRR : Hid (L = 64 * (F + 1)) := hr
  have hFb : F ≤ 1048576 := by omega
  have hL0 : (((L + 1 : Nat) : Int) == 0) = false := by simp; omega
  have hb1 : ((L : Int) == 64 * ((F : Int) + 1)) = true := by simp; omega
  have hb2 : (0 : Int) < (F : Int) + 1 := by omega
  have hcp : (F : Int) ≤ cap := by omega
  have HBit : Hid ((bits BinOp.and IntKind.u64 (T : Int) (IntKind.u64.wrap (2 ^ (L % 64))) != 0) = b) := by
    show _ = b
    rw [and_ne hT (by omega), HL.out]
    exact words_bit H3.out
  have hbc := HBit.out
  clear hLd hFd h1 h2 h3 hr HBit
  go_enter Try.func45, Try.ntmps45
  go_wp2
  go_quiet (fail)
  go_wp2
  obtain ⟨W, hW⟩ : ∃ W, W = (w.setCell ⟨eb, 5, none⟩ (.int .i64 (L : Int))).drewN nq := ⟨_, rfl⟩
  rw [← hW]
  have d3 : W.cell? ⟨eb, 3, none⟩ = some (.int .u64 (T : Int)) := by rw [hW]; show (w.setCell ⟨eb, 5, none⟩ (.int .i64 (L : Int))).cell? ⟨eb, 3, none⟩ = _; rw [World.cell?_setCell_other _ _ _ _ (by simp)]; exact c3
  have d4 : W.cell? ⟨eb, 4, none⟩ = some (.slice (some ⟨g, 0, none⟩) (F + 1) cap) := by rw [hW]; show (w.setCell ⟨eb, 5, none⟩ (.int .i64 (L : Int))).cell? ⟨eb, 4, none⟩ = _; rw [World.cell?_setCell_other _ _ _ _ (by simp)]; exact c4
  have dg : W.cell? ⟨g, F, none⟩ = some (.int .u64 (V : Int)) := by rw [hW]; show (w.setCell ⟨eb, 5, none⟩ (.int .i64 (L : Int))).cell? ⟨g, F, none⟩ = _; rw [World.cell?_setCell_other _ _ _ _ (by simp)]; exact hcell
  have e3 : W.frozen? ⟨eb, 3, none⟩ = false := by rw [hW]; show (w.setCell ⟨eb, 5, none⟩ (.int .i64 (L : Int))).frozen? ⟨eb, 3, none⟩ = _; rw [World.frozen?_setCell]; exact f3
  have e4 : W.frozen? ⟨eb, 4, none⟩ = false := by rw [hW]; show (w.setCell ⟨eb, 5, none⟩ (.int .i64 (L : Int))).frozen? ⟨eb, 4, none⟩ = _; rw [World.frozen?_setCell]; exact f4
  have hge : ¬ g = eb := by omega
  have heg : ¬ eb = g := by omega
  have K1 : Hid (W.rowIs eb 38 8 (evV any all neg T (.slice (some ⟨g, 0, none⟩) (ws.length + 1) cap) L sk sa)) := by rw [hW]; exact row_len H1.out L
  have K2 : Hid (W.ownsRow (eb + 1) 33 1 (.slice (some ⟨g, 0, none⟩) (ws.length + 1) cap) (ws.length + 1) (ws.map wv ++ [wv V])) := by rw [hW]; exact ownsRow_setCell_below H2.out (by simp) _
  have KB : Hid (Below eb w W) := by rw [hW]; exact bel_drewN ((Below.refl eb w).setCell (p := ⟨eb, 5, none⟩) (Nat.le_refl _) _) nq
  clear c0 c1 c2 c3 c4 c5 c6 c7 f3 f4 f5 hcell H1 H2 hW
  have HP : Hid (PopPost eb w b true any all neg stk sk sa (.returned (.tuple #[.bool b, .bool true])) (((W.setCell ⟨eb, 3, none⟩ (.int .u64 (V : Int))).setCell ⟨eb, 4, none⟩ (.slice (some ⟨g, 0, none⟩) F cap)).drew)) := by
    refine ⟨rfl, ⟨V, .slice (some ⟨g, 0, none⟩) F cap, ws, ?_, ?_, words_pop_full H3.out (by rw [← HL.out, HRR.out, HF.out])⟩, ((KB.out.setCell (p := ⟨eb, 3, none⟩) (Nat.le_refl _) _).setCell (p := ⟨eb, 4, none⟩) (Nat.le_refl _) _).drew⟩
    · have e := row_full (row_top K1.out V) (.slice (some ⟨g, 0, none⟩) F cap)
      rw [HL.out] at e
      exact e
    · rw [HF.out]
      have e : W.ownsRow (eb + 1) 33 1 (.slice (some ⟨g, 0, none⟩) ws.length cap) ws.length (ws.map wv) := ownsRow_pop (by simp) K2.out
      exact own_set (own_set e _) _
  go_region
  go_wp2
  go_ret2
  exact HP.out
/-- pop, of a stack that is not empty. -/
theorem pop_cons (eb : Nat) (b any all neg : Bool) (stk : List Bool) (sk : Nat) (sa : Bool) (w : World) (h : EvIs eb w any all neg (b :: stk) sk sa) (hL : stk.length ≤ 1048576) :
    Calls Try.prog 45 #[.pointer (some ⟨eb, 3, none⟩)] w (PopPost eb w b true any all neg stk sk sa) := by
  obtain ⟨T, fv, ws, h1, h2, h3⟩ := h
  by_cases hr : stk.length = 64 * ws.length ∧ 0 < ws.length
  · obtain ⟨ws', V, rfl⟩ : ∃ ws' V, ws = ws' ++ [V] := by
      rcases List.eq_nil_or_concat ws with h | ⟨ws', V, h⟩
      · rw [h] at hr; simp at hr
      · exact ⟨ws', V, by simpa using h⟩
    rw [List.length_append, List.map_append] at h2
    rw [List.length_append] at hr
    rcases h2.2 with ⟨_, h0⟩ | ⟨g, cap, cur, rfl, _⟩
    · simp at h0
    · exact pop_full eb b any all neg stk sk sa T V g cap ws' w (by simpa using h1) h2 h3 hL (by have := hr.1; simpa using this)
  · obtain ⟨fa, cap, rfl⟩ := own_form h2
    exact pop_room eb b any all neg stk sk sa T fa cap ws w h1 h2 h3 hL hr

end Go.Proofs.Qxb6003468a
