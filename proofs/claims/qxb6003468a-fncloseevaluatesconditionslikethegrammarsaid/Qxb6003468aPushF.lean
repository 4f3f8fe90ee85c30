import Derived.Test.Qxb6003468aPush
import Derived.Deep.RegionLaw
namespace Go.Proofs.Qxb6003468a
open Go.RowKit

theorem own_far {w : World} {eb : Nat} {fv : Value} {n : Nat} {xs : List Value} (h : w.ownsRow (eb + 1) 33 1 fv n xs) : some eb ≠ fv.ownBlock := by
  intro e
  have := (h.lt eb e.symm).1
  omega

theorem far_facts {w W w1 : World} {o : Obj} {row : Option Nat} {eb : Nat} (hg : W.grownBy w1 row) (hW : W.heap = (w.alloc o).heap) (heb : eb < w.heap.size) (hne : some eb ≠ row) (k : Nat) :
    w1.cell? ⟨eb, k, none⟩ = w.cell? ⟨eb, k, none⟩ ∧ w1.frozen? ⟨eb, k, none⟩ = w.frozen? ⟨eb, k, none⟩ := by
  have hlt : eb < W.heap.size := by rw [hW]; simp; omega
  have e : w1.heap[eb]? = w.heap[eb]? := by
    rw [hg.block eb hlt hne, hW]
    exact Below.heap_alloc w o eb heb
  exact ⟨World.cell?_of_block (w := w) e, World.frozen?_of_block (w := w) e⟩

theorem grown_below {W W' w1 : World} {o : Obj} {fv : Value} {eb n : Nat} {xs : List Value} (hg : W'.grownBy w1 fv.ownBlock) (e1 : W'.heap = (W.alloc o).heap) (e2 : W'.os = W.os) (e3 : W'.tape = W.tape) (e4 : W'.output = W.output)
    (heb : eb < W.heap.size) (hown : W.ownsRow (eb + 1) 33 1 fv n xs) : Below eb W w1 ∧ w1.heap[eb]? = W.heap[eb]? := by
  have hsz : W'.heap.size = W.heap.size + 1 := by rw [e1]; simp
  have hblk : ∀ k, k ≤ eb → w1.heap[k]? = W.heap[k]? := by
    intro k hk
    have hne : some k ≠ fv.ownBlock := fun e => by have := (hown.lt k e.symm).1; omega
    rw [hg.block k (by omega) hne, e1]
    exact Below.heap_alloc W o k (by omega)
  exact ⟨⟨hg.os.trans e2, hg.tape.trans e3, hg.output.trans e4, by have := hg.size; omega, fun k hk => hblk k (by omega)⟩, hblk eb (Nat.le_refl _)⟩

theorem push_full_post {eb : Nat} {b any all neg : Bool} {stk : List Bool} {sk : Nat} {sa : Bool} {T : Nat} {fv nv : Value} {ws : List Nat} {w W w1 : World} {x : Int} {L : Nat}
    (h1 : W.rowIs eb 38 8 (evV any all neg T fv stk.length sk sa)) (hg : Below eb W w1 ∧ w1.heap[eb]? = W.heap[eb]?) (h2 : w1.ownsRow (eb + 1) 33 1 nv (ws.length + 1) (ws.map wv ++ [.int .u64 (T : Int)])) (h3 : Words stk T ws) (hr : L = 64 * (ws.length + 1)) (hL : L = stk.length) (hB : Below eb w W)
    (hx : x = ((setBit T (L % 64) b : Nat) : Int)) : EvPost eb w (.tuple #[]) any all neg (b :: stk) sk sa (.returned (.tuple #[])) (((w1.setCell ⟨eb, 4, none⟩ nv).setCell ⟨eb, 3, none⟩ (.int .u64 x)).setCell ⟨eb, 5, none⟩ (.int .i64 ((L : Int) + 1))) := by
  have h2' : w1.ownsRow (eb + 1) 33 1 nv (ws ++ [T]).length ((ws ++ [T]).map wv) := by
    rw [List.length_append, List.map_append]
    exact h2
  refine push_post (ws := ws ++ [T]) (fv := nv) (row_full (h1.of_block hg.2) nv) (own_set h2' _) (words_push_full h3 (by rw [← hL]; exact hr) b) hL ((hB.trans hg.1).setCell (Nat.le_refl _) _) hx

set_option maxHeartbeats 3200000 in
set_option maxRecDepth 100000 in
theorem push_full (eb : Nat) (b any all neg : Bool) (stk : List Bool) (sk : Nat) (sa : Bool) (T : Nat) (fa : Option Addr) (cap : Nat) (ws : List Nat) (w : World)
    (h1 : w.rowIs eb 38 8 (evV any all neg T (.slice fa ws.length cap) stk.length sk sa)) (h2 : w.ownsRow (eb + 1) 33 1 (.slice fa ws.length cap) ws.length (ws.map wv)) (h3 : Words stk T ws) (hL : stk.length ≤ 1048576) (hr : stk.length = 64 * (ws.length + 1)) :
    Calls Try.prog 44 #[.pointer (some ⟨eb, 3, none⟩), .bool b] w (EvPost eb w (.tuple #[]) any all neg (b :: stk) sk sa) := by
  obtain ⟨i0, hi0, hz0, hz1, hz2⟩ := info_parts Try.info33
  obtain ⟨c0, c1, c2, c3, c4, c5, c6, c7⟩ := row_cells h1
  have f3 := h1.frozen 3
  have f4 := h1.frozen 4
  have f5 := h1.frozen 5
  have heb : eb < w.heap.size := h1.lt
  have hwl : ws.length ≤ 1048576 := by have := h3.lo; omega
  have hT := h3.tl
  have H1 : Hid (w.rowIs eb 38 8 (evV any all neg T (.slice fa ws.length cap) stk.length sk sa)) := h1
  have H2 : Hid (w.ownsRow (eb + 1) 33 1 (.slice fa ws.length cap) ws.length (ws.map wv)) := h2
  have H3 : Hid (Words stk T ws) := h3
  have far : some eb ≠ (Value.slice fa ws.length cap).ownBlock := own_far h2
  have FAR : Hid (some eb ≠ (Value.slice fa ws.length cap).ownBlock) := far
  obtain ⟨L, hLd⟩ : ∃ L, L = stk.length := ⟨_, rfl⟩
  rw [← hLd] at c5 hL hr
  have HL : Hid (L = stk.length) := hLd
  clear hLd h1 h2 h3 far
  have hb1 : ((L : Int) == 64 * ((ws.length : Int) + 1)) = true := by simp; omega
  have HRR : Hid (L = 64 * (ws.length + 1)) := hr
  clear hr
  cases b
  · go_enter Try.func44, Try.ntmps44
    go_wp2
    go_quiet (fail)
    go_wp2
    obtain ⟨W, hW⟩ : ∃ W, W = w.drewN nq := ⟨_, rfl⟩
    rw [← hW]
    have d3 : W.cell? ⟨eb, 3, none⟩ = some (.int .u64 (T : Int)) := by rw [hW]; exact c3
    have d4 : W.cell? ⟨eb, 4, none⟩ = some (.slice fa ws.length cap) := by rw [hW]; exact c4
    have d5 : W.cell? ⟨eb, 5, none⟩ = some (.int .i64 (L : Int)) := by rw [hW]; exact c5
    have e3 : W.frozen? ⟨eb, 3, none⟩ = false := by rw [hW]; exact f3
    have e4 : W.frozen? ⟨eb, 4, none⟩ = false := by rw [hW]; exact f4
    have e5 : W.frozen? ⟨eb, 5, none⟩ = false := by rw [hW]; exact f5
    have hebW : eb < W.heap.size := by rw [hW]; exact heb
    have K1 : Hid (W.rowIs eb 38 8 (evV any all neg T (.slice fa ws.length cap) stk.length sk sa)) := by rw [hW]; exact H1.out
    have K2 : Hid (W.ownsRow (eb + 1) 33 1 (.slice fa ws.length cap) ws.length (ws.map wv)) := by rw [hW]; exact H2.out
    have KB : Hid (Below eb w W) := by rw [hW]; exact bel_drewN (Below.refl _ _) nq
    clear c0 c1 c2 c3 c4 c5 c6 c7 f3 f4 f5 heb H1 H2 hW
    go_region_law ((refine step_append_lies _ (by rfl) _ _ _ (by rfl) (eb + 1) 33 i0 _ 1 8 Try.underlying34 hi0 hz0 hz1 hz2 rfl (by omega) (.slice fa ws.length cap) ws.length (ws.map wv) (by rfl) (by exact K2.out.alloc _) ⟨W.heap.size, 0, none⟩ 1 1 [.int .u64 (T : Int)] (by rfl) (by rfl) (World.news_of_block (cs := #[.int .u64 (T : Int)]) (t := 33) (fr := (0, 0)) (heap_alloc_new W _)) (by simp [Value.oneCell']) (by omega) (by unfold maxLen; omega) (by omega) (by simp; omega) (W.heap.size + 1) (by simp) ?_; intro gg cap' w1 hown1 hgrow hat hlt; have q4 := far_facts hgrow (by rfl) hebW FAR.out 4; rw [d4, e4] at q4; obtain ⟨q41, q42⟩ := q4; have q3 := far_facts hgrow (by rfl) hebW FAR.out 3; rw [d3, e3] at q3; obtain ⟨q31, q32⟩ := q3; have q5 := far_facts hgrow (by rfl) hebW FAR.out 5; rw [d5, e5] at q5; obtain ⟨q51, q52⟩ := q5; have HG : Hid (Below eb W w1 ∧ w1.heap[eb]? = W.heap[eb]?) := grown_below hgrow (by rfl) (by rfl) (by rfl) (by rfl) hebW K2.out; have HO : Hid (w1.ownsRow (eb + 1) 33 1 (.slice (some ⟨gg, 0, none⟩) (ws.length + 1) cap') (ws.length + 1) (ws.map wv ++ [.int .u64 (T : Int)])) := hown1; clear hown1 hgrow hat hlt))
    all_goals go_wp2
    all_goals go_end0
    all_goals exact push_full_post K1.out HG.out HO.out H3.out HRR.out HL.out KB.out (andNot_eq hT (by omega))
  · go_enter Try.func44, Try.ntmps44
    go_wp2
    go_quiet (fail)
    go_wp2
    obtain ⟨W, hW⟩ : ∃ W, W = w.drewN nq := ⟨_, rfl⟩
    rw [← hW]
    have d3 : W.cell? ⟨eb, 3, none⟩ = some (.int .u64 (T : Int)) := by rw [hW]; exact c3
    have d4 : W.cell? ⟨eb, 4, none⟩ = some (.slice fa ws.length cap) := by rw [hW]; exact c4
    have d5 : W.cell? ⟨eb, 5, none⟩ = some (.int .i64 (L : Int)) := by rw [hW]; exact c5
    have e3 : W.frozen? ⟨eb, 3, none⟩ = false := by rw [hW]; exact f3
    have e4 : W.frozen? ⟨eb, 4, none⟩ = false := by rw [hW]; exact f4
    have e5 : W.frozen? ⟨eb, 5, none⟩ = false := by rw [hW]; exact f5
    have hebW : eb < W.heap.size := by rw [hW]; exact heb
    have K1 : Hid (W.rowIs eb 38 8 (evV any all neg T (.slice fa ws.length cap) stk.length sk sa)) := by rw [hW]; exact H1.out
    have K2 : Hid (W.ownsRow (eb + 1) 33 1 (.slice fa ws.length cap) ws.length (ws.map wv)) := by rw [hW]; exact H2.out
    have KB : Hid (Below eb w W) := by rw [hW]; exact bel_drewN (Below.refl _ _) nq
    clear c0 c1 c2 c3 c4 c5 c6 c7 f3 f4 f5 heb H1 H2 hW
    go_region_law ((refine step_append_lies _ (by rfl) _ _ _ (by rfl) (eb + 1) 33 i0 _ 1 8 Try.underlying34 hi0 hz0 hz1 hz2 rfl (by omega) (.slice fa ws.length cap) ws.length (ws.map wv) (by rfl) (by exact K2.out.alloc _) ⟨W.heap.size, 0, none⟩ 1 1 [.int .u64 (T : Int)] (by rfl) (by rfl) (World.news_of_block (cs := #[.int .u64 (T : Int)]) (t := 33) (fr := (0, 0)) (heap_alloc_new W _)) (by simp [Value.oneCell']) (by omega) (by unfold maxLen; omega) (by omega) (by simp; omega) (W.heap.size + 1) (by simp) ?_; intro gg cap' w1 hown1 hgrow hat hlt; have q4 := far_facts hgrow (by rfl) hebW FAR.out 4; rw [d4, e4] at q4; obtain ⟨q41, q42⟩ := q4; have q3 := far_facts hgrow (by rfl) hebW FAR.out 3; rw [d3, e3] at q3; obtain ⟨q31, q32⟩ := q3; have q5 := far_facts hgrow (by rfl) hebW FAR.out 5; rw [d5, e5] at q5; obtain ⟨q51, q52⟩ := q5; have HG : Hid (Below eb W w1 ∧ w1.heap[eb]? = W.heap[eb]?) := grown_below hgrow (by rfl) (by rfl) (by rfl) (by rfl) hebW K2.out; have HO : Hid (w1.ownsRow (eb + 1) 33 1 (.slice (some ⟨gg, 0, none⟩) (ws.length + 1) cap') (ws.length + 1) (ws.map wv ++ [.int .u64 (T : Int)])) := hown1; clear hown1 hgrow hat hlt))
    all_goals go_wp2
    all_goals go_end0
    all_goals exact push_full_post K1.out HG.out HO.out H3.out HRR.out HL.out KB.out (or_eq hT (by omega))

theorem own_form {w : World} {base : Nat} {fv : Value} {n : Nat} {xs : List Value} (h : w.ownsRow base 33 1 fv n xs) : ∃ fa cap, fv = .slice fa n cap := by
  rcases h.2 with ⟨rfl, rfl⟩ | ⟨g, cap, cur, rfl, _⟩
  · exact ⟨_, _, rfl⟩
  · exact ⟨_, _, rfl⟩

/-- push. -/
theorem push_any (eb : Nat) (b any all neg : Bool) (stk : List Bool) (sk : Nat) (sa : Bool) (w : World) (h : EvIs eb w any all neg stk sk sa) (hL : stk.length ≤ 1048576) :
    Calls Try.prog 44 #[.pointer (some ⟨eb, 3, none⟩), .bool b] w (EvPost eb w (.tuple #[]) any all neg (b :: stk) sk sa) := by
  obtain ⟨T, fv, ws, h1, h2, h3⟩ := h
  obtain ⟨fa, cap, rfl⟩ := own_form h2
  by_cases hr : stk.length = 64 * (ws.length + 1)
  · exact push_full eb b any all neg stk sk sa T fa cap ws w h1 h2 h3 hL hr
  · exact push_room eb b any all neg stk sk sa T fa cap ws w h1 h2 h3 hL hr

end Go.Proofs.Qxb6003468a
