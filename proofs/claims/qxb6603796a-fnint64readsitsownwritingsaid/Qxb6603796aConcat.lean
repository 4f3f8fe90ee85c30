import Derived.Test.Qxb6603796aBase
namespace Go.Proofs.Qxb6603796a
open Go.RowKit

/-- The first p cells are written. -/
def fillTo (F : Nat → Int) (p : Nat) : Nat → Value := fun j => if j < p then .int .u8 (F j) else .int .u8 0

theorem fill_step {wr : World} {B N p : Nat} {F : Nat → Int} {x : Int} (h : wr.rowIs B 5 N (fillTo F p)) (e : x = F p) : (wr.setCell ⟨B, p, none⟩ (.int .u8 x)).rowIs B 5 N (fillTo F (p + 1)) := by
  subst e
  refine (h.set p _).congr (fun j _ => ?_)
  by_cases e : j = p
  · subst e; simp [fillTo]
  · by_cases e2 : j < p
    · simp [fillTo, e, e2, show j < p + 1 by omega]
    · simp [fillTo, e, e2, show ¬ j < p + 1 by omega]

/-- Three texts behind one another. -/
def cat3 (f g h : Nat → Int) (nf ng : Nat) : Nat → Int := fun i => if i < nf then f i else if i < nf + ng then g (i - nf) else h (i - nf - ng)

theorem cat3_mid {f g h : Nat → Int} {nf ng i : Nat} (hi : i < ng) : cat3 f g h nf ng (nf + i) = g i := by
  simp only [cat3]
  rw [if_neg (by omega), if_pos (by omega), show nf + i - nf = i by omega]
theorem cat3_end (f g h : Nat → Int) (nf ng i : Nat) : cat3 f g h nf ng (nf + ng + i) = h i := by
  simp only [cat3]
  rw [if_neg (by omega), if_neg (by omega), show nf + ng + i - nf - ng = i by omega]

theorem row_at {w wr : World} {a : Option Addr} {n : Nat} {f : Nat → Int} (h : Row w a n f) (hB : Below w.heap.size w wr) {k : Nat} (hk : k < n) : ∃ b o, a = some ⟨b, o, none⟩ ∧ wr.cell? ⟨b, o + k, none⟩ = some (.int .u8 (f k)) := by
  rcases h with h | ⟨b, o, hx, hc⟩
  · omega
  · exact ⟨b, o, hx, cell_later hB (hc k hk)⟩

theorem fill_facts {wr : World} {B N p : Nat} {F : Nat → Int} (h : wr.rowIs B 5 N (fillTo F p)) (hp : p < N) : wr.cell? ⟨B, p, none⟩ = some (.int .u8 0) ∧ wr.frozen? ⟨B, p, none⟩ = false :=
  ⟨by simpa [fillTo] using h.cell hp, h.frozen p⟩

theorem fill_row {wr : World} {B N : Nat} {F : Nat → Int} (h : wr.rowIs B 5 N (fillTo F N)) : Row wr (some ⟨B, 0, none⟩) N F :=
  .inr ⟨B, 0, rfl, fun i hi => by simpa [fillTo, hi] using h.cell hi⟩

set_option maxHeartbeats 1000000 in
theorem concat_any (a1 a2 a3 : Option Addr) (n1 c1 n2 c2 n3 c3 : Nat) (f1 f2 f3 : Nat → Int) (w : World) (h1 : Row w a1 n1 f1) (h2 : Row w a2 n2 f2) (h3 : Row w a3 n3 f3) (hn1 : n1 ≤ 1048576) (hn2 : n2 ≤ 1048576) (hn3 : n3 ≤ 1048576) :
    Calls Try.prog 21 #[.slice a1 n1 c1, .slice a2 n2 c2, .slice a3 n3 c3] w fun e w' => ∃ a', e = .returned (.slice a' (n1 + n2 + n3) (n1 + n2 + n3)) ∧ Row w' a' (n1 + n2 + n3) (cat3 f1 f2 f3 n1 n2) ∧ Below w.heap.size w w' := by
  have hmk : ∀ w, (Instr.makeSlice 22 (.int .i64 ((n1 : Int) + n2 + n3)) (.int .i64 ((n1 : Int) + n2 + n3))).run Try.prog w = .ok (.slice (some ⟨w.heap.size, 0, none⟩) (n1 + n2 + n3) (n1 + n2 + n3)) (w.alloc (.cells (madeCells #[.int .u8 0] (n1 + n2 + n3)) 5)) := by
    have e := run_make_row' (P := Try.prog) 22 5 (.int .u8 0) 1 Try.underlying22 Try.info5 rfl .i64 .i64 (n1 + n2 + n3) (by omega) (by omega)
    simpa using e
  have Hr0 : Hid ((w.alloc (.cells (madeCells #[.int .u8 0] (n1 + n2 + n3)) 5)).rowIs w.heap.size 5 (n1 + n2 + n3) (fillTo (cat3 f1 f2 f3 n1 n2) 0)) := (World.rowIs_made w (.int .u8 0) (n1 + n2 + n3) 5).congr (fun j _ => by simp [fillTo])
  have Hb0 : Hid (Below w.heap.size w (w.alloc (.cells (madeCells #[.int .u8 0] (n1 + n2 + n3)) 5))) := (Below.refl _ _).alloc (Nat.le_refl _) _
  have H1 : Hid (Row w a1 n1 f1) := h1
  have H2 : Hid (Row w a2 n2 f2) := h2
  have H3 : Hid (Row w a3 n3 f3) := h3
  clear h1 h2 h3
  go_enter Try.func21, Try.ntmps21
  go_wp2
  clear hmk
  go_loopg [8] n1 (fun g i wr => ∃ k : Nat, k ≤ n1 ∧ g = n1 - k ∧ i = .int .i64 k ∧ wr.rowIs w.heap.size 5 (n1 + n2 + n3) (fillTo (cat3 f1 f2 f3 n1 n2) k) ∧ Below w.heap.size w wr)
  case atStart => exact ⟨0, Nat.zero_le _, rfl, rfl, Hr0.out, Hb0.out⟩
  case round =>
    obtain ⟨k, hk, rfl, rfl, hR, hB⟩ := hrel
    clear Hr0 Hb0
    by_cases hlt : k < n1
    · obtain ⟨b, o, rfl, g1⟩ := row_at H1.out hB hlt
      obtain ⟨g2, g3⟩ := fill_facts hR (by omega)
      have HR : Hid ((wr.setCell ⟨w.heap.size, k, none⟩ (.int .u8 (f1 k))).rowIs w.heap.size 5 (n1 + n2 + n3) (fillTo (cat3 f1 f2 f3 n1 n2) (k + 1))) := fill_step hR (by simp [cat3, hlt])
      have HB : Hid (Below w.heap.size w (wr.setCell ⟨w.heap.size, k, none⟩ (.int .u8 (f1 k)))) := hB.setCell (Nat.le_refl _) _
      have hb2 : (k : Int) < (n1 : Int) + n2 + n3 := by omega
      clear hR hB
      go_wp2
      go_roundg (n1 - (k + 1))
      case measure => omega
      case rel => exact ⟨k + 1, by omega, rfl, by go_num, HR.out, HB.out⟩
    · obtain rfl : k = n1 := by omega
      go_wp2
      have Hr0 : Hid (wr.rowIs w.heap.size 5 (k + n2 + n3) (fillTo (cat3 f1 f2 f3 k n2) k)) := hR
      have Hb0 : Hid (Below w.heap.size w wr) := hB
      clear hR hB
      go_loopg [9] n2 (fun g i wr => ∃ k2 : Nat, k2 ≤ n2 ∧ g = n2 - k2 ∧ i = .int .i64 k2 ∧ wr.rowIs w.heap.size 5 (k + n2 + n3) (fillTo (cat3 f1 f2 f3 k n2) (k + k2)) ∧ Below w.heap.size w wr)
      case atStart => exact ⟨0, Nat.zero_le _, rfl, rfl, Hr0.out, Hb0.out⟩
      case round =>
        obtain ⟨k2, hk2, rfl, rfl, hR, hB⟩ := hrel
        clear Hr0 Hb0
        by_cases hlt2 : k2 < n2
        · obtain ⟨b, o, rfl, g1⟩ := row_at H2.out hB hlt2
          obtain ⟨g2, g3⟩ := fill_facts hR (by omega)
          have HR : Hid ((wr.setCell ⟨w.heap.size, k + k2, none⟩ (.int .u8 (f2 k2))).rowIs w.heap.size 5 (k + n2 + n3) (fillTo (cat3 f1 f2 f3 k n2) (k + k2 + 1))) := fill_step hR (cat3_mid hlt2).symm
          have HB : Hid (Below w.heap.size w (wr.setCell ⟨w.heap.size, k + k2, none⟩ (.int .u8 (f2 k2)))) := hB.setCell (Nat.le_refl _) _
          have hb2 : (k : Int) + k2 < (k : Int) + n2 + n3 := by omega
          clear hR hB
          go_wp2
          go_roundg (n2 - (k2 + 1))
          case measure => omega
          case rel => exact ⟨k2 + 1, by omega, rfl, by go_num, HR.out, HB.out⟩
        · obtain rfl : k2 = n2 := by omega
          go_wp2
          have Hr0 : Hid (wr.rowIs w.heap.size 5 (k + k2 + n3) (fillTo (cat3 f1 f2 f3 k k2) (k + k2))) := hR
          have Hb0 : Hid (Below w.heap.size w wr) := hB
          clear hR hB
          go_loopg [10] n3 (fun g i wr => ∃ k3 : Nat, k3 ≤ n3 ∧ g = n3 - k3 ∧ i = .int .i64 k3 ∧ wr.rowIs w.heap.size 5 (k + k2 + n3) (fillTo (cat3 f1 f2 f3 k k2) (k + k2 + k3)) ∧ Below w.heap.size w wr)
          case atStart => exact ⟨0, Nat.zero_le _, rfl, rfl, Hr0.out, Hb0.out⟩
          case round =>
            obtain ⟨k3, hk3, rfl, rfl, hR, hB⟩ := hrel
            clear Hr0 Hb0
            by_cases hlt3 : k3 < n3
            · obtain ⟨b, o, rfl, g1⟩ := row_at H3.out hB hlt3
              obtain ⟨g2, g3⟩ := fill_facts hR (by omega)
              have HR : Hid ((wr.setCell ⟨w.heap.size, k + k2 + k3, none⟩ (.int .u8 (f3 k3))).rowIs w.heap.size 5 (k + k2 + n3) (fillTo (cat3 f1 f2 f3 k k2) (k + k2 + k3 + 1))) := fill_step hR (cat3_end _ _ _ _ _ _).symm
              have HB : Hid (Below w.heap.size w (wr.setCell ⟨w.heap.size, k + k2 + k3, none⟩ (.int .u8 (f3 k3)))) := hB.setCell (Nat.le_refl _) _
              have hb2 : (k : Int) + k2 + k3 < (k : Int) + k2 + n3 := by omega
              clear hR hB
              go_wp2
              go_roundg (n3 - (k3 + 1))
              case measure => omega
              case rel => exact ⟨k3 + 1, by omega, rfl, by go_num, HR.out, HB.out⟩
            · obtain rfl : k3 = n3 := by omega
              go_wp2
              go_ret
              exact ⟨_, rfl, fill_row hR, hB⟩

end Go.Proofs.Qxb6603796a
