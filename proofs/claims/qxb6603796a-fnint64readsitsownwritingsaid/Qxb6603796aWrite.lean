import Derived.Test.Qxb6603796aConcat
import Derived.Test.Qxb6603796aPlain
namespace Go.Proofs.Qxb6603796a
open Go.RowKit

/-- The digit of M at place j, as a byte. -/
def dg (M j : Nat) : Int := 48 + ((M / 10 ^ j % 10 : Nat) : Int)
def sl (neg : Bool) : Nat := if neg = true then 1 else 0
/-- The text of M in nd digits, its sign ahead. -/
def wrt (neg : Bool) (M nd : Nat) : Nat → Int := fun i => if neg = true ∧ i = 0 then 45 else dg M (nd - 1 - (i - sl neg))
/-- The buffer behind t rounds. -/
def bufF (M t : Nat) : Nat → Value := fun i => if 20 ≤ i + t then .int .u8 (dg M (19 - i)) else .int .u8 0

theorem pow_bound {M t : Nat} (hM : M < 18446744073709551616) (h : t = 0 ∨ M / 10 ^ t ≠ 0) : t ≤ 19 := by
  rcases h with h | h
  · omega
  · by_cases ht : t ≤ 19
    · exact ht
    · exfalso
      have h1 : 10 ^ 20 ≤ 10 ^ t := Nat.pow_le_pow_right (by omega) (by omega)
      have h2 : M / 10 ^ t = 0 := Nat.div_eq_of_lt (by omega)
      exact h h2

theorem buf_step {wr : World} {B M t kk : Nat} {x : Int} (h : wr.rowIs B 55 20 (bufF M t)) (hk : t + (kk + 1) = 20) (hx : x = dg M t) : (wr.setCell ⟨B, kk, none⟩ (.int .u8 x)).rowIs B 55 20 (bufF M (t + 1)) := by
  subst hx
  refine (h.set kk _).congr (fun j _ => ?_)
  by_cases e : j = kk
  · subst e
    have e2 : 19 - j = t := by omega
    simp only [bufF, if_true, e2, show 20 ≤ j + (t + 1) by omega, if_true]
  · simp only [bufF, if_neg e]
    by_cases e2 : 20 ≤ j + t
    · rw [if_pos e2, if_pos (by omega)]
    · rw [if_neg e2, if_neg (by omega)]

theorem buf_start (M : Nat) (w : World) : (w.alloc (.cells #[.int .u8 0, .int .u8 0, .int .u8 0, .int .u8 0, .int .u8 0, .int .u8 0, .int .u8 0, .int .u8 0, .int .u8 0, .int .u8 0, .int .u8 0, .int .u8 0, .int .u8 0, .int .u8 0, .int .u8 0, .int .u8 0, .int .u8 0, .int .u8 0, .int .u8 0, .int .u8 0] 55)).rowIs w.heap.size 55 20 (bufF M 0) := by
  refine World.rowIs_alloc w _ 55 _ (fun i hi => ?_)
  have hi' : i < 20 := hi
  have e : bufF M 0 i = .int .u8 0 := by simp [bufF]; omega
  rw [e]
  have e2 : (#[.int .u8 0, .int .u8 0, .int .u8 0, .int .u8 0, .int .u8 0, .int .u8 0, .int .u8 0, .int .u8 0, .int .u8 0, .int .u8 0, .int .u8 0, .int .u8 0, .int .u8 0, .int .u8 0, .int .u8 0, .int .u8 0, .int .u8 0, .int .u8 0, .int .u8 0, .int .u8 0] : Array Value) = (List.replicate 20 (.int .u8 0)).toArray := rfl
  rw [e2, List.getElem?_toArray, List.getElem?_replicate, if_pos hi']

theorem dg_eq (M t : Nat) : (48 : Int) + ((M / 10 ^ t : Nat) : Int) % 10 = dg M t := by
  unfold dg; omega

theorem out_start0 (w2 : World) (F : Nat → Int) (n : Nat) : (w2.alloc (.cells (madeCells #[.int .u8 0] n) 5)).rowIs w2.heap.size 5 n (fillTo F 0) :=
  (World.rowIs_made w2 (.int .u8 0) n 5).congr (fun j _ => by simp [fillTo])
theorem out_start1 (w2 : World) (F : Nat → Int) (n : Nat) (h : F 0 = 45) : (w2.alloc (.cells ((madeCells #[.int .u8 0] n).setIfInBounds 0 (.int .u8 45)) 5)).rowIs w2.heap.size 5 n (fillTo F 1) := by
  have e := fill_step (out_start0 w2 F n) h.symm
  rw [World.setCell_alloc_at _ _ _ _ _ rfl] at e
  exact e

theorem made_zero {n : Nat} (h : 0 < n) : (madeCells #[Value.int .u8 0] n)[0]? = some (.int .u8 0) := by
  simp [madeCells, h, Nat.mod_one]

theorem nz_next {t m M : Nat} (h : t = 0 ∨ m ≠ 0) (hm : m = M / 10 ^ t) : t + 1 = 1 ∨ M / 10 ^ (t + 1 - 1) ≠ 0 := by
  rcases h with h | h
  · exact .inl (by omega)
  · exact .inr (by rw [Nat.add_sub_cancel, ← hm]; exact h)

/-- What 'writeDecimal' leaves. -/
def WrPost (neg : Bool) (M : Nat) (w : World) (e : Ending) (w' : World) : Prop :=
  ∃ nd a', 1 ≤ nd ∧ nd ≤ 20 ∧ M / 10 ^ nd = 0 ∧ (nd = 1 ∨ M / 10 ^ (nd - 1) ≠ 0) ∧ e = .returned (.slice a' (sl neg + nd) (sl neg + nd)) ∧ Row w' a' (sl neg + nd) (wrt neg M nd) ∧ Below w.heap.size w w'

set_option maxHeartbeats 1000000 in
theorem write_any (neg : Bool) (M : Nat) (hM : M < 18446744073709551616) (w : World) :
    Calls Try.prog 20 #[.bool neg, .int .u64 M] w (WrPost neg M w) := by
  have Hs := buf_start M w
  have HS : Hid ((w.alloc (.cells #[.int .u8 0, .int .u8 0, .int .u8 0, .int .u8 0, .int .u8 0, .int .u8 0, .int .u8 0, .int .u8 0, .int .u8 0, .int .u8 0, .int .u8 0, .int .u8 0, .int .u8 0, .int .u8 0, .int .u8 0, .int .u8 0, .int .u8 0, .int .u8 0, .int .u8 0, .int .u8 0] 55)).rowIs w.heap.size 55 20 (bufF M 0)) := Hs
  clear Hs
  go_enter Try.func20, Try.ntmps20
  go_wp2
  go_loopg [1, 6] 20 (fun g m k wr => ∃ t kk : Nat, t + (kk + 1) = 20 ∧ g = kk + 1 ∧ k = .int .i64 ((kk + 1 : Nat) : Int) ∧ m = .int .u64 ((M / 10 ^ t : Nat) : Int) ∧ (t = 0 ∨ M / 10 ^ t ≠ 0) ∧ wr.rowIs w.heap.size 55 20 (bufF M t) ∧ Below w.heap.size w wr)
  case atStart => exact ⟨0, 19, rfl, rfl, rfl, by simp, .inl rfl, HS.out, (Below.refl _ _).alloc (Nat.le_refl _) _⟩
  case round =>
    obtain ⟨t, kk, ht, rfl, rfl, rfl, hnz, hR, hB⟩ := hrel
    clear HS
    have g1 : wr.cell? ⟨w.heap.size, kk, none⟩ = some (.int .u8 0) := by have := hR.cell (i := kk) (by omega); rw [this]; simp [bufF]; omega
    have g2 : wr.frozen? ⟨w.heap.size, kk, none⟩ = false := hR.frozen kk
    have HR : Hid ((wr.setCell ⟨w.heap.size, kk, none⟩ (.int .u8 (48 + ((M / 10 ^ t : Nat) : Int) % 10))).rowIs w.heap.size 55 20 (bufF M (t + 1))) := buf_step hR ht (dg_eq M t)
    have HB : Hid (Below w.heap.size w (wr.setCell ⟨w.heap.size, kk, none⟩ (.int .u8 (48 + ((M / 10 ^ t : Nat) : Int) % 10)))) := hB.setCell (Nat.le_refl _) _
    have hlt : w.heap.size < wr.heap.size := hR.lt
    have hle : M / 10 ^ t ≤ M := Nat.div_le_self _ _
    have hsucc : M / 10 ^ (t + 1) = M / 10 ^ t / 10 := by rw [Nat.pow_succ, Nat.div_div_eq_div_mul]
    obtain ⟨m, hm⟩ : ∃ m, m = M / 10 ^ t := ⟨_, rfl⟩
    rw [← hm] at HR HB hle hsucc hnz
    rw [← hm]
    have Hm : Hid (m = M / 10 ^ t) := hm
    have Hsucc : Hid (M / 10 ^ (t + 1) = m / 10) := hsucc
    clear hR hB hm hsucc
    by_cases hz : m / 10 = 0
    · have hz2 : ((m : Int) / 10 == 0) = true := by simp; omega
      have htn : (20 : Int) - (kk : Int) = (t + 1 : Nat) := by omega
      have hmk0 : ∀ w, (Instr.makeSlice 22 (.int .i64 ((20 : Int) - (kk : Int))) (.int .i64 ((20 : Int) - (kk : Int)))).run Try.prog w = .ok (.slice (some ⟨w.heap.size, 0, none⟩) (t + 1) (t + 1)) (w.alloc (.cells (madeCells #[.int .u8 0] (t + 1)) 5)) := by
        rw [htn]
        exact run_make_row' (P := Try.prog) 22 5 (.int .u8 0) 1 Try.underlying22 Try.info5 rfl .i64 .i64 (t + 1) (by omega) (by omega)
      have hmk1 : ∀ w, (Instr.makeSlice 22 (.int .i64 (1 + ((20 : Int) - (kk : Int)))) (.int .i64 (1 + ((20 : Int) - (kk : Int))))).run Try.prog w = .ok (.slice (some ⟨w.heap.size, 0, none⟩) (1 + (t + 1)) (1 + (t + 1))) (w.alloc (.cells (madeCells #[.int .u8 0] (1 + (t + 1))) 5)) := by
        rw [htn]
        have e := run_make_row' (P := Try.prog) 22 5 (.int .u8 0) 1 Try.underlying22 Try.info5 rfl .i64 .i64 (1 + (t + 1)) (by omega) (by omega)
        rw [show (((1 + (t + 1) : Nat)) : Int) = 1 + ((t + 1 : Nat) : Int) from by omega] at e
        exact e
      clear htn
      obtain ⟨w2, hw2⟩ : ∃ w2, wr.setCell ⟨w.heap.size, kk, none⟩ (.int .u8 (48 + (m : Int) % 10)) = w2 := ⟨_, rfl⟩
      rw [hw2] at HR HB
      have hlt2 : w.heap.size < w2.heap.size := HR.out.lt
      cases neg
      · clear hmk1
        have hc0 : (madeCells #[Value.int .u8 0] (1 + (t + 1)))[0]? = some (.int .u8 0) := made_zero (by omega)
        go_wp2
        clear hmk0 hc0
        go_loopg [10] (t + 1) (fun g i w3 => ∃ j : Nat, j ≤ t + 1 ∧ g = t + 1 - j ∧ i = .int .i64 j ∧ w3.rowIs w2.heap.size 5 (t + 1) (fillTo (wrt false M (t + 1)) (j)) ∧ w3.rowIs w.heap.size 55 20 (bufF M (t + 1)) ∧ Below w.heap.size w w3)
        case atStart => exact ⟨0, Nat.zero_le _, rfl, rfl, out_start0 _ _ _, HR.out.alloc _, HB.out.alloc (Nat.le_of_lt hlt2) _⟩
        case round =>
          obtain ⟨j, hj, rfl, rfl, hO, hF, hB⟩ := hrel
          clear hw2 HR HB
          by_cases hjt : j < t + 1
          · obtain ⟨o1, o2⟩ := fill_facts hO (by omega)
            have b1 : wr.cell? ⟨w.heap.size, kk + j, none⟩ = some (.int .u8 (dg M (t - j))) := by
              rw [hF.cell (i := kk + j) (by omega)]
              simp only [bufF]
              rw [if_pos (by omega), show 19 - (kk + j) = t - j by omega]
            have HO : Hid ((wr.setCell ⟨w2.heap.size, j, none⟩ (.int .u8 (dg M (t - j)))).rowIs w2.heap.size 5 (t + 1) (fillTo (wrt false M (t + 1)) (j + 1))) := fill_step hO (by simp [wrt, sl])
            have HF : Hid ((wr.setCell ⟨w2.heap.size, j, none⟩ (.int .u8 (dg M (t - j)))).rowIs w.heap.size 55 20 (bufF M (t + 1))) := hF.setOther (by show w.heap.size ≠ w2.heap.size; omega) _
            have HB : Hid (Below w.heap.size w (wr.setCell ⟨w2.heap.size, j, none⟩ (.int .u8 (dg M (t - j))))) := hB.setCell (Nat.le_of_lt hlt2) _
            have hi1 : (j : Int) < 20 - (kk : Int) := by omega
            have hi2 : (kk : Int) + j < 20 := by omega
            have hi3 : (j : Int) < ((t + 1 : Nat) : Int) := by omega
            clear hO hF hB
            go_wp2
            go_roundg (t + 1 - (j + 1))
            case measure => omega
            case rel => exact ⟨j + 1, by omega, rfl, by go_num, HO.out, HF.out, HB.out⟩
          · have hi1 : ¬ ((j : Int) < 20 - (kk : Int)) := by omega
            obtain rfl : j = t + 1 := by omega
            go_wp2
            go_ret
            exact ⟨t + 1, some ⟨w2.heap.size, 0, none⟩, by omega, by omega, by rw [Hsucc.out]; exact hz, nz_next hnz Hm.out, by simp [sl], by simpa [sl] using fill_row hO, hB⟩
      · clear hmk0
        have hc0 : (madeCells #[Value.int .u8 0] (1 + (t + 1)))[0]? = some (.int .u8 0) := made_zero (by omega)
        go_wp2
        clear hmk1 hc0
        go_loopg [10] (t + 1) (fun g i w3 => ∃ j : Nat, j ≤ t + 1 ∧ g = t + 1 - j ∧ i = .int .i64 j ∧ w3.rowIs w2.heap.size 5 (1 + (t + 1)) (fillTo (wrt true M (t + 1)) (1 + j)) ∧ w3.rowIs w.heap.size 55 20 (bufF M (t + 1)) ∧ Below w.heap.size w w3)
        case atStart => exact ⟨0, Nat.zero_le _, rfl, rfl, out_start1 _ _ _ (by simp [wrt]), HR.out.alloc _, HB.out.alloc (Nat.le_of_lt hlt2) _⟩
        case round =>
          obtain ⟨j, hj, rfl, rfl, hO, hF, hB⟩ := hrel
          clear hw2 HR HB
          by_cases hjt : j < t + 1
          · obtain ⟨o1, o2⟩ := fill_facts hO (by omega)
            have b1 : wr.cell? ⟨w.heap.size, kk + j, none⟩ = some (.int .u8 (dg M (t - j))) := by
              rw [hF.cell (i := kk + j) (by omega)]
              simp only [bufF]
              rw [if_pos (by omega), show 19 - (kk + j) = t - j by omega]
            have HO : Hid ((wr.setCell ⟨w2.heap.size, 1 + j, none⟩ (.int .u8 (dg M (t - j)))).rowIs w2.heap.size 5 (1 + (t + 1)) (fillTo (wrt true M (t + 1)) (1 + j + 1))) := fill_step hO (by simp [wrt, sl, show 1 + j - 1 = j by omega])
            have HF : Hid ((wr.setCell ⟨w2.heap.size, 1 + j, none⟩ (.int .u8 (dg M (t - j)))).rowIs w.heap.size 55 20 (bufF M (t + 1))) := hF.setOther (by show w.heap.size ≠ w2.heap.size; omega) _
            have HB : Hid (Below w.heap.size w (wr.setCell ⟨w2.heap.size, 1 + j, none⟩ (.int .u8 (dg M (t - j))))) := hB.setCell (Nat.le_of_lt hlt2) _
            have hi1 : (j : Int) < 20 - (kk : Int) := by omega
            have hi2 : (kk : Int) + j < 20 := by omega
            have hi3 : 1 + (j : Int) < ((1 + (t + 1) : Nat) : Int) := by omega
            clear hO hF hB
            go_wp2
            go_roundg (t + 1 - (j + 1))
            case measure => omega
            case rel => exact ⟨j + 1, by omega, rfl, by go_num, HO.out, HF.out, HB.out⟩
          · have hi1 : ¬ ((j : Int) < 20 - (kk : Int)) := by omega
            obtain rfl : j = t + 1 := by omega
            go_wp2
            go_ret
            exact ⟨t + 1, _, by omega, by omega, by rw [Hsucc.out]; exact hz, nz_next hnz Hm.out, rfl, fill_row hO, hB⟩
    · have hz2 : ((m : Int) / 10 == 0) = false := by simp; omega
      have Ht : Hid (t + 1 ≤ 19) := pow_bound hM (.inr (by rw [Hsucc.out]; exact hz))
      go_wp2
      go_roundg kk
      case measure => omega
      case rel =>
        have ht2 := Ht.out
        obtain ⟨k2, rfl⟩ : ∃ k2, kk = k2 + 1 := ⟨kk - 1, by omega⟩
        exact ⟨t + 1, k2, by omega, rfl, by simp, by rw [Hsucc.out]; simp, .inr (by rw [Hsucc.out]; exact hz), HR.out, HB.out⟩
end Go.Proofs.Qxb6603796a
