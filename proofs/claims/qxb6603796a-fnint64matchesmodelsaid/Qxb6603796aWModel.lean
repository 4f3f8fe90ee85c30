import Derived.Test.Qxb6603796aDec
import Derived.Deep.DeepCutAuto
import Derived.Deep.CutBlock
namespace Go.Proofs.Qxb6603796a
open Go.RowKit

/-- The model's answer as 'whole' tells it: over 20 significant digits. -/
theorem wm_over20 {f : Nat → Int} {n o s z : Nat} (hs : st f n o = s) (hz : ∀ i, i < z → f (s + i) = 48) (h20 : s + (z + 20) ≤ dEnd f n s) (hg : maxU < val f (s + z) 20) :
    WholeRes f n o (sgn f n o) (val f s (z + 19)) false (s + (z + 19)) ∧ (∀ i, i < z + 19 → isD (f (s + i)) = true) := by
  subst hs
  have hd : ∀ i, i < z + 20 → st f n o + i < n ∧ isD (f (st f n o + i)) = true := fun i hi => dEnd_dig (by omega) (by omega : st f n o + i < dEnd f n (st f n o))
  have hlt := val_lt_pow (f := f) (s := st f n o + z) 19 (fun i hi => by rw [Nat.add_assoc]; exact (hd (z + i) (by omega)).2)
  refine ⟨⟨rfl, z + 19, rfl, fun i hi => hd i (by omega), rfl, val_nonneg _ _ _ (fun i hi => (hd i (by omega)).2), ?_, .inl ⟨rfl, (hd (z + 19) (by omega)).1, (hd (z + 19) (by omega)).2, ?_⟩⟩, fun i hi => (hd i (by omega)).2⟩
  · rw [val_skip hz]
    have e : (10 : Int) ^ 19 = 10000000000000000000 := by decide
    unfold maxU
    omega
  · rw [show z + 19 + 1 = z + 20 by omega, val_skip hz]; exact hg

theorem wm_over21 {f : Nat → Int} {n o s z : Nat} (hs : st f n o = s) (hz : ∀ i, i < z → f (s + i) = 48) (h21 : s + (z + 21) ≤ dEnd f n s) (hnz : f (s + z) ≠ 48) (hg : ¬ maxU < val f (s + z) 20) :
    WholeRes f n o (sgn f n o) (val f s (z + 20)) false (s + (z + 20)) ∧ (∀ i, i < z + 20 → isD (f (s + i)) = true) := by
  subst hs
  have hd : ∀ i, i < z + 21 → st f n o + i < n ∧ isD (f (st f n o + i)) = true := fun i hi => dEnd_dig (by omega) (by omega : st f n o + i < dEnd f n (st f n o))
  have hge : 10 ^ 20 ≤ val f (st f n o + z) 21 := val_ge_pow (f := f) (s := st f n o + z) hnz 20 (fun i hi => by rw [Nat.add_assoc]; exact (hd (z + i) (by omega)).2)
  refine ⟨⟨rfl, z + 20, rfl, fun i hi => hd i (by omega), rfl, val_nonneg _ _ _ (fun i hi => (hd i (by omega)).2), ?_, .inl ⟨rfl, (hd (z + 20) (by omega)).1, (hd (z + 20) (by omega)).2, ?_⟩⟩, fun i hi => (hd i (by omega)).2⟩
  · rw [val_skip hz]; omega
  · rw [show z + 20 + 1 = z + 21 by omega, val_skip hz]
    have e : (10 : Int) ^ 20 = 100000000000000000000 := by decide
    unfold maxU
    omega

theorem wm_fit {f : Nat → Int} {n o s z e : Nat} (hs : st f n o = s) (he : e = dEnd f n s) (hz : ∀ i, i < z → f (s + i) = 48) (hze : s + z ≤ e) (h : e < s + (z + 20) ∨ (e = s + (z + 20) ∧ ¬ maxU < val f (s + z) 20)) :
    WholeRes f n o (sgn f n o) (val f s (e - s)) (decide (e - s ≠ 0) && !(f s == 48 && decide (1 < e - s)) && !(decide (e < n) && isFE (f e))) e ∧ (∀ i, i < e - s → isD (f (s + i)) = true) ∧ val f s (e - s) ≤ maxU := by
  subst hs he
  have hge := dEnd_ge f n (st f n o)
  obtain ⟨j, hj⟩ : ∃ j, dEnd f n (st f n o) = st f n o + j := ⟨dEnd f n (st f n o) - st f n o, by omega⟩
  have hstop := dEnd_stop f n (st f n o)
  have hd : ∀ i, i < j → st f n o + i < n ∧ isD (f (st f n o + i)) = true := fun i hi => dEnd_dig (by omega) (by omega : st f n o + i < dEnd f n (st f n o))
  rw [hj] at h hze hstop ⊢
  rw [show st f n o + j - st f n o = j by omega]
  have hle : val f (st f n o) j ≤ maxU := by
    obtain ⟨r, rfl⟩ : ∃ r, j = z + r := ⟨j - z, by omega⟩
    rw [val_skip hz]
    rcases h with h | ⟨h, hg⟩
    · have hlt := val_lt_pow (f := f) (s := st f n o + z) r (fun i hi => by rw [Nat.add_assoc]; exact (hd (z + i) (by omega)).2)
      have e : (10 : Int) ^ r ≤ 10 ^ 19 := by
        have e1 : 10 ^ r ≤ 10 ^ 19 := Nat.pow_le_pow_right (by omega) (by omega)
        exact_mod_cast e1
      have e2 : (10 : Int) ^ 19 = 10000000000000000000 := by decide
      unfold maxU
      omega
    · obtain rfl : r = 20 := by omega
      omega
  exact ⟨⟨rfl, j, rfl, hd, rfl, val_nonneg _ _ _ (fun i hi => (hd i hi).2), hle, .inr ⟨hstop, rfl⟩⟩, fun i hi => (hd i hi).2, hle⟩

/-- A part of a slice. -/
theorem row_sub {w : World} {a : Option Addr} {n : Nat} {f : Nat → Int} (h : Row w a n f) {p L : Nat} (hp : p + L ≤ n) : Row w (Option.map (fun x => x.add p) a) L (fun i => f (p + i)) := by
  rcases h with h | ⟨b, o, rfl, hc⟩
  · exact .inl (by omega)
  · refine .inr ⟨b, o + p, by rw [Option.map_some, Addr.add_lit], fun i hi => ?_⟩
    rw [Nat.add_assoc]
    exact hc (p + i) (by omega)

theorem row_drw {w : World} {a : Option Addr} {n : Nat} {f : Nat → Int} (q : Nat) (h : Row w a n f) : Row (w.drewN q) a n f := h

def maxT : Nat → Int := fun i => ((#[49, 56, 52, 52, 54, 55, 52, 52, 48, 55, 51, 55, 48, 57, 53, 53, 49, 54, 49, 53] : Array UInt8).toList.getD i 0).toNat
theorem maxT_val : val maxT 0 20 = maxU := by decide +kernel
theorem maxT_dig : ∀ i, i < 20 → isD (maxT i) = true := by decide +kernel
theorem maxT_at (i : Nat) (hi : i < (ByteArray.mk #[49, 56, 52, 52, 54, 55, 52, 52, 48, 55, 51, 55, 48, 57, 53, 53, 49, 54, 49, 53]).size) :
    (((ByteArray.mk #[49, 56, 52, 52, 54, 55, 52, 52, 48, 55, 51, 55, 48, 57, 53, 53, 49, 54, 49, 53])[i]'hi).toNat : Int) = maxT i := by
  have hi2 : i < 20 := hi
  revert hi
  revert i
  decide +kernel

/-- What 'wholeModel' leaves. -/
def MPost (f : Nat → Int) (n o : Nat) (w : World) (e : Ending) (w' : World) : Prop :=
  ∃ neg mag ok off, e = .returned (.tuple #[.bool neg, .int .u64 mag, .bool ok, .int .i64 ((off : Nat) : Int)]) ∧ WholeRes f n o neg mag ok off ∧ ∃ q, w' = w.drewN q

set_option maxHeartbeats 4000000 in
set_option maxRecDepth 100000 in
theorem wmodel_any (a : Option Addr) (n o : Nat) (f : Nat → Int) (w : World) (h : Row w a n f) (hn : n ≤ 1048576) (hon : (o : Int) ≤ 9223372036854775807) :
    Calls Try.prog 18 #[.slice a n n, .int .i64 (o : Int)] w (MPost f n o w) := by
  have HR : Hid (Row w a n f) := h
  clear h
  go_enter Try.func18, Try.ntmps18
  go_upto_region 3 with fail
  go_cut [27] (fun v w1 => w = w1 ∧ v = .bool (sgn f n o))
  case first =>
    by_cases h1 : o < n
    · have hi : (o : Int) < n := by omega
      rcases HR.out with h0 | ⟨b, off, rfl, hc⟩
      · omega
      have g1 := hc o h1
      clear hc
      go_wp2
      go_meet
      case rel => exact ⟨rfl, by simp [sgn, h1]⟩
    · have hi : ¬ ((o : Int) < n) := by omega
      go_wp2
      go_meet
      case rel => exact ⟨rfl, by simp [sgn, h1]⟩
  case rest =>
    obtain ⟨rfl, rfl⟩ := hcut
    go_upto_if 27 with fail
    go_cut [8, 9] (fun v u w1 => w = w1 ∧ v = .int .i64 ((st f n o : Nat) : Int) ∧ u = .bool (sgn f n o))
    case first =>
      cases hsg : sgn f n o
      · have HS : Hid (st f n o = o) := by simp [st, hsg, Hid]
        go_wp2
        go_meet
        case rel => exact ⟨rfl, by rw [HS.out], by rw [hsg]⟩
      · have HS : Hid (st f n o = o + 1) := by simp [st, hsg, Hid]
        have hlt : o < n := by simp [sgn] at hsg; exact hsg.1
        go_wp2
        go_meet
        case rel => exact ⟨rfl, by rw [HS.out]; go_num, by rw [hsg]⟩
    case rest =>
      obtain ⟨rfl, rfl, rfl⟩ := hcut
      obtain ⟨s, hs⟩ : ∃ s, st f n o = s := ⟨_, rfl⟩
      have H1 : Hid (st f n o = s) := hs
      rw [hs]
      have hsn : (s : Int) ≤ 9223372036854775807 := by
        rw [← hs]
        unfold st
        split
        · rename_i e
          simp [sgn] at e
          omega
        · exact hon
      clear hs
      go_upto_block 0 with fail
      go_cut [10] (fun v w1 => w = w1 ∧ v = .int .i64 ((dEnd f n s : Nat) : Int))
      case first =>
        go_wp2_with fail
        go_loopg [10] (n - s) (fun g x wr => w = wr ∧ ∃ k : Nat, g = n - k ∧ x = .int .i64 (k : Int) ∧ dEnd f n k = dEnd f n s)
        case atStart => exact ⟨rfl, s, rfl, rfl, rfl⟩
        case round =>
          obtain ⟨rfl, k, rfl, rfl, hk⟩ := hrel
          have HK : Hid (dEnd f n k = dEnd f n s) := hk
          clear hk
          by_cases h1 : k < n
          · have hi : (k : Int) < n := by omega
            rcases HR.out with h0 | ⟨b, off, rfl, hc⟩
            · omega
            have g1 := hc k h1
            clear hc
            by_cases hd : isD (f k) = true
            · have HD : Hid (isD (f k) = true) := hd
              go_wp2_with (go_at_call 16; refine (isD_any _ _).mono ?_; rintro e w1 ⟨rfl, rfl⟩)
              go_roundg (n - (k + 1))
              case measure => omega
              case rel => exact ⟨rfl, k + 1, rfl, by go_num, by rw [dEnd_step h1 HD.out]; exact HK.out⟩
            · have hs2 : dEnd f n k = k := dEnd_stay (fun h => hd h.2)
              have HS : Hid (k = dEnd f n s) := by rw [← HK.out, hs2]; exact rfl
              have hd' : isD (f k) = false := Bool.eq_false_iff.2 hd
              clear hs2 hd HK
              go_wp2_with (go_at_call 16; refine (isD_any _ _).mono ?_; rintro e w1 ⟨rfl, rfl⟩)
              go_meet
              case rel => exact ⟨rfl, by rw [← HS.out]⟩
          · have hi : ¬ ((k : Int) < n) := by omega
            have hs2 : dEnd f n k = k := dEnd_stay (fun h => h1 h.1)
            have HS : Hid (k = dEnd f n s) := by rw [← HK.out, hs2]; exact rfl
            clear hs2 HK
            go_wp2
            go_meet
            case rel => exact ⟨rfl, by rw [← HS.out]⟩
      case rest =>
        obtain ⟨rfl, rfl⟩ := hcut
        obtain ⟨e, he⟩ : ∃ e, e = dEnd f n s := ⟨_, rfl⟩
        have HE : Hid (e = dEnd f n s) := he
        rw [← he]
        have hse : s ≤ e := by rw [he]; exact dEnd_ge f n s
        have hen : e ≤ n ∨ e = s := by
          by_cases h : s ≤ n
          · exact .inl (by rw [he]; exact dEnd_le h)
          · exact .inr (by rw [he]; exact dEnd_stay (fun h2 => by omega))
        have hem : (e : Int) ≤ 9223372036854775807 := by omega
        clear he
        go_upto_block 2 with fail
        go_cut [11] (fun v w1 => w = w1 ∧ ∃ z : Nat, v = .int .i64 (z : Int) ∧ s + z ≤ e ∧ (∀ i, i < z → f (s + i) = 48) ∧ (s + z < e → f (s + z) ≠ 48))
        case first =>
          go_wp2_with fail
          go_loopg [11] (e - s) (fun g x wr => w = wr ∧ ∃ z : Nat, g = e - (s + z) ∧ x = .int .i64 (z : Int) ∧ s + z ≤ e ∧ (∀ i, i < z → f (s + i) = 48))
          case atStart => exact ⟨rfl, 0, rfl, rfl, hse, fun i hi => absurd hi (by omega)⟩
          case round =>
            obtain ⟨rfl, z, rfl, rfl, hz1, hz2⟩ := hrel
            have HZ : Hid (∀ i, i < z → f (s + i) = 48) := hz2
            clear hz2
            have hzm : (s : Int) + z ≤ 9223372036854775807 := by omega
            by_cases h1 : s + z < e
            · have hi : (s : Int) + z < e := by omega
              have hi2 : (s : Int) + z < n := by omega
              rcases HR.out with h0 | ⟨b, off, rfl, hc⟩
              · omega
              have g1 := hc (s + z) (by omega)
              clear hc
              by_cases h2 : f (s + z) = 48
              · have h2' : (f (s + z) == 48) = true := by simp [h2]
                have HZ2 : Hid (∀ i, i < z + 1 → f (s + i) = 48) := fun i hi => by
                  by_cases e : i = z
                  · rw [e]; exact h2
                  · exact HZ.out i (by omega)
                clear h2
                go_wp2
                go_roundg (e - (s + (z + 1)))
                case measure => omega
                case rel => exact ⟨rfl, z + 1, rfl, by go_num, by omega, HZ2.out⟩
              · have h2' : (f (s + z) == 48) = false := by simp [h2]
                have HN : Hid (f (s + z) ≠ 48) := h2
                clear h2
                go_wp2
                go_meet
                case rel => exact ⟨rfl, z, rfl, hz1, HZ.out, fun _ => HN.out⟩
            · have hi : ¬ ((s : Int) + z < e) := by omega
              go_wp2
              go_meet
              case rel => exact ⟨rfl, z, rfl, hz1, HZ.out, fun h => absurd h h1⟩
        case rest =>
          obtain ⟨rfl, z, rfl, hz1, hz2, hz3⟩ := hcut
          have HZ : Hid (∀ i, i < z → f (s + i) = 48) := hz2
          have HN : Hid (s + z < e → f (s + z) ≠ 48) := hz3
          clear hz2 hz3
          have hzm : (s : Int) + z ≤ 9223372036854775807 := by omega
          have hsig : (e : Int) - s - z = ((e - s - z : Nat) : Int) := by omega
          obtain ⟨sg, hsgd⟩ : ∃ sg, sg = e - s - z := ⟨_, rfl⟩
          have HSG : Hid (e = s + z + sg) := by show e = s + z + sg; omega
          have hsb : sg ≤ 1048576 := by omega
          rw [← hsgd] at hsig
          clear hsgd
          go_upto_region 14 with fail
          go_cut [78] (fun v w1 => (∃ q, w1 = w.drewN q) ∧ v = .bool (decide (20 ≤ sg) && decide (maxU < val f (s + z) 20)))
          case first =>
            by_cases h20 : 20 ≤ sg
            · have hi20 : (20 : Int) ≤ sg := by omega
              go_wp2_with fail
              refine (gtr_any _ 20 _ (fun i => f (s + z + i)) _ maxT w (row_sub HR.out (by omega)) (by omega) rfl maxT_at (fun i hi => ?_) maxT_dig).mono ?_
              · have h1 := HE.out
                have h2 := HSG.out
                exact (dEnd_dig (f := f) (n := n) (i := s) (j := s + z + i) (by omega) (by omega)).2
              rintro e w1 ⟨rfl, q, rfl⟩
              rw [maxT_val, val_shift]
              go_wp2
              go_meet
              case rel => exact ⟨⟨q, rfl⟩, by simp [h20]⟩
            · have hi20 : ¬ ((20 : Int) ≤ sg) := by omega
              go_wp2
              go_meet
              case rel => exact ⟨⟨0, rfl⟩, by simp [h20]⟩
          case rest =>
            obtain ⟨⟨q, rfl⟩, rfl⟩ := hcut
            go_upto_if 78 with fail
            go_cut [13] (fun v w1 => w1 = w.drewN q ∧ ((∃ k : Nat, v = .int .i64 ((k : Int) + 1) ∧ 0 < k ∧ s + k ≤ n ∧ (WholeRes f n o (sgn f n o) (val f s k) false (s + k) ∧ (∀ i, i < k → isD (f (s + i)) = true))) ∨
              (v = .int .i64 0 ∧ (e < s + (z + 20) ∨ (e = s + (z + 20) ∧ ¬ maxU < val f (s + z) 20)))))
            case first =>
              by_cases h20 : 20 ≤ sg
              · by_cases hg : maxU < val f (s + z) 20
                · have ht : (decide (20 ≤ sg) && decide (maxU < val f (s + z) 20)) = true := by simp [h20, hg]
                  have HW := wm_over20 H1.out HZ.out (by have h1 := HE.out; have h2 := HSG.out; omega) hg
                  have HW2 : Hid (WholeRes f n o (sgn f n o) (val f s (z + 19)) false (s + (z + 19)) ∧ (∀ i, i < z + 19 → isD (f (s + i)) = true)) := HW
                  rw [ht]
                  clear HW ht hg
                  go_wp2
                  go_meet
                  case rel => exact ⟨rfl, .inl ⟨z + 19, by go_num, by omega, by have h2 := HSG.out; omega, HW2.out⟩⟩
                · have ht : (decide (20 ≤ sg) && decide (maxU < val f (s + z) 20)) = false := by simp [hg]
                  have HG : Hid (¬ maxU < val f (s + z) 20) := hg
                  rw [ht]
                  clear ht hg
                  by_cases h21 : 21 ≤ sg
                  · have hi21 : (21 : Int) ≤ sg := by omega
                    have HW := wm_over21 H1.out HZ.out (by have h1 := HE.out; have h2 := HSG.out; omega) (HN.out (by have h2 := HSG.out; omega)) HG.out
                    have HW2 : Hid (WholeRes f n o (sgn f n o) (val f s (z + 20)) false (s + (z + 20)) ∧ (∀ i, i < z + 20 → isD (f (s + i)) = true)) := HW
                    clear HW
                    go_wp2
                    go_meet
                    case rel => exact ⟨rfl, .inl ⟨z + 20, by go_num, by omega, by have h2 := HSG.out; omega, HW2.out⟩⟩
                  · have hi21 : ¬ ((21 : Int) ≤ sg) := by omega
                    go_wp2
                    go_meet
                    case rel => exact ⟨rfl, .inr ⟨rfl, .inr ⟨by have h2 := HSG.out; omega, HG.out⟩⟩⟩
              · have ht : (decide (20 ≤ sg) && decide (maxU < val f (s + z) 20)) = false := by simp [h20]
                have hi21 : ¬ ((21 : Int) ≤ sg) := by omega
                rw [ht]
                clear ht
                go_wp2
                go_meet
                case rel => exact ⟨rfl, .inr ⟨rfl, .inl (by have h2 := HSG.out; omega)⟩⟩
            case rest =>
              obtain ⟨rfl, hk⟩ := hcut
              rcases hk with ⟨k, rfl, hk0, hkn, hw, hdg⟩ | ⟨rfl, hfit⟩
              · have HW : Hid (WholeRes f n o (sgn f n o) (val f s k) false (s + k)) := hw
                have HD : Hid (∀ i, i < k → isD (f (s + i)) = true) := hdg
                have hns : ¬ n = s := by omega
                have HV : Hid (val f s k ≤ maxU) := by obtain ⟨_, j, _, _, _, _, a6, _⟩ := hw; exact a6
                clear hw hdg
                go_wp2_with fail
                refine (dec_any _ k _ (fun i => f (s + i)) _ (row_sub (p := s) (row_drw q HR.out) hkn) (by omega) HD.out (by rw [val_shift]; exact HV.out)).mono ?_
                rintro e2 w1 ⟨rfl, rfl⟩
                rw [val_shift]
                go_wp2
                exact bodyPost_ret (v := .tuple #[.bool (sgn f n o), .int .u64 (val f s k), .bool false, .int .i64 ((s + k : Nat) : Int)]) (by simp [results, Try.results18, go_sem]; omega) rfl ⟨_, _, _, _, rfl, HW.out, q, rfl⟩
              · have hwf := wm_fit H1.out HE.out HZ.out hz1 hfit
                clear hfit
                by_cases hes : e = s
                · have hes' : ((e : Int) == s) = true := by simp [hes]
                  have HW : Hid (WholeRes f n o (sgn f n o) 0 false e) := by
                    have := hwf.1
                    rw [hes, Nat.sub_self] at this
                    simpa [Hid, hes, val] using this
                  clear hwf hes
                  go_wp2
                  exact bodyPost_ret (v := .tuple #[.bool (sgn f n o), .int .u64 0, .bool false, .int .i64 (e : Int)]) (by simp [results, Try.results18, go_sem]) rfl ⟨_, _, _, _, rfl, HW.out, q, rfl⟩
                · have hes' : ((e : Int) == s) = false := by simp; omega
                  have hns : ¬ n = s := by omega
                  have hsln : s < n := by omega
                  have hsi : (s : Int) < n := by omega
                  obtain ⟨hw, hdg, hv⟩ := hwf
                  have HW : Hid (WholeRes f n o (sgn f n o) (val f s (e - s)) (decide (e - s ≠ 0) && !(f s == 48 && decide (1 < e - s)) && !(decide (e < n) && isFE (f e))) e) := hw
                  have HD : Hid (∀ i, i < e - s → isD (f (s + i)) = true) := hdg
                  have HV : Hid (val f s (e - s) ≤ maxU) := hv
                  clear hw hdg hv
                  go_wp2_with fail
                  refine (dec_any _ (e - s) _ (fun i => f (s + i)) _ (row_sub (p := s) (row_drw q HR.out) (by omega)) (by omega) HD.out (by rw [val_shift]; exact HV.out)).mono ?_
                  rintro e2 w1 ⟨rfl, rfl⟩
                  rw [val_shift]
                  obtain ⟨m, hm⟩ : ∃ m, m = val f s (e - s) := ⟨_, rfl⟩
                  rw [← hm] at HW ⊢
                  clear hm
                  obtain ⟨okv, hokv⟩ : ∃ okv, okv = (decide (e - s ≠ 0) && !(f s == 48 && decide (1 < e - s)) && !(decide (e < n) && isFE (f e))) := ⟨_, rfl⟩
                  have HOK : Hid (okv = (decide (e - s ≠ 0) && !(f s == 48 && decide (1 < e - s)) && !(decide (e < n) && isFE (f e)))) := hokv
                  rw [← hokv] at HW
                  clear hokv
                  go_upto_region 23 with fail
                  go_cut [15] (fun v w1 => w1 = w.drewN q ∧ v = .bool okv)
                  case first =>
                    rcases HR.out with h0 | ⟨b, off, rfl, hc⟩
                    · omega
                    have g0 := hc s hsln
                    have gE : e < n → w.cell? ⟨b, off + e, none⟩ = some (.int .u8 (f e)) := fun h => hc e h
                    clear hc
                    have he1 : decide (e - s ≠ 0) = true := by simp; omega
                    by_cases hl : f s = 48 ∧ s + 1 < e
                    · have h1 : (f s == 48) = true := by simp [hl.1]
                      have h2 : (s : Int) + 1 < e := by omega
                      have HS : Hid (okv = false) := by rw [HOK.out, h1, show decide (1 < e - s) = true by simp; omega]; simp [Hid]
                      clear hl gE
                      go_wp2
                      go_meet
                      case rel => exact ⟨rfl, by rw [HS.out]⟩
                    · have HS : Hid (okv = !(decide (e < n) && isFE (f e))) := by
                        have h3 : (f s == 48 && decide (1 < e - s)) = false := by
                          by_cases e1 : f s = 48
                          · have e2 : ¬ 1 < e - s := fun h => hl ⟨e1, by omega⟩
                            simp [e2]
                          · simp [e1]
                        rw [HOK.out, h3, he1]
                        simp [Hid]
                      by_cases hen2 : e < n
                      · have g1 := gE hen2
                        have hi3 : (e : Int) < n := by omega
                        clear gE
                        by_cases h1 : f s = 48
                        · have h1' : (f s == 48) = true := by simp [h1]
                          have h2 : ¬ ((s : Int) + 1 < e) := by omega
                          clear h1 hl
                          go_wp2_with (go_at_call 15; refine (isFE_any _ _).mono ?_; rintro e3 w1 ⟨rfl, rfl⟩)
                          go_meet
                          case rel => exact ⟨rfl, by rw [HS.out]; simp [hen2]⟩
                        · have h1' : (f s == 48) = false := by simp [h1]
                          clear h1 hl
                          go_wp2_with (go_at_call 15; refine (isFE_any _ _).mono ?_; rintro e3 w1 ⟨rfl, rfl⟩)
                          go_meet
                          case rel => exact ⟨rfl, by rw [HS.out]; simp [hen2]⟩
                      · have hi3 : ¬ ((e : Int) < n) := by omega
                        clear gE
                        by_cases h1 : f s = 48
                        · have h1' : (f s == 48) = true := by simp [h1]
                          have h2 : ¬ ((s : Int) + 1 < e) := by omega
                          clear h1 hl
                          go_wp2
                          go_meet
                          case rel => exact ⟨rfl, by rw [HS.out]; simp [hen2]⟩
                        · have h1' : (f s == 48) = false := by simp [h1]
                          clear h1 hl
                          go_wp2
                          go_meet
                          case rel => exact ⟨rfl, by rw [HS.out]; simp [hen2]⟩
                  case rest =>
                    obtain ⟨rfl, rfl⟩ := hcut
                    go_wp2
                    exact bodyPost_ret (v := .tuple #[.bool (sgn f n o), .int .u64 m, .bool okv, .int .i64 (e : Int)]) (by simp [results, Try.results18, go_sem]) rfl ⟨_, _, _, _, rfl, HW.out, q, rfl⟩
end Go.Proofs.Qxb6603796a
