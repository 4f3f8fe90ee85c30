import Derived.Test.Qxb6603796aWModel
import Derived.Test.Qxb6603796aIMPlain
namespace Go.Proofs.Qxb6603796a
open Go.RowKit

/-- What 'int64Model' leaves. -/
def IMPost (f : Nat → Int) (n o : Nat) (w : World) (e : Ending) (w' : World) : Prop :=
  ∃ wok wv, e = .returned (.tuple #[.bool wok, .int .i64 wv]) ∧ IM f n o wok wv ∧ ∃ q, w' = w.drewN q

theorem impost_no {f : Nat → Int} {n o : Nat} {w : World} (q : Nat) (h : IM f n o false 0) : IMPost f n o w (.returned (.tuple #[.bool false, .int .i64 0])) (w.drewN q) := ⟨false, 0, rfl, h, q, rfl⟩
theorem impost_no0 {f : Nat → Int} {n o : Nat} {w : World} (h : IM f n o false 0) : IMPost f n o w (.returned (.tuple #[.bool false, .int .i64 0])) w := ⟨false, 0, rfl, h, 0, rfl⟩

def posT : Nat → Int := fun i => ((#[57, 50, 50, 51, 51, 55, 50, 48, 51, 54, 56, 53, 52, 55, 55, 53, 56, 48, 55] : Array UInt8).toList.getD i 0).toNat
theorem posT_val : val posT 0 19 = limI false := by decide +kernel
theorem posT_dig : ∀ i, i < 19 → isD (posT i) = true := by decide +kernel
theorem posT_at (i : Nat) (hi : i < (ByteArray.mk #[57, 50, 50, 51, 51, 55, 50, 48, 51, 54, 56, 53, 52, 55, 55, 53, 56, 48, 55]).size) :
    (((ByteArray.mk #[57, 50, 50, 51, 51, 55, 50, 48, 51, 54, 56, 53, 52, 55, 55, 53, 56, 48, 55])[i]'hi).toNat : Int) = posT i := by
  have hi2 : i < 19 := hi
  revert hi
  revert i
  decide +kernel
def negT : Nat → Int := fun i => ((#[57, 50, 50, 51, 51, 55, 50, 48, 51, 54, 56, 53, 52, 55, 55, 53, 56, 48, 56] : Array UInt8).toList.getD i 0).toNat
theorem negT_val : val negT 0 19 = limI true := by decide +kernel
theorem negT_dig : ∀ i, i < 19 → isD (negT i) = true := by decide +kernel
theorem negT_at (i : Nat) (hi : i < (ByteArray.mk #[57, 50, 50, 51, 51, 55, 50, 48, 51, 54, 56, 53, 52, 55, 55, 53, 56, 48, 56]).size) :
    (((ByteArray.mk #[57, 50, 50, 51, 51, 55, 50, 48, 51, 54, 56, 53, 52, 55, 55, 53, 56, 48, 56])[i]'hi).toNat : Int) = negT i := by
  have hi2 : i < 19 := hi
  revert hi
  revert i
  decide +kernel

theorem row_sub' {w : World} {b o n : Nat} {f : Nat → Int} (h : Row w (some ⟨b, o, none⟩) n f) {p L : Nat} (hp : p + L ≤ n) : Row w (some ⟨b, o + p, none⟩) L (fun i => f (p + i)) := by
  have e := row_sub h hp
  rwa [Option.map_some, Addr.add_lit] at e

set_option maxHeartbeats 4000000 in
set_option maxRecDepth 100000 in
theorem imodel_any (a : Option Addr) (n o : Nat) (f : Nat → Int) (w : World) (h : Row w a n f) (hn : n ≤ 1048576) (hon : (o : Int) ≤ 9223372036854775807) :
    Calls Try.prog 24 #[.slice a n n, .int .i64 (o : Int)] w (IMPost f n o w) := by
  have HR : Hid (Row w a n f) := h
  clear h
  go_enter Try.func24, Try.ntmps24
  go_upto_region 3 with fail
  go_cut [25] (fun v w1 => w = w1 ∧ v = .bool (sgn f n o))
  case first =>
    by_cases h1 : o < n
    · have hi : (o : Int) < n := by omega
      rcases HR.out with h0 | ⟨b, off, rfl, hc⟩
      · omega
      have g1 := hc o h1
      clear hc
      go_wp2
      go_meet
      case rel => exact ⟨rfl, by simp [sgn, h1]⟩
    · have hi : ¬ ((o : Int) < n) := by omega
      go_wp2
      go_meet
      case rel => exact ⟨rfl, by simp [sgn, h1]⟩
  case rest =>
    obtain ⟨rfl, rfl⟩ := hcut
    go_upto_if 25 with fail
    go_cut [6, 7] (fun v u w1 => w = w1 ∧ v = .int .i64 ((st f n o : Nat) : Int) ∧ u = .bool (sgn f n o))
    case first =>
      cases hsg : sgn f n o
      · have HS : Hid (st f n o = o) := by simp [st, hsg, Hid]
        go_wp2
        go_meet
        case rel => exact ⟨rfl, by rw [HS.out], by rw [hsg]⟩
      · have HS : Hid (st f n o = o + 1) := by simp [st, hsg, Hid]
        have hlt : o < n := by simp [sgn] at hsg; exact hsg.1
        go_wp2
        go_meet
        case rel => exact ⟨rfl, by rw [HS.out]; go_num, by rw [hsg]⟩
    case rest =>
      obtain ⟨rfl, rfl, rfl⟩ := hcut
      obtain ⟨s, hs⟩ : ∃ s, st f n o = s := ⟨_, rfl⟩
      have H1 : Hid (st f n o = s) := hs
      rw [hs]
      have hsn : (s : Int) ≤ 9223372036854775807 := by
        rw [← hs]
        unfold st
        split
        · rename_i e
          simp [sgn] at e
          omega
        · exact hon
      clear hs
      obtain ⟨e, he⟩ : ∃ e, e = dEnd f n s := ⟨_, rfl⟩
      have HE : Hid (e = dEnd f n s) := he
      clear he
      go_upto_region 6 with fail
      go_cut [39] (fun v w1 => w = w1 ∧ v = .bool !(decide (s < n) && isD (f s)))
      case first =>
        by_cases h1 : s < n
        · have hi : (s : Int) < n := by omega
          rcases HR.out with h0 | ⟨b, off, rfl, hc⟩
          · omega
          have g1 := hc s h1
          clear hc
          go_wp2_with (go_at_call 16; refine (isD_any _ _).mono ?_; rintro e3 w1 ⟨rfl, rfl⟩)
          go_meet
          case rel => exact ⟨rfl, by simp [h1]; intro c; omega⟩
        · have hi : ¬ ((s : Int) < n) := by omega
          go_wp2
          go_meet
          case rel => exact ⟨rfl, by simp [h1]⟩
      case rest =>
        obtain ⟨rfl, rfl⟩ := hcut
        by_cases hsd : s < n ∧ isD (f s) = true
        · have ht : (!(decide (s < n) && isD (f s))) = false := by simp [hsd.1, hsd.2]
          rw [ht]
          obtain ⟨hsn2, hsd2⟩ := hsd
          have HSD : Hid (isD (f s) = true) := hsd2
          clear ht hsd2
          have hse : s < e := by
            have h1 := dEnd_ge f n (s + 1)
            rw [dEnd_step hsn2 HSD.out, ← HE.out] at h1
            omega
          have hen : e ≤ n := by rw [HE.out]; exact dEnd_le (by omega)
          go_upto_block 0 with fail
          go_cut [8] (fun v w1 => w = w1 ∧ v = .int .i64 (e : Int))
          case first =>
            go_wp2_with fail
            go_loopg [8] (n - s) (fun g x wr => w = wr ∧ ∃ k : Nat, g = n - k ∧ x = .int .i64 (k : Int) ∧ dEnd f n k = dEnd f n s)
            case atStart => exact ⟨rfl, s, rfl, rfl, rfl⟩
            case round =>
              obtain ⟨rfl, k, rfl, rfl, hk⟩ := hrel
              have HK : Hid (dEnd f n k = dEnd f n s) := hk
              clear hk
              by_cases h1 : k < n
              · have hi : (k : Int) < n := by omega
                rcases HR.out with h0 | ⟨b, off, rfl, hc⟩
                · omega
                have g1 := hc k h1
                clear hc
                by_cases hd : isD (f k) = true
                · have HD : Hid (isD (f k) = true) := hd
                  go_wp2_with (go_at_call 16; refine (isD_any _ _).mono ?_; rintro e3 w1 ⟨rfl, rfl⟩)
                  go_roundg (n - (k + 1))
                  case measure => omega
                  case rel => exact ⟨rfl, k + 1, rfl, by go_num, by rw [dEnd_step h1 HD.out]; exact HK.out⟩
                · have hs2 : dEnd f n k = k := dEnd_stay (fun h => hd h.2)
                  have HS : Hid (k = e) := by rw [HE.out, ← HK.out, hs2]; exact rfl
                  have hd' : isD (f k) = false := Bool.eq_false_iff.2 hd
                  clear hs2 hd HK
                  go_wp2_with (go_at_call 16; refine (isD_any _ _).mono ?_; rintro e3 w1 ⟨rfl, rfl⟩)
                  go_meet
                  case rel => exact ⟨rfl, by rw [← HS.out]⟩
              · have hi : ¬ ((k : Int) < n) := by omega
                have hs2 : dEnd f n k = k := dEnd_stay (fun h => h1 h.1)
                have HS : Hid (k = e) := by rw [HE.out, ← HK.out, hs2]; exact rfl
                clear hs2 HK
                go_wp2
                go_meet
                case rel => exact ⟨rfl, by rw [← HS.out]⟩
          case rest =>
            obtain ⟨rfl, rfl⟩ := hcut
            have HDG : Hid (∀ i, i < e - s → isD (f (s + i)) = true) := fun i hi => (dEnd_dig (f := f) (n := n) (i := s) (j := s + i) (by omega) (by rw [← HE.out]; omega)).2
            have hsi : (s : Int) < n := by omega
            obtain ⟨b, off, rfl, hc⟩ : ∃ b off, a = some ⟨b, off, none⟩ ∧ ∀ i, i < n → w.cell? ⟨b, off + i, none⟩ = some (.int .u8 (f i)) := by
              rcases HR.out with h0 | h0
              · omega
              · exact h0
            have HC : Hid (∀ i, i < n → w.cell? ⟨b, off + i, none⟩ = some (.int .u8 (f i))) := hc
            clear hc
            have gs := HC.out s hsn2
            by_cases hz : f s = 48 ∧ s + 1 < e
            · have HM : Hid (IM f n o false 0) := im_no H1.out HE.out (.inr (.inl hz))
              have h1 : (f s == 48) = true := by simp [hz.1]
              have h2 : (s : Int) + 1 < e := by omega
              clear hz
              go_wp2
              go_ret2
              exact impost_no0 HM.out
            · have HZ : Hid (¬ (f s = 48 ∧ s + 1 < e)) := hz
              go_upto_region 11 with fail
              go_cut [64] (fun v w1 => w = w1 ∧ v = .bool false)
              case first =>
                by_cases h1 : f s = 48
                · have h1' : (f s == 48) = true := by simp [h1]
                  have h2 : ¬ ((s : Int) + 1 < e) := by omega
                  clear h1 hz
                  go_wp2
                  go_meet
                  case rel => exact ⟨rfl, rfl⟩
                · have h1' : (f s == 48) = false := by simp [h1]
                  clear h1 hz
                  go_wp2
                  go_meet
                  case rel => exact ⟨rfl, rfl⟩
              case rest =>
                obtain ⟨rfl, rfl⟩ := hcut
                clear hz
                go_upto_region 13 with fail
                go_cut [75] (fun v w1 => w = w1 ∧ v = .bool (decide (e < n) && isFE (f e)))
                case first =>
                  by_cases h1 : e < n
                  · have hi : (e : Int) < n := by omega
                    have g1 := HC.out e h1
                    go_wp2_with (go_at_call 15; refine (isFE_any _ _).mono ?_; rintro e3 w1 ⟨rfl, rfl⟩)
                    go_meet
                    case rel => exact ⟨rfl, by simp [h1]⟩
                  · have hi : ¬ ((e : Int) < n) := by omega
                    go_wp2
                    go_meet
                    case rel => exact ⟨rfl, by simp [h1]⟩
                case rest =>
                  obtain ⟨rfl, rfl⟩ := hcut
                  by_cases hfe : e < n ∧ isFE (f e) = true
                  · have HM : Hid (IM f n o false 0) := im_no H1.out HE.out (.inr (.inr (.inl hfe)))
                    have ht : (decide (e < n) && isFE (f e)) = true := by simp [hfe]
                    rw [ht]
                    clear ht hfe
                    go_wp2
                    go_ret2
                    exact impost_no0 HM.out
                  · have ht : (decide (e < n) && isFE (f e)) = false := by
                      by_cases c : e < n
                      · have : isFE (f e) = false := Bool.eq_false_iff.2 (fun d => hfe ⟨c, d⟩)
                        simp [this]
                      · simp [c]
                    rw [ht]
                    have HFE : Hid (¬ (e < n ∧ isFE (f e) = true)) := hfe
                    clear ht hfe
                    by_cases h19 : 19 < e - s
                    · have hi19 : (19 : Int) < (e : Int) - s := by omega
                      have HM : Hid (IM f n o false 0) := im_no H1.out HE.out (.inr (.inr (.inr (im_long (fun c => HZ.out ⟨c, by omega⟩) HDG.out h19))))
                      go_wp2
                      go_ret2
                      exact impost_no0 HM.out
                    · have hi19 : ¬ ((19 : Int) < (e : Int) - s) := by omega
                      obtain ⟨sg, hsg⟩ : ∃ sg, sg = sgn f n o := ⟨_, rfl⟩
                      have HSG : Hid (sg = sgn f n o) := hsg
                      rw [← hsg]
                      clear hsg
                      go_upto_region 18 with fail
                      go_upto_if 82 with fail
                      go_cut [] (fun w1 => (∃ q, w1 = w.drewN q) ∧ val f s (e - s) ≤ limI sg)
                      case first =>
                        by_cases he19 : e - s = 19
                        · have hb19 : ((e : Int) - s == 19) = true := by simp; omega
                          have HE19 : Hid (e - s = 19) := he19
                          have hns : ¬ n = s := by omega
                          clear he19
                          cases sg
                          · go_wp2_with fail
                            refine (gtr_any _ (e - s) _ (fun i => f (s + i)) _ posT w (row_sub' HR.out (by omega)) (by omega) (by rw [HE19.out]; rfl) posT_at HDG.out (by rw [HE19.out]; exact posT_dig)).mono ?_
                            rintro e2 w1 ⟨rfl, q, rfl⟩
                            have hq : decide (val posT 0 (e - s) < val (fun i => f (s + i)) 0 (e - s)) = decide (limI false < val f s (e - s)) := by
                              have c : val posT 0 (e - s) = limI false := by rw [HE19.out]; exact posT_val
                              rw [c, val_shift]
                            rw [hq]
                            clear hq
                            by_cases hg : limI false < val f s (e - s)
                            · have HM : Hid (IM f n o false 0) := im_no H1.out HE.out (.inr (.inr (.inr (by rw [← HSG.out]; exact hg))))
                              have ht : decide (limI false < val f s (e - s)) = true := by simp [hg]
                              rw [ht]
                              clear ht hg
                              go_wp2
                              go_ret2
                              exact impost_no q HM.out
                            · have HG : Hid (val f s (e - s) ≤ limI false) := by show val f s (e - s) ≤ limI false; omega
                              have ht : decide (limI false < val f s (e - s)) = false := by simp [hg]
                              rw [ht]
                              clear ht hg
                              go_wp2
                              go_meet
                              case rel => exact ⟨⟨q, rfl⟩, HG.out⟩
                          · go_wp2_with fail
                            refine (gtr_any _ (e - s) _ (fun i => f (s + i)) _ negT w (row_sub' HR.out (by omega)) (by omega) (by rw [HE19.out]; rfl) negT_at HDG.out (by rw [HE19.out]; exact negT_dig)).mono ?_
                            rintro e2 w1 ⟨rfl, q, rfl⟩
                            have hq : decide (val negT 0 (e - s) < val (fun i => f (s + i)) 0 (e - s)) = decide (limI true < val f s (e - s)) := by
                              have c : val negT 0 (e - s) = limI true := by rw [HE19.out]; exact negT_val
                              rw [c, val_shift]
                            rw [hq]
                            clear hq
                            by_cases hg : limI true < val f s (e - s)
                            · have HM : Hid (IM f n o false 0) := im_no H1.out HE.out (.inr (.inr (.inr (by rw [← HSG.out]; exact hg))))
                              have ht : decide (limI true < val f s (e - s)) = true := by simp [hg]
                              rw [ht]
                              clear ht hg
                              go_wp2
                              go_ret2
                              exact impost_no q HM.out
                            · have HG : Hid (val f s (e - s) ≤ limI true) := by show val f s (e - s) ≤ limI true; omega
                              have ht : decide (limI true < val f s (e - s)) = false := by simp [hg]
                              rw [ht]
                              clear ht hg
                              go_wp2
                              go_meet
                              case rel => exact ⟨⟨q, rfl⟩, HG.out⟩
                        · have hb19 : ((e : Int) - s == 19) = false := by simp; omega
                          have HG : Hid (val f s (e - s) ≤ limI sg) := im_short sg HDG.out (by omega)
                          clear he19
                          go_wp2
                          go_meet
                          case rel => exact ⟨⟨0, rfl⟩, HG.out⟩
                      case rest =>
                        obtain ⟨⟨q, rfl⟩, hle⟩ := hcut
                        have HLE : Hid (val f s (e - s) ≤ limI sg) := hle
                        clear hle
                        cases sg
                        · go_wp2
                          go_loopg [11, 12] (e - s) (fun g x y wr => wr = w.drewN q ∧ ∃ t : Nat, s + t ≤ e ∧ g = e - (s + t) ∧ x = .int .i64 ((val f s t)) ∧ y = .int .i64 ((s + t : Nat) : Int))
                          case atStart => exact ⟨rfl, 0, by omega, rfl, rfl, rfl⟩
                          case round =>
                            obtain ⟨rfl, t, ht, rfl, rfl, rfl⟩ := hrel
                            obtain ⟨k, hk⟩ : ∃ k, k = s + t := ⟨_, rfl⟩
                            have HK : Hid (k = s + t) := hk
                            obtain ⟨m, hm⟩ : ∃ m, m = val f s t := ⟨_, rfl⟩
                            have HM : Hid (m = val f s t) := hm
                            have hkn : k ≤ e := by omega
                            rw [← hk, ← hm]
                            clear hk hm
                            by_cases hlt : k < e
                            · have hi : (k : Int) < e := by omega
                              have hi2 : (k : Int) < n := by omega
                              have g1 := HC.out k (by omega)
                              have hd : isD (f k) = true := by rw [HK.out]; exact HDG.out t (by have := HK.out; omega)
                              obtain ⟨d1, d2⟩ := (isD_iff _).1 hd
                              have hm0 : 0 ≤ m := by rw [HM.out]; exact val_nonneg f s t (fun i hi => HDG.out i (by have := HK.out; omega))
                              have hstep : val f s (t + 1) = m * 10 + (f k - 48) := by rw [val, HM.out, HK.out]
                              have hle : m * 10 + (f k - 48) ≤ 9223372036854775807 := by
                                rw [← hstep]
                                obtain ⟨dd, hdd⟩ : ∃ dd, e - s = t + 1 + dd := ⟨e - s - (t + 1), by have := HK.out; omega⟩
                                have c := val_mono (f := f) (s := s) (k := t + 1) dd (fun i hi => HDG.out i (by omega))
                                rw [← hdd] at c
                                have c2 := HLE.out
                                simp only [limI] at c2
                                simp at c2
                                omega
                              have HST : Hid (val f s (t + 1) = m * 10 + (f k - 48)) := hstep
                              clear hd hstep
                              go_wp2
                              go_roundg (e - (s + (t + 1)))
                              case measure => have := HK.out; omega
                              case rel => exact ⟨rfl, t + 1, by have := HK.out; omega, rfl, by rw [HST.out], by rw [HK.out]; go_num⟩
                            · have hke : k = e := by omega
                              have HY : Hid (IM f n o true (svl (sgn f n o) (val f s (e - s)))) := im_yes H1.out HE.out hsn2 HSD.out HZ.out HFE.out (by rw [← HSG.out]; exact HLE.out)
                              have HT : Hid (val f s (e - s) = m) := by rw [HM.out, show e - s = t by have := HK.out; omega]; exact rfl
                              have hi : ¬ ((k : Int) < e) := by omega
                              clear hke
                              go_wp2
                              go_ret2
                              exact ⟨true, m, rfl, by have c := HY.out; rw [HT.out, ← HSG.out] at c; simpa [svl] using c, q, rfl⟩
                        · go_wp2
                          go_loopg [11, 12] (e - s) (fun g x y wr => wr = w.drewN q ∧ ∃ t : Nat, s + t ≤ e ∧ g = e - (s + t) ∧ x = .int .i64 (-(val f s t)) ∧ y = .int .i64 ((s + t : Nat) : Int))
                          case atStart => exact ⟨rfl, 0, by omega, rfl, rfl, rfl⟩
                          case round =>
                            obtain ⟨rfl, t, ht, rfl, rfl, rfl⟩ := hrel
                            obtain ⟨k, hk⟩ : ∃ k, k = s + t := ⟨_, rfl⟩
                            have HK : Hid (k = s + t) := hk
                            obtain ⟨m, hm⟩ : ∃ m, m = val f s t := ⟨_, rfl⟩
                            have HM : Hid (m = val f s t) := hm
                            have hkn : k ≤ e := by omega
                            rw [← hk, ← hm]
                            clear hk hm
                            by_cases hlt : k < e
                            · have hi : (k : Int) < e := by omega
                              have hi2 : (k : Int) < n := by omega
                              have g1 := HC.out k (by omega)
                              have hd : isD (f k) = true := by rw [HK.out]; exact HDG.out t (by have := HK.out; omega)
                              obtain ⟨d1, d2⟩ := (isD_iff _).1 hd
                              have hm0 : 0 ≤ m := by rw [HM.out]; exact val_nonneg f s t (fun i hi => HDG.out i (by have := HK.out; omega))
                              have hstep : val f s (t + 1) = m * 10 + (f k - 48) := by rw [val, HM.out, HK.out]
                              have hle : m * 10 + (f k - 48) ≤ 9223372036854775808 := by
                                rw [← hstep]
                                obtain ⟨dd, hdd⟩ : ∃ dd, e - s = t + 1 + dd := ⟨e - s - (t + 1), by have := HK.out; omega⟩
                                have c := val_mono (f := f) (s := s) (k := t + 1) dd (fun i hi => HDG.out i (by omega))
                                rw [← hdd] at c
                                have c2 := HLE.out
                                simp only [limI] at c2
                                simp at c2
                                omega
                              have HST : Hid (val f s (t + 1) = m * 10 + (f k - 48)) := hstep
                              clear hd hstep
                              go_wp2
                              go_roundg (e - (s + (t + 1)))
                              case measure => have := HK.out; omega
                              case rel => exact ⟨rfl, t + 1, by have := HK.out; omega, rfl, by rw [HST.out]; go_num, by rw [HK.out]; go_num⟩
                            · have hke : k = e := by omega
                              have HY : Hid (IM f n o true (svl (sgn f n o) (val f s (e - s)))) := im_yes H1.out HE.out hsn2 HSD.out HZ.out HFE.out (by rw [← HSG.out]; exact HLE.out)
                              have HT : Hid (val f s (e - s) = m) := by rw [HM.out, show e - s = t by have := HK.out; omega]; exact rfl
                              have hi : ¬ ((k : Int) < e) := by omega
                              clear hke
                              go_wp2
                              go_ret2
                              exact ⟨true, -m, rfl, by have c := HY.out; rw [HT.out, ← HSG.out] at c; simpa [svl] using c, q, rfl⟩
        · have ht : (!(decide (s < n) && isD (f s))) = true := by
            by_cases h1 : s < n
            · have h2 : isD (f s) = false := Bool.eq_false_iff.2 (fun c => hsd ⟨h1, c⟩)
              simp [h2]
            · simp [h1]
          have HM : Hid (IM f n o false 0) := im_no H1.out HE.out (.inl hsd)
          rw [ht]
          clear ht hsd
          go_wp2
          go_ret2
          exact impost_no0 HM.out
end Go.Proofs.Qxb6603796a
