import Derived.Test.Qxb6603796aPeek
import Derived.Deep.DeepCutAuto
namespace Go.Proofs.Qxb6603796a
open Go.RowKit

theorem grown_trans {w w1 w2 : World} {row : Option Nat} (h : w.grownBy w1 row) (k : w1.grownBy w2 row) : w.grownBy w2 row :=
  ⟨k.os.trans h.os, k.tape.trans h.tape, k.output.trans h.output, Nat.le_trans h.size k.size, fun i hi hr => (k.block i (Nat.lt_of_lt_of_le hi h.size) hr).trans (h.block i hi hr)⟩
theorem grown_drewN (w : World) (n : Nat) (row : Option Nat) : w.grownBy (w.drewN n) row := ⟨rfl, rfl, rfl, Nat.le_refl _, fun _ _ _ => rfl⟩
theorem grown_set {w w1 : World} {row : Option Nat} (h : w.grownBy w1 row) {a : Addr} (v : Value) (ha : w.heap.size ≤ a.block ∨ some a.block = row) : w.grownBy (w1.setCell a v) row :=
  ⟨h.os, h.tape, h.output, by simpa using h.size, fun i hi hr => by
    rw [Below.heap_setCell _ _ _ _ (by intro e; subst e; rcases ha with ha | ha <;> first | omega | exact hr ha)]
    exact h.block i hi hr⟩
theorem grown_alloc {w w1 : World} {row : Option Nat} (h : w.grownBy w1 row) (o : Obj) : w.grownBy (w1.alloc o) row := grown_trans h (World.grownBy_alloc _ _ _)

/-- What holds at the loop's head: the reader at rb stands at st + j; the number's box is block B + 1, the result's is block B. -/
structure WLoop (w wr : World) (rb : Nat) (a : Option Addr) (n c : Nat) (f : Nat → Int) (s j : Nat) (neg : Bool) : Prop where
  dig : ∀ i, i < j → s + i < n ∧ isD (f (s + i)) = true
  le : val f s j ≤ maxU
  cd : wr.cell? ⟨rb, 0, none⟩ = some (.slice a n c)
  co : wr.cell? ⟨rb, 1, none⟩ = some (.int .i64 ((s + j : Nat) : Int))
  fo : wr.frozen? ⟨rb, 1, none⟩ = false
  cn : wr.cell? ⟨w.heap.size + 1, 0, none⟩ = some (.bool neg)
  cm : wr.cell? ⟨w.heap.size + 1, 1, none⟩ = some (.int .u64 (val f s j))
  fm : wr.frozen? ⟨w.heap.size + 1, 1, none⟩ = false
  r0 : ∃ v, wr.cell? ⟨w.heap.size, 0, none⟩ = some v
  r1 : ∃ v, wr.cell? ⟨w.heap.size, 1, none⟩ = some v
  f0 : wr.frozen? ⟨w.heap.size, 0, none⟩ = false
  f1 : wr.frozen? ⟨w.heap.size, 1, none⟩ = false
  gr : w.grownBy wr (some rb)

theorem blocks2 (w : World) (o1 o2 : Obj) (q : Nat) : Below w.heap.size w (((w.alloc o1).alloc o2).drewN q) := by
  have h := ((Below.refl w.heap.size w).alloc (Nat.le_refl _) o1).alloc (by simp) o2
  exact ⟨h.os, h.tape, h.output, h.size, h.block⟩

theorem grown2 (w : World) (o1 o2 : Obj) (q : Nat) (row : Option Nat) : w.grownBy (((w.alloc o1).alloc o2).drewN q) row :=
  grown_trans (grown_alloc (World.grownBy_alloc w o1 row) o2) (grown_drewN _ _ _)

theorem wl_start0 {w : World} {rb : Nat} {a : Option Addr} {n c o : Nat} {f : Nat → Int} (q : Nat) (hd : w.cell? ⟨rb, 0, none⟩ = some (.slice a n c)) (ho : w.cell? ⟨rb, 1, none⟩ = some (.int .i64 o)) (hf : w.frozen? ⟨rb, 1, none⟩ = false) :
    WLoop w (((w.alloc (.cells #[.bool false, .int .u64 0] 50)).alloc (.cells #[.bool false, .int .u64 0] 50)).drewN q) rb a n c f o 0 false := by
  have hrb : rb < w.heap.size := World.block_lt_of_cell? _ _ hd
  have hB := blocks2 w (.cells #[.bool false, .int .u64 0] 50) (.cells #[.bool false, .int .u64 0] 50) q
  refine ⟨fun i hi => absurd hi (by omega), by simp [val, maxU], cell_later hB hd, cell_later hB ho, ?_, ?_, ?_, ?_, ⟨.bool false, ?_⟩, ⟨.int .u64 0, ?_⟩, ?_, ?_, grown2 _ _ _ _ _⟩
  · rw [hB.frozen (p := ⟨rb, 1, none⟩) hrb]; exact hf
  all_goals simp [go_sem, val]

theorem wl_start1 {w : World} {rb : Nat} {a : Option Addr} {n c o : Nat} {f : Nat → Int} (q : Nat) (hd : w.cell? ⟨rb, 0, none⟩ = some (.slice a n c)) (ho : w.cell? ⟨rb, 1, none⟩ = some (.int .i64 o)) (hf : w.frozen? ⟨rb, 1, none⟩ = false) :
    WLoop w (((((w.alloc (.cells #[.bool false, .int .u64 0] 50)).alloc (.cells #[.bool false, .int .u64 0] 50)).drewN q).setCell ⟨w.heap.size + 1, 0, none⟩ (.bool true)).setCell ⟨rb, 1, none⟩ (.int .i64 ((o : Int) + 1))) rb a n c f (o + 1) 0 true := by
  have hrb : rb < w.heap.size := World.block_lt_of_cell? _ _ hd
  obtain ⟨h1, h2, h3, h4, h5, h6, h7, h8, ⟨v0, h9⟩, ⟨v1, h10⟩, h11, h12, h13⟩ := wl_start0 (f := f) q hd ho hf
  refine ⟨fun i hi => absurd hi (by omega), by simp [val, maxU], ?_, ?_, ?_, ?_, ?_, ?_, ⟨v0, ?_⟩, ⟨v1, ?_⟩, ?_, ?_, grown_set (grown_set h13 _ (.inl (by simp))) _ (.inr rfl)⟩
  · rw [World.cell?_setCell_other _ _ _ _ (by simp), World.cell?_setCell_other _ _ _ _ (by simp)]; exact h3
  · rw [World.cell?_setCell_same _ _ _ (u := .int .i64 o)]
    · simp
    · rw [World.cell?_setCell_other _ _ _ _ (by simp)]; exact h4
  · simpa using h5
  · rw [World.cell?_setCell_other _ _ _ _ (by simp), World.cell?_setCell_same _ _ _ h6]
  · rw [World.cell?_setCell_other _ _ _ _ (by simp), World.cell?_setCell_other _ _ _ _ (by simp)]; exact h7
  · simp
  · rw [World.cell?_setCell_other _ _ _ _ (by simp), World.cell?_setCell_other _ _ _ _ (by simp)]; exact h9
  · rw [World.cell?_setCell_other _ _ _ _ (by simp), World.cell?_setCell_other _ _ _ _ (by simp)]; exact h10
  · simp
  · simp

/-- What 'whole' leaves. -/
def WPost (f : Nat → Int) (n o rb : Nat) (w : World) (e : Ending) (w' : World) : Prop :=
  ∃ neg mag ok off, e = .returned (.tuple #[.agg #[.bool neg, .int .u64 mag], .bool ok]) ∧ WholeRes f n o neg mag ok off ∧ w'.cell? ⟨rb, 1, none⟩ = some (.int .i64 (off : Int)) ∧ w.grownBy w' (some rb)

theorem wpost_mk {w wr : World} {rb : Nat} {a : Option Addr} {n c : Nat} {f : Nat → Int} {s j o k : Nat} {m : Int} {sg ok : Bool} (hL : WLoop w wr rb a n c f s j sg) (hst : st f n o = s) (hsg : sgn f n o = sg) (hrb : rb < w.heap.size) (hk : k = s + j) (hm : m = val f s j)
    (h : (ok = false ∧ k < n ∧ isD (f k) = true ∧ maxU < m * 10 + (f k - 48)) ∨
      (¬ (k < n ∧ isD (f k) = true) ∧ ok = (decide (j ≠ 0) && !(f s == 48 && decide (1 < j)) && !(decide (k < n) && isFE (f k))))) :
    WPost f n o rb w (.returned (.tuple #[.agg #[.bool sg, .int .u64 m], .bool ok])) ((wr.setCell ⟨w.heap.size, 0, none⟩ (.bool sg)).setCell ⟨w.heap.size, 1, none⟩ (.int .u64 m)) := by
  subst hst hsg hk hm
  refine ⟨_, _, _, st f n o + j, rfl, ⟨rfl, j, rfl, hL.dig, rfl, val_nonneg _ _ _ (fun i hi => (hL.dig i hi).2), hL.le, ?_⟩, ?_, grown_set (grown_set hL.gr _ (.inl (Nat.le_refl _))) _ (.inl (Nat.le_refl _))⟩
  · rcases h with h | h
    · exact .inl ⟨h.1, h.2.1, h.2.2.1, by simpa [val] using h.2.2.2⟩
    · exact .inr h
  · rw [World.cell?_setCell_other _ _ _ _ (by simp), World.cell?_setCell_other _ _ _ _ (by simp)]; exact hL.co

theorem wres_cells {wr : World} {B : Nat} {v0 v1 u0 u1 : Value} (r0 : wr.cell? ⟨B, 0, none⟩ = some v0) (r1 : wr.cell? ⟨B, 1, none⟩ = some v1) :
    ((wr.setCell ⟨B, 0, none⟩ u0).setCell ⟨B, 1, none⟩ u1).cell? ⟨B, 0, none⟩ = some u0 ∧ ((wr.setCell ⟨B, 0, none⟩ u0).setCell ⟨B, 1, none⟩ u1).cell? ⟨B, 1, none⟩ = some u1 := by
  constructor
  · rw [World.cell?_setCell_other _ _ _ _ (by simp), World.cell?_setCell_same _ _ _ r0]
  · rw [World.cell?_setCell_same _ _ _ (u := v1)]
    rw [World.cell?_setCell_other _ _ _ _ (by simp)]; exact r1

theorem wl_step {w wr : World} {rb : Nat} {a : Option Addr} {n c : Nat} {f : Nat → Int} {s j k : Nat} {m : Int} {sg : Bool} (hL : WLoop w wr rb a n c f s j sg) (hrb : rb < w.heap.size) (hk : k = s + j) (hm : m = val f s j)
    (h1 : k < n) (hd : isD (f k) = true) (hle : m * 10 + (f k - 48) ≤ 18446744073709551615) :
    WLoop w ((wr.setCell ⟨w.heap.size + 1, 1, none⟩ (.int .u64 (m * 10 + (f k - 48)))).setCell ⟨rb, 1, none⟩ (.int .i64 ((k : Int) + 1))) rb a n c f s (j + 1) sg := by
  subst hk hm
  obtain ⟨h1', h2, h3, h4, h5, h6, h7, h8, ⟨v0, h9⟩, ⟨v1, h10⟩, h11, h12, h13⟩ := hL
  refine ⟨fun i hi => ?_, by simpa [val, maxU] using hle, ?_, ?_, ?_, ?_, ?_, ?_, ⟨v0, ?_⟩, ⟨v1, ?_⟩, ?_, ?_, grown_set (grown_set h13 _ (.inl (by simp))) _ (.inr rfl)⟩
  · by_cases e : i < j
    · exact h1' i e
    · obtain rfl : i = j := by omega
      exact ⟨h1, hd⟩
  · rw [World.cell?_setCell_other _ _ _ _ (by simp), World.cell?_setCell_other _ _ _ _ (by simp)]; exact h3
  · rw [World.cell?_setCell_same _ _ _ (u := .int .i64 ((s + j : Nat) : Int))]
    · simp [Int.add_assoc]
    · rw [World.cell?_setCell_other _ _ _ _ (by simp)]; exact h4
  · simpa using h5
  · rw [World.cell?_setCell_other _ _ _ _ (by simp), World.cell?_setCell_other _ _ _ _ (by simp)]; exact h6
  · rw [World.cell?_setCell_other _ _ _ _ (by simp), World.cell?_setCell_same _ _ _ h7]; rfl
  · simpa using h8
  · rw [World.cell?_setCell_other _ _ _ _ (by simp), World.cell?_setCell_other _ _ _ _ (by simp)]; exact h9
  · rw [World.cell?_setCell_other _ _ _ _ (by simp), World.cell?_setCell_other _ _ _ _ (by simp)]; exact h10
  · simpa using h11
  · simpa using h12

def okB (f : Nat → Int) (n s j k : Nat) : Bool := decide (j ≠ 0) && !(f s == 48 && decide (1 < j)) && !(decide (k < n) && isFE (f k))

theorem ok_lead {f : Nat → Int} {n s j k : Nat} (hk : k = s + j) (h : f s = 48) (h2 : (s : Int) + 1 < (k : Int)) : false = okB f n s j k := by
  have : 1 < j := by omega
  simp [okB, h, this]
theorem ok_fe {f : Nat → Int} {n s j k : Nat} (h1 : k < n) (h : isFE (f k) = true) : false = okB f n s j k := by
  simp [okB, h, h1]
theorem ok_yes {f : Nat → Int} {n s j k : Nat} (hj : ¬ j = 0) (hk : k = s + j) (h : ¬ f s = 48 ∨ (k : Int) ≤ (s : Int) + 1) (h2 : k < n → isFE (f k) = false) : true = okB f n s j k := by
  have e1 : (f s == 48 && decide (1 < j)) = false := by
    rcases h with h | h
    · simp [h]
    · have : ¬ 1 < j := by omega
      simp [this]
  have e2 : (decide (k < n) && isFE (f k)) = false := by
    by_cases e : k < n
    · simp [h2 e]
    · simp [e]
  simp [okB, hj, e1, e2]
theorem fe1 {x : Int} (h : x = 46) : isFE x = true := by simp [isFE, h]
theorem fe2 {x : Int} (h : x = 101) : isFE x = true := by simp [isFE, h]
theorem fe3 {x : Int} (h : ((x == 46) = true ∨ (x == 101) = true) ∨ (x == 69) = true) : isFE x = true := by simpa [isFE] using h
theorem nfe {x : Int} (h : ((x == 46) = false ∧ (x == 101) = false) ∧ (x == 69) = false) : isFE x = false := by simpa [isFE] using h

set_option maxHeartbeats 4000000 in
set_option maxRecDepth 100000 in
theorem whole_any (rb : Nat) (a : Option Addr) (n c o : Nat) (f : Nat → Int) (w : World) (hd : w.cell? ⟨rb, 0, none⟩ = some (.slice a n c)) (ho : w.cell? ⟨rb, 1, none⟩ = some (.int .i64 o)) (hf : w.frozen? ⟨rb, 1, none⟩ = false)
    (h : Row w a n f) (hb : Byt f) (hne : ∀ b o, a = some ⟨b, o, none⟩ → n ≠ 0 → b ≠ rb) (hn : n ≤ 2097152) (hon : (o : Int) ≤ 9223372036854775807) :
    Calls Try.prog 29 #[.pointer (some ⟨rb, 0, none⟩)] w (WPost f n o rb w) := by
  have hrb : rb < w.heap.size := World.block_lt_of_cell? _ _ hd
  obtain ⟨sg, hsg⟩ : ∃ sg, sgn f n o = sg := ⟨_, rfl⟩
  have hpk : (pk f n o == 45) = sg := by
    rw [← hsg]
    by_cases e : o < n <;> simp [pk, sgn, e]
  have hon2 : sg = true → o < n := fun e => by rw [e] at hsg; simp [sgn] at hsg; exact hsg.1
  obtain ⟨s, hst⟩ : ∃ s, st f n o = s := ⟨_, rfl⟩
  have Hst : Hid (st f n o = s) := hst
  have Hs : Hid (s = if sg = true then o + 1 else o) := by simp [← hst, st, hsg, Hid]
  have Hsg : Hid (sgn f n o = sg) := hsg
  have Hh : Hid (Row w a n f) := h
  clear hsg h hst
  go_enter Try.func29, Try.ntmps29
  go_upto_if 14 with (go_at_call 34; refine (peek_any rb a n c o f _ (by simp [go_sem, hd, hrb, Nat.lt_succ_of_lt hrb]) (by simp [go_sem, ho, hrb, Nat.lt_succ_of_lt hrb]) (Hh.out.keep (((Below.refl _ _).alloc (Nat.le_refl _) _).alloc (by simp) _))).mono ?_; rintro e w2 ⟨rfl, q, rfl⟩)
  go_cut [] (fun w1 => WLoop w w1 rb a n c f s 0 sg)
  case first =>
    cases sg
    · go_wp2
      go_meet
      case rel =>
        have e := Hs.out
        simp at e
        subst e
        exact wl_start0 q hd ho hf
    · have ho1 := hon2 rfl
      have hoo : (o : Int) + 1 ≤ 9223372036854775807 := by omega
      go_wp2
      go_meet
      case rel =>
        have e := Hs.out
        simp at e
        subst e
        exact wl_start1 q hd ho hf
  case rest =>
    have cd0 := hcut.cd
    have co0 := hcut.co
    rw [Nat.add_zero] at co0
    go_wp2
    clear cd0 co0
    go_loopg [7] (n - s) (fun g _ wr => ∃ j, g = n - (s + j) ∧ WLoop w wr rb a n c f s j sg)
    case atStart => exact ⟨0, rfl, hcut⟩
    case round =>
      obtain ⟨j, rfl, hL⟩ := hrel
      obtain ⟨k, hk⟩ : ∃ k, k = s + j := ⟨_, rfl⟩
      obtain ⟨m, hm⟩ : ∃ m, m = val f s j := ⟨_, rfl⟩
      have Hk : Hid (k = s + j) := hk
      have Hm : Hid (m = val f s j) := hm
      have HL : Hid (WLoop w wr rb a n c f s j sg) := hL
      have cd := hL.cd
      have co := hL.co
      have cn := hL.cn
      have cm := hL.cm
      have fo := hL.fo
      have fm := hL.fm
      obtain ⟨v0, r0⟩ := hL.r0
      obtain ⟨v1, r1⟩ := hL.r1
      have f0 := hL.f0
      have f1 := hL.f1
      rw [← hk] at co
      rw [← hm] at cm
      clear hk hm hL hd ho hf hcut
      have hbk := hb k
      have hsk : s ≤ k := by have := Hk.out; omega
      have HE : Hid (((wr.setCell ⟨w.heap.size, 0, none⟩ (.bool sg)).setCell ⟨w.heap.size, 1, none⟩ (.int .u64 m)).cell? ⟨w.heap.size, 0, none⟩ = some (.bool sg) ∧ ((wr.setCell ⟨w.heap.size, 0, none⟩ (.bool sg)).setCell ⟨w.heap.size, 1, none⟩ (.int .u64 m)).cell? ⟨w.heap.size, 1, none⟩ = some (.int .u64 m)) := wres_cells r0 r1
      by_cases h1 : k < n
      · rcases Hh.out with h0 | ⟨b, off, rfl, hc⟩
        · omega
        have g1 : wr.cell? ⟨b, off + k, none⟩ = some (.int .u8 (f k)) := HL.out.gr.cell (hc k h1) (by simpa using hne b off rfl (by omega))
        have hi1 : (k : Int) < n := by omega
        by_cases hdg : isD (f k) = true
        · obtain ⟨h2, h3⟩ := (isD_iff _).1 hdg
          have HDG : Hid (isD (f k) = true) := hdg
          have hm0 : 0 ≤ m := by rw [Hm.out]; exact val_nonneg _ _ _ (fun i hi => (HL.out.dig i hi).2)
          clear hdg
          by_cases hov : (18446744073709551615 - (f k - 48)) / 10 < m
          · go_wp2
            exact bodyPost_ret (v := .tuple #[.agg #[.bool sg, .int .u64 m], .bool false]) (by simp [results, Try.results29, go_sem, HE.out]) rfl (wpost_mk HL.out Hst.out Hsg.out hrb Hk.out Hm.out (.inl ⟨rfl, h1, HDG.out, by unfold maxU; omega⟩))
          · have hov2 : m * 10 + (f k - 48) ≤ 18446744073709551615 := by omega
            go_wp2
            go_roundg (n - (k + 1))
            case measure => have := Hk.out; omega
            case rel =>
              exact ⟨j + 1, by have := Hk.out; omega, wl_step HL.out hrb Hk.out Hm.out h1 HDG.out hov2⟩
        · have HDG : Hid (¬ (k < n ∧ isD (f k) = true)) := fun h => hdg h.2
          have hnd : f k < 48 ∨ 57 < f k := by rw [isD_iff] at hdg; omega
          clear hdg
          by_cases hj : j = 0
          · have hks : ((k : Int) == s) = true := by have := Hk.out; simp; omega
            rcases hnd with hnd | hnd
            all_goals
              (go_wp2
               exact bodyPost_ret (v := .tuple #[.agg #[.bool sg, .int .u64 m], .bool false]) (by simp [results, Try.results29, go_sem, HE.out]) rfl (wpost_mk HL.out Hst.out Hsg.out hrb Hk.out Hm.out (.inr ⟨HDG.out, by simp [hj]⟩)))
          · have hks : ((k : Int) == s) = false := by have := Hk.out; simp; omega
            have hsk2 : s < k := by have := Hk.out; omega
            have g0 : wr.cell? ⟨b, off + s, none⟩ = some (.int .u8 (f s)) := HL.out.gr.cell (hc s (by omega)) (by simpa using hne b off rfl (by omega))
            have hi0 : (s : Int) < n := by omega
            clear hc
            rcases hnd with hnd | hnd
            all_goals
              (go_wp2
               all_goals first
                 | (refine bodyPost_ret (v := .tuple #[.agg #[.bool sg, .int .u64 m], .bool true]) ?_ rfl (wpost_mk HL.out Hst.out Hsg.out hrb Hk.out Hm.out (.inr ⟨HDG.out, ok_yes hj Hk.out ?_ (fun _ => nfe (by assumption))⟩))
                    · (simp [results, Try.results29, go_sem, HE.out]; done)
                    · first | exact .inl (by assumption) | exact .inr (by assumption))
                 | (refine bodyPost_ret (v := .tuple #[.agg #[.bool sg, .int .u64 m], .bool false]) ?_ rfl (wpost_mk HL.out Hst.out Hsg.out hrb Hk.out Hm.out (.inr ⟨HDG.out, ?_⟩))
                    · (simp [results, Try.results29, go_sem, HE.out]; done)
                    · first | exact ok_lead Hk.out (by assumption) (by assumption) | exact ok_fe h1 (fe1 (by assumption)) | exact ok_fe h1 (fe2 (by assumption)) | exact ok_fe h1 (fe3 (by assumption))))
      · have hi1 : ¬ ((k : Int) < n) := by omega
        by_cases hj : j = 0
        · have hks : ((k : Int) == s) = true := by have := Hk.out; simp; omega
          go_wp2
          exact bodyPost_ret (v := .tuple #[.agg #[.bool sg, .int .u64 m], .bool false]) (by simp [results, Try.results29, go_sem, HE.out]) rfl (wpost_mk HL.out Hst.out Hsg.out hrb Hk.out Hm.out (.inr ⟨by omega, by simp [hj]⟩))
        · have hks : ((k : Int) == s) = false := by have := Hk.out; simp; omega
          have hsk2 : s < n := by have := Hk.out; have := HL.out.dig 0 (by omega); omega
          rcases Hh.out with h0 | ⟨b, off, rfl, hc⟩
          · omega
          have g0 : wr.cell? ⟨b, off + s, none⟩ = some (.int .u8 (f s)) := HL.out.gr.cell (hc s hsk2) (by simpa using hne b off rfl (by omega))
          have hi0 : (s : Int) < n := by omega
          clear hc
          go_wp2
          all_goals first
            | (refine bodyPost_ret (v := .tuple #[.agg #[.bool sg, .int .u64 m], .bool true]) ?_ rfl (wpost_mk HL.out Hst.out Hsg.out hrb Hk.out Hm.out (.inr ⟨fun h => h1 h.1, ok_yes hj Hk.out ?_ (fun h => absurd h h1)⟩))
               · (simp [results, Try.results29, go_sem, HE.out]; done)
               · first | exact .inl (by assumption) | exact .inr (by assumption))
            | (refine bodyPost_ret (v := .tuple #[.agg #[.bool sg, .int .u64 m], .bool false]) ?_ rfl (wpost_mk HL.out Hst.out Hsg.out hrb Hk.out Hm.out (.inr ⟨fun h => h1 h.1, ?_⟩))
               · (simp [results, Try.results29, go_sem, HE.out]; done)
               · exact ok_lead Hk.out (by assumption) (by assumption))
end Go.Proofs.Qxb6603796a
