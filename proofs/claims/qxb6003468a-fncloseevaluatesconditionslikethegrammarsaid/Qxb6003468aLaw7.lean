import Derived.Test.Qxb6003468aZZ
import Derived.Test.Qxb6003468aClone
import Derived.Test.Qxb6003468aIn
namespace Go.Proofs.Qxb6003468a
open Go.RowKit

/-- What holds at the loop's head. -/
structure L7 (w wr : World) (eb : Nat) (x1 : Option Addr) (n : Nat) (f : Nat → Int) (s : Ev) : Prop where
  ev : EvAt eb wr s
  row : Row wr x1 n f
  bel : Below w.heap.size w wr
  le : w.heap.size ≤ eb
  far : ∀ b o, x1 = some ⟨b, o, none⟩ → n ≠ 0 → b < eb

theorem l7_step {w wr w1 : World} {eb : Nat} {x1 : Option Addr} {n : Nat} {f : Nat → Int} {s s' : Ev} (h : L7 w wr eb x1 n f s) (h1 : EvAt eb w1 s') (h2 : Below eb wr w1) : L7 w w1 eb x1 n f s' := by
  obtain ⟨a1, a2, a3, a4, a5⟩ := h
  refine ⟨h1, ?_, a3.trans (h2.mono a4), a4, a5⟩
  rcases a2 with a2 | ⟨b, o, ha, hc⟩
  · exact .inl a2
  · by_cases hn : n = 0
    · exact .inl hn
    · exact .inr ⟨b, o, ha, fun i hi => by rw [h2.cell (p := ⟨b, o + i, none⟩) (a5 b o ha hn)]; exact hc i hi⟩

set_option maxHeartbeats 4000000 in
set_option maxRecDepth 100000 in
/-- THE WALK of FnCloseReportsWhetherAParenthesisIsOpen. -/
theorem l7_main (a : Option Addr) (n c : Nat) (f : Nat → Int) (w : World) (r : Row w a n f) (y : Byt f) (ha : a = none → n = 0) (hn : n ≤ 1048576) :
    Calls Try.prog 5 #[.slice a n c] w fun e w' => e = .returned (.bool true) ∧ Below w.heap.size w w' := by
  have R : Hid (Row w a n f) := r
  have HA : Hid (a = none → n = 0) := ha
  clear r ha
  go_enter Try.func5, Try.ntmps5
  go_wp2_with (first | (go_at_call 15; go_in) | (go_at_call 16; refine (clone_any a n c f _ R.out hn HA.out).mono ?_; rintro e w1 ⟨x1, rfl, ro1, _, be1⟩))
  obtain ⟨eb, heb⟩ : ∃ eb, eb = w1.heap.size := ⟨_, rfl⟩
  have HEB : Hid (eb = w1.heap.size) := heb
  have hev := ev_new w1
  rw [← heb] at hev ⊢
  have hba : Below eb w1 (w1.alloc (.cells #[.bool false, .bool false, .bool false, .int .u64 0, .slice none 0 0, .int .i64 0, .int .i64 0, .bool false] 38)) := (Below.refl eb w1).alloc (by rw [heb]; exact Nat.le_refl _) _
  refine (set_any eb false true false false false false [] 0 false _ hev).mono ?_
  rintro e w2 ⟨rfl, h1, h2⟩
  have HL0 : Hid (L7 w w2 eb x1 n f Ev.ini) := by
    have hb2 : Below eb w1 w2 := hba.trans h2
    have hle : w.heap.size ≤ eb := by rw [heb]; exact be1.size
    refine ⟨h1, ?_, be1.trans (hb2.mono hle), hle, fun b o hx h0 => ?_⟩
    · exact ro1.keep (by rw [← heb]; exact hb2)
    · rcases ro1 with q | ⟨b', o', hx', hc⟩
      · exact absurd q h0
      · rw [hx] at hx'
        obtain ⟨rfl, rfl⟩ : b = b' ∧ o = o' := by simpa using hx'
        rw [heb]
        have := World.block_lt_of_cell? _ _ (hc 0 (by omega))
        simpa using this
  clear hev hba h1 h2 ro1 be1 heb HEB R HA
  go_wp2_with fail
  go_loopg [4, 5] n (fun g dp i wr => ∃ (k : Nat) (s : Ev), k ≤ n ∧ g = n - k ∧ i = .int .i64 (k : Int) ∧ dp = .int .i64 ((s.dep : Nat) : Int) ∧ s.dep ≤ k ∧ L7 w wr eb x1 n f s)
  case atStart => exact ⟨0, Ev.ini, by omega, rfl, rfl, rfl, Nat.le_refl _, HL0.out⟩
  case round =>
    obtain ⟨k, s, hk, rfl, rfl, rfl, hdk, hL⟩ := hrel
    have HL : Hid (L7 w wr eb x1 n f s) := hL
    clear HL0 hL
    obtain ⟨D, hD⟩ : ∃ D, D = s.dep := ⟨_, rfl⟩
    have HD : Hid (D = s.dep) := hD
    rw [← hD] at hdk ⊢
    clear hD
    by_cases hlt : k < n
    · have hi : (k : Int) < n := by omega
      obtain ⟨b, o, rfl, hc⟩ : ∃ b o, x1 = some ⟨b, o, none⟩ ∧ wr.cell? ⟨b, o + k, none⟩ = some (.int .u8 (f k)) := by
        rcases HL.out.row with h0 | ⟨b, o, hx, hc⟩
        · omega
        · exact ⟨b, o, hx, hc k hlt⟩
      obtain ⟨y0, y1⟩ := y k
      have hr : f k % 7 = 0 ∨ f k % 7 = 1 ∨ f k % 7 = 2 ∨ f k % 7 = 3 ∨ f k % 7 = 4 ∨ f k % 7 = 5 ∨ f k % 7 = 6 := by omega
      rcases hr with hr | hr | hr | hr | hr | hr | hr
      · -- 0
        go_wp2_with (go_at_call 18; refine (opd_any eb false s _ HL.out.ev).mono ?_; rintro e w2 ⟨rfl, q1, q2⟩)
        have HN : Hid (L7 w w2 eb (some ⟨b, o, none⟩) n f (s.opd false)) := l7_step HL.out q1 q2
        clear q1 q2
        try go_wp2
        go_roundg (n - (k + 1))
        case measure => omega
        case rel => exact ⟨k + 1, (s.opd false), by omega, rfl, by go_num, by rw [dep_opd, ← HD.out], by rw [dep_opd, ← HD.out]; omega, HN.out⟩
      · -- 1
        go_wp2_with (go_at_call 18; refine (opd_any eb true s _ HL.out.ev).mono ?_; rintro e w2 ⟨rfl, q1, q2⟩)
        have HN : Hid (L7 w w2 eb (some ⟨b, o, none⟩) n f (s.opd true)) := l7_step HL.out q1 q2
        clear q1 q2
        try go_wp2
        go_roundg (n - (k + 1))
        case measure => omega
        case rel => exact ⟨k + 1, (s.opd true), by omega, rfl, by go_num, by rw [dep_opd, ← HD.out], by rw [dep_opd, ← HD.out]; omega, HN.out⟩
      · -- 2
        go_wp2_with (go_at_call 19; refine (nott_any eb s _ HL.out.ev).mono ?_; rintro e w2 ⟨rfl, q1, q2⟩)
        have HN : Hid (L7 w w2 eb (some ⟨b, o, none⟩) n f s.nott) := l7_step HL.out q1 q2
        clear q1 q2
        try go_wp2
        go_roundg (n - (k + 1))
        case measure => omega
        case rel => exact ⟨k + 1, s.nott, by omega, rfl, by go_num, by rw [dep_nott, ← HD.out], by rw [dep_nott, ← HD.out]; omega, HN.out⟩
      · -- 3
        go_wp2
        go_roundg (n - (k + 1))
        case measure => omega
        case rel => exact ⟨k + 1, s, by omega, rfl, by go_num, by rw [← HD.out], by rw [← HD.out]; omega, HL.out⟩
      · -- 4
        go_wp2_with (go_at_call 20; refine (orr_any eb s _ HL.out.ev).mono ?_; rintro e w2 ⟨rfl, q1, q2⟩)
        have HN : Hid (L7 w w2 eb (some ⟨b, o, none⟩) n f s.orr) := l7_step HL.out q1 q2
        clear q1 q2
        try go_wp2
        go_roundg (n - (k + 1))
        case measure => omega
        case rel => exact ⟨k + 1, s.orr, by omega, rfl, by go_num, by rw [dep_orr, ← HD.out], by rw [dep_orr, ← HD.out]; omega, HN.out⟩
      · -- 5
        go_wp2_with (go_at_call 21; refine (zzopen_any eb s _ HL.out.ev (by rw [← HD.out]; omega)).mono ?_; rintro e w2 ⟨rfl, q1, q2⟩)
        have HN : Hid (L7 w w2 eb (some ⟨b, o, none⟩) n f s.opn) := l7_step HL.out q1 q2
        clear q1 q2
        try go_wp2
        go_roundg (n - (k + 1))
        case measure => omega
        case rel => exact ⟨k + 1, s.opn, by omega, rfl, by go_num, by rw [dep_opn, ← HD.out]; go_num, by rw [dep_opn, ← HD.out]; omega, HN.out⟩
      · -- 6
        by_cases h0 : D = 0
        · have hio : s.isOpen = false := by simp only [Ev.isOpen]; rw [show s.sk + s.stk.length = s.dep from rfl, ← HD.out, h0]; rfl
          have HIO : Hid (s.isOpen = false) := hio
          subst h0
          clear hio
          go_wp2_with (go_at_call 22; refine (zzclose_any eb s _ HL.out.ev (by rw [← HD.out]; omega)).mono ?_; rintro e w2 ⟨rfl, q1, q2⟩; rw [HIO.out])
          have HN : Hid (L7 w w2 eb (some ⟨b, o, none⟩) n f s.cls) := l7_step HL.out q1 q2
          clear q1 q2
          try go_wp2
          go_roundg (n - (k + 1))
          case measure => omega
          case rel => exact ⟨k + 1, s.cls, by omega, rfl, by go_num, by rw [dep_cls, ← HD.out]; rfl, by rw [dep_cls, ← HD.out]; omega, HN.out⟩
        · obtain ⟨E, rfl⟩ : ∃ E, D = E + 1 := ⟨D - 1, by omega⟩
          have hio : s.isOpen = true := by simp only [Ev.isOpen]; rw [show s.sk + s.stk.length = s.dep from rfl, ← HD.out]; simp
          have HIO : Hid (s.isOpen = true) := hio
          have hpos : (0 : Int) < (E : Int) + 1 := by omega
          clear hio h0
          go_wp2_with (go_at_call 22; refine (zzclose_any eb s _ HL.out.ev (by rw [← HD.out]; omega)).mono ?_; rintro e w2 ⟨rfl, q1, q2⟩; rw [HIO.out])
          have HN : Hid (L7 w w2 eb (some ⟨b, o, none⟩) n f s.cls) := l7_step HL.out q1 q2
          clear q1 q2
          try go_wp2
          go_roundg (n - (k + 1))
          case measure => omega
          case rel => exact ⟨k + 1, s.cls, by omega, rfl, by go_num, by rw [dep_cls, ← HD.out]; go_num, by rw [dep_cls, ← HD.out]; omega, HN.out⟩
    · have hi : ¬ ((k : Int) < n) := by omega
      go_wp2
      go_ret
      exact ⟨rfl, HL.out.bel⟩

set_option maxHeartbeats 400000 in
/-- The way on which the law's own bound answers. -/
theorem l7_out (a : Option Addr) (n c : Nat) (w : World) (hm : (n : Int) ≤ 9223372036854775807) (h : 1048576 < n) :
    Calls Try.prog 5 #[.slice a n c] w fun e w' => e = .returned (.bool true) ∧ Below w.heap.size w w' := by
  go_enter Try.func5, Try.ntmps5
  go_wp2
  go_ret
  exact ⟨rfl, Below.refl _ _⟩

end Go.Proofs.Qxb6003468a
