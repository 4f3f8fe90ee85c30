import Derived.Test.Qxb6003468aLaw7
import Derived.Test.Qxb6003468aParse
namespace Go.Proofs.Qxb6003468a
open Go.RowKit

theorem goM_prefix {f : Nat → Int} {i a b : Nat} {s s' : Ev} (h : goM f i (a + b) s = some s') : ∃ s1, goM f i a s = some s1 := by
  rw [goM_add] at h
  cases e : goM f i a s with
  | none => rw [e] at h; cases h
  | some s1 => exact ⟨s1, rfl⟩

theorem tok_six {s s' : Ev} {t : Int} (ht : t = 6) (h : tokM s t = some s') : s.isOpen = true ∧ s' = s.cls := by
  subst ht
  simp only [tokM] at h
  simp at h
  exact ⟨h.1, h.2.symm⟩

set_option maxHeartbeats 4000000 in
set_option maxRecDepth 100000 in
/-- THE WALK of FnCloseEvaluatesConditionsLikeTheGrammar. -/
theorem l8_main (a : Option Addr) (n c : Nat) (f : Nat → Int) (w : World) (r : Row w a n f) (ha : a = none → n = 0) (hn : n ≤ 65536) :
    Calls Try.prog 6 #[.slice a n c] w fun e w' => e = .returned (.bool true) ∧ Below w.heap.size w w' := by
  have R : Hid (Row w a n f) := r
  have HA : Hid (a = none → n = 0) := ha
  clear r ha
  go_enter Try.func6, Try.ntmps6
  go_wp2_with (first | (go_at_call 23; go_in) | (go_at_call 16; refine (clone_any a n c f _ R.out (by omega) HA.out).mono ?_; rintro e w1 ⟨x1, rfl, ro1, _, be1⟩))
  have hz : ((0 : Nat) : Int) = 0 := rfl
  refine (expr_any x1 n 0 f w1 ro1 (by omega) (Nat.zero_le _)).mono ?_
  rintro e w1' ⟨v, j, ok, rfl, hj, hx, rfl⟩
  clear hz
  by_cases hgood : ok = true ∧ j = n
  · obtain ⟨rfl, rfl⟩ := hgood
    obtain ⟨_, _, hE⟩ := hx rfl
    obtain ⟨sf, hs1, _, _, _, hs5⟩ := hE Ev.ini rfl rfl rfl rfl
    have hs2 : goM f 0 j Ev.ini = some sf := hs1
    have HF : Hid (goM f 0 j Ev.ini = some sf) := hs2
    have HV : Hid ((sf.any || sf.all) = v) := hs5
    clear hx hE hs1 hs2 hs5
    have hne : ((j : Int) != j) = false := by simp
    go_wp2_with fail
    obtain ⟨eb, heb⟩ : ∃ eb, eb = w1.heap.size := ⟨_, rfl⟩
    have hev := ev_new w1
    rw [← heb] at hev ⊢
    have hba : Below eb w1 (w1.alloc (.cells #[.bool false, .bool false, .bool false, .int .u64 0, .slice none 0 0, .int .i64 0, .int .i64 0, .bool false] 38)) := (Below.refl eb w1).alloc (by rw [heb]; exact Nat.le_refl _) _
    refine (set_any eb false true false false false false [] 0 false _ hev).mono ?_
    rintro e w2 ⟨rfl, h1, h2⟩
    have HL0 : Hid (L7 w w2 eb x1 j f Ev.ini) := by
      have hb2 : Below eb w1 w2 := hba.trans h2
      have hle : w.heap.size ≤ eb := by rw [heb]; exact be1.size
      refine ⟨h1, ?_, be1.trans (hb2.mono hle), hle, fun b o hx h0 => ?_⟩
      · exact ro1.keep (by rw [← heb]; exact hb2)
      · rcases ro1 with q | ⟨b', o', hx', hc⟩
        · exact absurd q h0
        · rw [hx] at hx'
          obtain ⟨rfl, rfl⟩ : b = b' ∧ o = o' := by simpa using hx'
          rw [heb]
          have := World.block_lt_of_cell? _ _ (hc 0 (by omega))
          simpa using this
    clear hev hba h1 h2 ro1 be1 heb R HA
    go_wp2_with fail
    go_loopg [7] j (fun g i wr => ∃ (k : Nat) (s : Ev), k ≤ j ∧ g = j - k ∧ i = .int .i64 (k : Int) ∧ goM f 0 k Ev.ini = some s ∧ s.dep ≤ k ∧ L7 w wr eb x1 j f s)
    case atStart => exact ⟨0, Ev.ini, by omega, rfl, rfl, rfl, Nat.le_refl _, HL0.out⟩
    case round =>
      obtain ⟨k, s, hk, rfl, rfl, hgo, hdk, hL⟩ := hrel
      have HL : Hid (L7 w wr eb x1 j f s) := hL
      have HGo : Hid (goM f 0 k Ev.ini = some s) := hgo
      clear HL0 hL hgo
      by_cases hlt : k < j
      · have hi : (k : Int) < j := by omega
        obtain ⟨b, o, rfl, hc⟩ : ∃ b o, x1 = some ⟨b, o, none⟩ ∧ wr.cell? ⟨b, o + k, none⟩ = some (.int .u8 (f k)) := by
          rcases HL.out.row with h0 | ⟨b, o, hx, hc⟩
          · omega
          · exact ⟨b, o, hx, hc k hlt⟩
        by_cases h0 : f k = 0
        · have HS : Hid (goM f 0 (k + 1) Ev.ini = some (s.opd false)) := by rw [Hid, goM, HGo.out, Option.bind_some, Nat.zero_add, h0]; rfl
          go_wp2_with (go_at_call 18; refine (opd_any eb false s _ HL.out.ev).mono ?_; rintro e w2 ⟨rfl, q1, q2⟩)
          have HN : Hid (L7 w w2 eb (some ⟨b, o, none⟩) j f (s.opd false)) := l7_step HL.out q1 q2
          clear q1 q2
          try go_wp2
          go_roundg (j - (k + 1))
          case measure => omega
          case rel => exact ⟨k + 1, (s.opd false), by omega, rfl, by go_num, HS.out, by rw [dep_opd]; omega, HN.out⟩
        by_cases h1 : f k = 1
        · have HS : Hid (goM f 0 (k + 1) Ev.ini = some (s.opd true)) := by rw [Hid, goM, HGo.out, Option.bind_some, Nat.zero_add, h1]; rfl
          go_wp2_with (go_at_call 18; refine (opd_any eb true s _ HL.out.ev).mono ?_; rintro e w2 ⟨rfl, q1, q2⟩)
          have HN : Hid (L7 w w2 eb (some ⟨b, o, none⟩) j f (s.opd true)) := l7_step HL.out q1 q2
          clear q1 q2
          try go_wp2
          go_roundg (j - (k + 1))
          case measure => omega
          case rel => exact ⟨k + 1, (s.opd true), by omega, rfl, by go_num, HS.out, by rw [dep_opd]; omega, HN.out⟩
        by_cases h2 : f k = 2
        · have HS : Hid (goM f 0 (k + 1) Ev.ini = some s.nott) := by rw [Hid, goM, HGo.out, Option.bind_some, Nat.zero_add, h2]; rfl
          go_wp2_with (go_at_call 19; refine (nott_any eb s _ HL.out.ev).mono ?_; rintro e w2 ⟨rfl, q1, q2⟩)
          have HN : Hid (L7 w w2 eb (some ⟨b, o, none⟩) j f s.nott) := l7_step HL.out q1 q2
          clear q1 q2
          try go_wp2
          go_roundg (j - (k + 1))
          case measure => omega
          case rel => exact ⟨k + 1, s.nott, by omega, rfl, by go_num, HS.out, by rw [dep_nott]; omega, HN.out⟩
        by_cases h4 : f k = 4
        · have HS : Hid (goM f 0 (k + 1) Ev.ini = some s.orr) := by rw [Hid, goM, HGo.out, Option.bind_some, Nat.zero_add, h4]; rfl
          go_wp2_with (go_at_call 20; refine (orr_any eb s _ HL.out.ev).mono ?_; rintro e w2 ⟨rfl, q1, q2⟩)
          have HN : Hid (L7 w w2 eb (some ⟨b, o, none⟩) j f s.orr) := l7_step HL.out q1 q2
          clear q1 q2
          try go_wp2
          go_roundg (j - (k + 1))
          case measure => omega
          case rel => exact ⟨k + 1, s.orr, by omega, rfl, by go_num, HS.out, by rw [dep_orr]; omega, HN.out⟩
        by_cases h5 : f k = 5
        · have HS : Hid (goM f 0 (k + 1) Ev.ini = some s.opn) := by rw [Hid, goM, HGo.out, Option.bind_some, Nat.zero_add, h5]; rfl
          go_wp2_with (go_at_call 21; refine (zzopen_any eb s _ HL.out.ev (by omega)).mono ?_; rintro e w2 ⟨rfl, q1, q2⟩)
          have HN : Hid (L7 w w2 eb (some ⟨b, o, none⟩) j f s.opn) := l7_step HL.out q1 q2
          clear q1 q2
          try go_wp2
          go_roundg (j - (k + 1))
          case measure => omega
          case rel => exact ⟨k + 1, s.opn, by omega, rfl, by go_num, HS.out, by rw [dep_opn]; omega, HN.out⟩
        by_cases h6 : f k = 6
        · obtain ⟨s2, hs2⟩ : ∃ s2, goM f 0 (k + 1) Ev.ini = some s2 := by
            have h := HF.out
            rw [show j = (k + 1) + (j - (k + 1)) by omega] at h
            exact goM_prefix h
          have hs3 := hs2
          rw [goM, HGo.out, Option.bind_some, Nat.zero_add] at hs3
          obtain ⟨hop, rfl⟩ := tok_six h6 hs3
          have HS : Hid (goM f 0 (k + 1) Ev.ini = some s.cls) := hs2
          have HIO : Hid (s.isOpen = true) := hop
          clear hs2 hs3 hop
          go_wp2_with (go_at_call 22; refine (zzclose_any eb s _ HL.out.ev (by omega)).mono ?_; rintro e w2 ⟨rfl, q1, q2⟩; rw [HIO.out])
          have HN : Hid (L7 w w2 eb (some ⟨b, o, none⟩) j f s.cls) := l7_step HL.out q1 q2
          clear q1 q2
          try go_wp2
          go_roundg (j - (k + 1))
          case measure => omega
          case rel => exact ⟨k + 1, s.cls, by omega, rfl, by go_num, HS.out, by rw [dep_cls]; omega, HN.out⟩
        · have HS : Hid (goM f 0 (k + 1) Ev.ini = some s) := by rw [Hid, goM, HGo.out, Option.bind_some, Nat.zero_add]; simp [tokM, h0, h1, h2, h4, h5, h6]
          have e0 : (f k == 0) = false := by simp [h0]
          have e1 : (f k == 1) = false := by simp [h1]
          have e2 : (f k == 2) = false := by simp [h2]
          have e4 : (f k == 4) = false := by simp [h4]
          have e5 : (f k == 5) = false := by simp [h5]
          have e6 : (f k == 6) = false := by simp [h6]
          clear h0 h1 h2 h4 h5 h6
          go_wp2
          go_roundg (j - (k + 1))
          case measure => omega
          case rel => exact ⟨k + 1, s, by omega, rfl, by go_num, HS.out, by omega, HL.out⟩
      · have hi : ¬ ((k : Int) < j) := by omega
        obtain rfl : k = j := by omega
        obtain rfl : s = sf := by
          have h := HF.out
          rw [HGo.out] at h
          exact Option.some.inj h
        have HBB : Hid (Below w.heap.size w wr) := HL.out.bel
        have hsv : (s.any || s.all) = v := HV.out
        obtain ⟨an, hann⟩ : ∃ an, an = s.any := ⟨_, rfl⟩
        obtain ⟨al, hall⟩ : ∃ al, al = s.all := ⟨_, rfl⟩
        rw [← hann, ← hall] at hsv
        have HAn : Hid (an = s.any) := hann
        have HAl : Hid (al = s.all) := hall
        have HSV : Hid ((an || al) = v) := hsv
        clear hann hall hsv HV HF HGo
        go_wp2_with fail
        refine (state_any eb s.any s.all s.neg s.stk s.sk s.sa wr HL.out.ev).mono ?_
        rintro e w2 ⟨rfl, q, rfl⟩
        rw [← HAn.out, ← HAl.out]
        have hv := HSV.out
        clear HSV HAn HAl
        subst hv
        cases an
        · cases al
          all_goals
            (go_wp2
             go_ret
             exact ⟨rfl, bel_drewN HBB.out q⟩)
        · cases al
          all_goals
            (go_wp2
             go_ret
             exact ⟨rfl, bel_drewN HBB.out q⟩)
  · by_cases hok : ok = true
    · have hjn : ((j : Int) != n) = true := by
        have : j ≠ n := fun e => hgood ⟨hok, e⟩
        simp; omega
      subst hok
      clear hx hgood
      have HB : Hid (Below w.heap.size w w1) := be1
      clear ro1 be1
      go_wp2
      go_ret
      exact ⟨rfl, HB.out⟩
    · have hok' : ok = false := by cases ok <;> simp at hok ⊢
      subst hok'
      clear hx hgood hok
      have HB : Hid (Below w.heap.size w w1) := be1
      clear ro1 be1
      go_wp2
      go_ret
      exact ⟨rfl, HB.out⟩

set_option maxRecDepth 100000 in
/-- The law's own bounds answer 'true' where more than 1<<16 tokens came in. -/
theorem l8_out (a : Option Addr) (n c : Nat) (w : World) (hm : (n : Int) ≤ 9223372036854775807) (h : 65536 < n) :
    Calls Try.prog 6 #[.slice a n c] w fun e w' => e = .returned (.bool true) ∧ Below w.heap.size w w' := by
  by_cases hb : 1048576 < n
  · go_enter Try.func6, Try.ntmps6
    go_wp2
    go_ret
    exact ⟨rfl, Below.refl _ _⟩
  · go_enter Try.func6, Try.ntmps6
    go_wp2
    go_ret
    exact ⟨rfl, Below.refl _ _⟩

end Go.Proofs.Qxb6003468a
