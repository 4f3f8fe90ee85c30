import Derived.Test.Qxb6003468aBase
namespace Go.Proofs.Qxb6003468a
open Go.RowKit

set_option maxHeartbeats 400000 in
/-- cloneBytes: a fresh copy. -/
theorem clone_any (a : Option Addr) (n c : Nat) (f : Nat → Int) (w : World) (h : Row w a n f) (hn : n ≤ 1048576) (ha : a = none → n = 0) :
    Calls Try.prog 16 #[.slice a n c] w fun e w' => ∃ a', e = .returned (.slice a' n n) ∧ Row w' a' n f ∧ (a' = none → n = 0) ∧ Below w.heap.size w w' := by
  have q22 : ∀ (w : World) (a : Option Addr) (n c n' c' : Nat), (binOp .eql 30 (.slice a n c) (.slice none n' c')).run Try.prog w = .ok (.bool a.isNone) w := fun w a n c n' c' => Lib.run_eql_slice_nil w _ _ a n c n' c' Try.underlying30
  cases a with
  | none =>
    obtain rfl := ha rfl
    go_enter Try.func16, Try.ntmps16
    go_wp2
    go_ret
    exact ⟨_, rfl, .inl rfl, Below.refl _ _⟩
  | some x =>
    have hmk := run_make_row' (P := Try.prog) 30 5 (.int .u8 0) 1 Try.underlying30 Try.info5 rfl .i64 .i64 n (by omega) (by omega)
    have hrow0 := (World.rowIs_made w (.int .u8 0) n 5)
    have hb0 : Below w.heap.size w (w.alloc (.cells (madeCells #[.int .u8 0] n) 5)) := (Below.refl _ _).alloc (Nat.le_refl _) _
    have Hr0 : Hid ((w.alloc (.cells (madeCells #[.int .u8 0] n) 5)).rowIs w.heap.size 5 n (fun j => if j < 0 then .int .u8 (f j) else .int .u8 0)) := hrow0.congr (fun j _ => by simp)
    clear hrow0
    go_enter Try.func16, Try.ntmps16
    go_wp2
    go_loopg [4] n (fun g i wr => ∃ k : Nat, k ≤ n ∧ g = n - k ∧ i = .int .i64 k ∧ wr.rowIs w.heap.size 5 n (fun j => if j < k then .int .u8 (f j) else .int .u8 0) ∧ Below w.heap.size w wr)
    case atStart => exact ⟨0, Nat.zero_le _, rfl, rfl, Hr0.out, hb0⟩
    case round =>
      obtain ⟨k, hk, rfl, rfl, hR, hB⟩ := hrel
      clear hmk q22 hb0 Hr0
      by_cases hlt : k < n
      · rcases h with h | ⟨b, o, hx, hc⟩
        · omega
        · obtain rfl := Option.some.inj hx
          have g1 : wr.cell? ⟨b, o + k, none⟩ = some (.int .u8 (f k)) := cell_later hB (hc k hlt)
          have g2 : wr.cell? ⟨w.heap.size, k, none⟩ = some (.int .u8 0) := by simpa using hR.cell hlt
          have g3 : wr.frozen? ⟨w.heap.size, k, none⟩ = false := hR.frozen k
          have HR := (hR.set k (.int .u8 (f k)))
          have HR2 : Hid ((wr.setCell ⟨w.heap.size, k, none⟩ (.int .u8 (f k))).rowIs w.heap.size 5 n (fun j => if j < k + 1 then .int .u8 (f j) else .int .u8 0)) := by
            refine HR.congr (fun j _ => ?_)
            by_cases e : j = k
            · subst e; simp
            · by_cases e2 : j < k
              · simp [e, e2, show j < k + 1 by omega]
              · simp [e, e2, show ¬ j < k + 1 by omega]
          have HB : Hid (Below w.heap.size w (wr.setCell ⟨w.heap.size, k, none⟩ (.int .u8 (f k)))) := hB.setCell (Nat.le_refl _) _
          clear HR hR hc hB
          go_wp2
          go_roundg (n - (k + 1))
          case measure => omega
          case rel => exact ⟨k + 1, by omega, rfl, by go_num, HR2.out, HB.out⟩
      · go_wp2
        go_ret
        have : k = n := by omega
        subst this
        exact ⟨_, rfl, .inr ⟨w.heap.size, 0, rfl, fun i hi => by simpa [hi] using hR.cell hi⟩, by simp, hB⟩

end Go.Proofs.Qxb6003468a
