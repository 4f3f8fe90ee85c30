import Derived.Test.Qxb6003468aOpen
import Derived.Test.Qxb6003468aMach
namespace Go.Proofs.Qxb6003468a
open Go.RowKit

def EvAt (eb : Nat) (w : World) (s : Ev) : Prop := EvIs eb w s.any s.all s.neg s.stk s.sk s.sa
/-- A call that leaves the machine's state s. -/
def SPost (eb : Nat) (w : World) (v : Value) (s : Ev) (e : Ending) (w' : World) : Prop := e = .returned v ∧ EvAt eb w' s ∧ Below eb w w'

theorem open_any (eb : Nat) (s : Ev) (w : World) (h : EvAt eb w s) (hd : s.dep ≤ 1048576) : Calls Try.prog 37 #[.pointer (some ⟨eb, 0, none⟩)] w (SPost eb w (.tuple #[]) s.opn) := by
  obtain ⟨any, all, neg, stk, sk, sa⟩ := s
  have h' : EvIs eb w any all neg stk sk sa := h
  simp only [Ev.dep] at hd
  unfold Ev.opn
  by_cases h1 : 0 < sk
  · simp only [h1, if_true]
    exact open_skip eb any all neg stk sk sa w h' h1 (by omega)
  · obtain rfl : sk = 0 := by omega
    by_cases h2 : (any || !all) = true
    · simp only [h2, if_true]
      exact open_dead eb any all neg stk sa w h' h2
    · have h3 : any = false ∧ all = true := by
        cases any <;> cases all <;> simp at h2 ⊢
      obtain ⟨rfl, rfl⟩ := h3
      exact open_live eb neg stk sa w h' (by omega)

theorem close_any (eb : Nat) (s : Ev) (w : World) (h : EvAt eb w s) (hd : s.dep ≤ 1048576) : Calls Try.prog 38 #[.pointer (some ⟨eb, 0, none⟩)] w (SPost eb w (.bool s.isOpen) s.cls) := by
  obtain ⟨any, all, neg, stk, sk, sa⟩ := s
  have h' : EvIs eb w any all neg stk sk sa := h
  simp only [Ev.dep] at hd
  cases sk with
  | succ k =>
    have e : Ev.isOpen ⟨any, all, neg, stk, k + 1, sa⟩ = true := by simp [Ev.isOpen]; omega
    rw [e]
    exact close_skip eb any all neg stk k sa w h' (by omega)
  | zero =>
    cases stk with
    | nil => exact close_none eb any all neg sa w h'
    | cons b rest =>
      simp only [List.length_cons] at hd
      have e : Ev.isOpen ⟨any, all, neg, b :: rest, 0, sa⟩ = true := by simp [Ev.isOpen]
      rw [e]
      exact close_live eb b any all neg rest sa w h' (by omega)

set_option maxHeartbeats 400000 in
theorem zzopen_any (eb : Nat) (s : Ev) (w : World) (h : EvAt eb w s) (hd : s.dep ≤ 1048576) : Calls Try.prog 21 #[.pointer (some ⟨eb, 0, none⟩)] w (SPost eb w (.tuple #[]) s.opn) := by
  go_enter Try.func21, Try.ntmps21
  go_wp2_with fail
  refine (open_any eb s w h hd).mono ?_
  rintro e w1 ⟨rfl, h1, h2⟩
  have HP : Hid (EvAt eb w1 s.opn ∧ Below eb w w1) := ⟨h1, h2⟩
  clear h1 h2
  go_wp2
  go_end0
  exact ⟨rfl, HP.out.1, HP.out.2⟩

set_option maxHeartbeats 400000 in
theorem zzclose_any (eb : Nat) (s : Ev) (w : World) (h : EvAt eb w s) (hd : s.dep ≤ 1048576) : Calls Try.prog 22 #[.pointer (some ⟨eb, 0, none⟩)] w (SPost eb w (.bool s.isOpen) s.cls) := by
  go_enter Try.func22, Try.ntmps22
  go_wp2_with fail
  refine (close_any eb s w h hd).mono ?_
  rintro e w1 ⟨rfl, h1, h2⟩
  have HP : Hid (EvAt eb w1 s.cls ∧ Below eb w w1) := ⟨h1, h2⟩
  clear h1 h2
  go_wp2
  go_ret
  exact ⟨rfl, HP.out.1, HP.out.2⟩

theorem opd_any (eb : Nat) (v : Bool) (s : Ev) (w : World) (h : EvAt eb w s) : Calls Try.prog 18 #[.pointer (some ⟨eb, 0, none⟩), .bool v] w (SPost eb w (.tuple #[]) (s.opd v)) :=
  zzoperand_any eb v s.any s.all s.neg s.stk s.sk s.sa w h
theorem nott_any (eb : Nat) (s : Ev) (w : World) (h : EvAt eb w s) : Calls Try.prog 19 #[.pointer (some ⟨eb, 0, none⟩)] w (SPost eb w (.tuple #[]) s.nott) :=
  not_any eb s.any s.all s.neg s.stk s.sk s.sa w h
theorem orr_any (eb : Nat) (s : Ev) (w : World) (h : EvAt eb w s) : Calls Try.prog 20 #[.pointer (some ⟨eb, 0, none⟩)] w (SPost eb w (.tuple #[]) s.orr) :=
  or_any eb s.any s.all s.neg s.stk s.sk s.sa w h

/-- The new evaluation, all zero, its flags set. -/
theorem ev_new (w : World) : EvIs w.heap.size (w.alloc (.cells #[.bool false, .bool false, .bool false, .int .u64 0, .slice none 0 0, .int .i64 0, .int .i64 0, .bool false] 38)) false false false [] 0 false := by
  refine ⟨0, .slice none 0 0, [], ?_, World.ownsRow_nil _ _ _ _, words_nil 0 (by decide)⟩
  exact World.rowIs_alloc w #[.bool false, .bool false, .bool false, .int .u64 0, .slice none 0 0, .int .i64 0, .int .i64 0, .bool false] 38 _ (eight rfl rfl rfl rfl rfl rfl rfl rfl)

end Go.Proofs.Qxb6003468a
