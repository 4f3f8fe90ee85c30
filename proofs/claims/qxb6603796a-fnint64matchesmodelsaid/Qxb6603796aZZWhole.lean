import Derived.Test.Qxb6603796aWhole
namespace Go.Proofs.Qxb6603796a
open Go.RowKit

/-- What 'ZZWhole' leaves. -/
def ZWPost (f : Nat → Int) (n o : Nat) (w : World) (e : Ending) (w' : World) : Prop :=
  ∃ neg mag ok off, e = .returned (.tuple #[.bool neg, .int .u64 mag, .bool ok, .int .i64 ((off : Nat) : Int)]) ∧ WholeRes f n o neg mag ok off ∧ Below w.heap.size w w'

theorem row_ne {w : World} {a : Option Addr} {n : Nat} {f : Nat → Int} (h : Row w a n f) (ob : Obj) : Row (w.alloc ob) a n f ∧ (∀ b o, a = some ⟨b, o, none⟩ → n ≠ 0 → b ≠ w.heap.size) := by
  refine ⟨h.keep ((Below.refl _ _).alloc (Nat.le_refl _) _), fun b o ha hn => ?_⟩
  rcases h with h | ⟨b', o', ha', hc⟩
  · exact absurd h hn
  · rw [ha] at ha'
    obtain ⟨rfl, rfl⟩ : b = b' ∧ o = o' := by simpa using ha'
    have := World.block_lt_of_cell? _ _ (hc 0 (by omega))
    simp at this
    omega

set_option maxHeartbeats 1000000 in
set_option maxRecDepth 100000 in
theorem zzwhole_any (a : Option Addr) (n c o : Nat) (d u : Int) (f : Nat → Int) (w : World) (h : Row w a n f) (hb : Byt f) (hn : n ≤ 2097152) (ho : (o : Int) ≤ 9223372036854775807) :
    Calls Try.prog 14 #[.slice a n c, .int .i64 o, .int .i64 d, .int .i64 u] w (ZWPost f n o w) := by
  obtain ⟨h1, h2⟩ := row_ne h (.cells #[.slice a n c, .int .i64 o, .int .i64 d, .int .i64 u] 45)
  have H1 : Hid (Row (w.alloc (.cells #[.slice a n c, .int .i64 o, .int .i64 d, .int .i64 u] 45)) a n f) := h1
  have H2 : Hid (∀ b o, a = some ⟨b, o, none⟩ → n ≠ 0 → b ≠ w.heap.size) := h2
  clear h1 h2 h
  go_enter Try.func14, Try.ntmps14
  go_wp2_with fail
  refine (whole_any w.heap.size a n c o f _ (by simp [go_sem]) (by simp [go_sem]) (by simp [go_sem]) H1.out hb H2.out hn ho).mono ?_
  rintro e w1 ⟨neg, mag, ok, off, rfl, hres, hoff, hg⟩
  have Hres : Hid (WholeRes f n o neg mag ok off) := hres
  have hsz : w.heap.size < w1.heap.size := by have := hg.size; simp at this; omega
  have Hg : Hid (Below w.heap.size w w1) := ((Below.refl w.heap.size w).alloc (Nat.le_refl _) _).grown hg (by simp) (fun k hk => by simp at hk; omega)
  clear hres hg
  go_wp2
  go_quiet (fail)
  go_wp2
  refine bodyPost_ret (v := .tuple #[.bool neg, .int .u64 mag, .bool ok, .int .i64 (off : Int)]) (by simp [results, Try.results14, go_sem]) rfl ⟨neg, mag, ok, off, rfl, Hres.out, ?_⟩
  have e := Hg.out.alloc (Nat.le_of_lt hsz) (.cells #[.bool neg, .int .u64 mag] 50)
  exact ⟨e.os, e.tape, e.output, e.size, e.block⟩
end Go.Proofs.Qxb6603796a
