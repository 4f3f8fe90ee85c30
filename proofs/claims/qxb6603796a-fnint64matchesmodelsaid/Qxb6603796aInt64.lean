import Derived.Test.Qxb6603796aZZWhole
namespace Go.Proofs.Qxb6603796a
open Go.RowKit

/-- Does an int64 hold it? -/
def fitsB (neg : Bool) (mag : Int) (ok : Bool) : Bool := ok && (if neg = true then decide (mag ≤ 9223372036854775808) else decide (mag < 9223372036854775808))
def sval (neg : Bool) (mag : Int) : Int := if neg = true then -mag else mag

/-- What 'int64' leaves. -/
def IPost (f : Nat → Int) (n o rb pb B : Nat) (p : Int) (w : World) (e : Ending) (w' : World) : Prop :=
  ∃ neg mag ok off, e = .returned (.bool (fitsB neg mag ok)) ∧ WholeRes f n o neg mag ok off ∧ w'.cell? ⟨rb, 1, none⟩ = some (.int .i64 (off : Int)) ∧
    w'.cell? ⟨pb, 0, none⟩ = some (.int .i64 (if fitsB neg mag ok = true then sval neg mag else p)) ∧ Below B w w'

theorem ipost_no {f : Nat → Int} {n o rb pb B : Nat} {p : Int} {w w1 : World} {neg ok : Bool} {mag : Int} {off : Nat} (ob : Obj) (hres : WholeRes f n o neg mag ok off) (ho : w1.cell? ⟨rb, 1, none⟩ = some (.int .i64 (off : Int))) (hp : w1.cell? ⟨pb, 0, none⟩ = some (.int .i64 p))
    (hB : Below B w w1) (hs : B ≤ w1.heap.size) (h : fitsB neg mag ok = false) : IPost f n o rb pb B p w (.returned (.bool false)) (w1.alloc ob) := by
  refine ⟨neg, mag, ok, off, by rw [h], hres, ?_, ?_, hB.alloc hs _⟩
  · exact cell_later ((Below.refl _ _).alloc (Nat.le_refl _) _) ho
  · rw [h]
    exact cell_later ((Below.refl _ _).alloc (Nat.le_refl _) _) hp

theorem ipost_yes {f : Nat → Int} {n o rb pb B : Nat} {p x : Int} {w w1 : World} {neg ok : Bool} {mag : Int} {off : Nat} (ob : Obj) (hres : WholeRes f n o neg mag ok off) (ho : w1.cell? ⟨rb, 1, none⟩ = some (.int .i64 (off : Int))) (hp : w1.cell? ⟨pb, 0, none⟩ = some (.int .i64 p))
    (hB : Below B w w1) (hs : B ≤ w1.heap.size) (hpB : B ≤ pb) (h : fitsB neg mag ok = true) (hx : x = sval neg mag) : IPost f n o rb pb B p w (.returned (.bool true)) ((w1.setCell ⟨pb, 0, none⟩ (.int .i64 x)).alloc ob) := by
  have hb1 : Below (w1.setCell ⟨pb, 0, none⟩ (.int .i64 x)).heap.size (w1.setCell ⟨pb, 0, none⟩ (.int .i64 x)) ((w1.setCell ⟨pb, 0, none⟩ (.int .i64 x)).alloc ob) := (Below.refl _ _).alloc (Nat.le_refl _) _
  refine ⟨neg, mag, ok, off, by rw [h], hres, ?_, ?_, (hB.setCell hpB _).alloc (by simpa using hs) _⟩
  · refine cell_later hb1 ?_
    rw [World.cell?_setCell_other _ _ _ _ (by simp)]; exact ho
  · rw [h, if_pos rfl, ← hx]
    refine cell_later hb1 ?_
    rw [World.cell?_setCell_same _ _ _ hp]

theorem wrap_least {mag : Int} (h1 : ¬ 9223372036854775808 < mag) (h2 : ¬ mag < 9223372036854775808) : wrap64 (-wrap64 mag) = sval true mag := by
  simp only [wrap64, sval, if_true]
  omega

set_option maxHeartbeats 1000000 in
set_option maxRecDepth 100000 in
theorem int64_any (rb pb B : Nat) (a : Option Addr) (n c o : Nat) (p : Int) (f : Nat → Int) (w : World) (hd : w.cell? ⟨rb, 0, none⟩ = some (.slice a n c)) (ho : w.cell? ⟨rb, 1, none⟩ = some (.int .i64 o)) (hf : w.frozen? ⟨rb, 1, none⟩ = false)
    (hp : w.cell? ⟨pb, 0, none⟩ = some (.int .i64 p)) (hpf : w.frozen? ⟨pb, 0, none⟩ = false) (hpr : pb ≠ rb) (hB1 : B ≤ rb) (hB2 : B ≤ pb)
    (h : Row w a n f) (hb : Byt f) (hne : ∀ b o, a = some ⟨b, o, none⟩ → n ≠ 0 → b ≠ rb) (hn : n ≤ 2097152) (hon : (o : Int) ≤ 9223372036854775807) :
    Calls Try.prog 32 #[.pointer (some ⟨rb, 0, none⟩), .pointer (some ⟨pb, 0, none⟩)] w (IPost f n o rb pb B p w) := by
  have hpb : pb < w.heap.size := World.block_lt_of_cell? _ _ hp
  go_enter Try.func32, Try.ntmps32
  go_wp2_with fail
  refine (whole_any rb a n c o f w hd ho hf h hb hne hn hon).mono ?_
  rintro e w1 ⟨neg, mag, ok, off, rfl, hres, hoff, hg⟩
  have Hres : Hid (WholeRes f n o neg mag ok off) := hres
  obtain ⟨m0, m1⟩ : 0 ≤ mag ∧ mag ≤ 18446744073709551615 := by
    obtain ⟨_, j, _, _, _, a1, a2, _⟩ := hres
    unfold maxU at a2
    exact ⟨a1, a2⟩
  have hp1 : w1.cell? ⟨pb, 0, none⟩ = some (.int .i64 p) := hg.cell hp (by simpa using hpr)
  have hpf1 : w1.frozen? ⟨pb, 0, none⟩ = false := by
    rw [World.frozen?_of_block (w := w) (hg.block pb hpb (by simpa using hpr))]; exact hpf
  have hsz : pb < w1.heap.size := World.block_lt_of_cell? _ _ hp1
  have HB : Hid (Below B w w1) := (Below.refl B w).grown hg (by omega) (fun k hk => by simp at hk; omega)
  clear hres hg hd ho hf hp hpf h hb hne
  cases ok
  · go_wp2
    go_ret
    exact ipost_no _ Hres.out hoff hp1 HB.out (by omega) (by simp [fitsB])
  · cases neg
    · by_cases hm : mag < 9223372036854775808
      · go_wp2
        go_ret
        exact ipost_yes _ Hres.out hoff hp1 HB.out (by omega) hB2 (by simp [fitsB]; omega) (by simp [sval])
      · go_wp2
        go_ret
        exact ipost_no _ Hres.out hoff hp1 HB.out (by omega) (by simp [fitsB]; omega)
    · by_cases hm : 9223372036854775808 < mag
      · go_wp2
        go_ret
        exact ipost_no _ Hres.out hoff hp1 HB.out (by omega) (by simp [fitsB]; omega)
      · by_cases hm2 : mag < 9223372036854775808
        · go_wp2
          go_ret
          exact ipost_yes _ Hres.out hoff hp1 HB.out (by omega) hB2 (by simp [fitsB]; omega) (by simp [sval])
        · go_wp2
          go_ret
          exact ipost_yes _ Hres.out hoff hp1 HB.out (by omega) hB2 (by simp [fitsB]; omega) (wrap_least (by omega) (by omega))
/-- What 'ZZInt64' leaves. -/
def ZIPost (f : Nat → Int) (n o : Nat) (p : Int) (w : World) (e : Ending) (w' : World) : Prop :=
  ∃ neg mag ok off, e = .returned (.tuple #[.bool (fitsB neg mag ok), .int .i64 (if fitsB neg mag ok = true then sval neg mag else p), .int .i64 ((off : Nat) : Int)]) ∧ WholeRes f n o neg mag ok off ∧ Below w.heap.size w w'

set_option maxHeartbeats 1000000 in
set_option maxRecDepth 100000 in
theorem zzint64_any (a : Option Addr) (n c o : Nat) (d u p : Int) (f : Nat → Int) (w : World) (h : Row w a n f) (hb : Byt f) (hn : n ≤ 2097152) (ho : (o : Int) ≤ 9223372036854775807) :
    Calls Try.prog 23 #[.slice a n c, .int .i64 o, .int .i64 d, .int .i64 u, .int .i64 p] w (ZIPost f n o p w) := by
  obtain ⟨h1, h2⟩ := row_ne h (.cells #[.slice a n c, .int .i64 o, .int .i64 d, .int .i64 u] 45)
  have H1 : Hid (Row ((w.alloc (.cells #[.slice a n c, .int .i64 o, .int .i64 d, .int .i64 u] 45)).alloc (.cells #[.int .i64 p] 2)) a n f) := h1.keep ((Below.refl _ _).alloc (Nat.le_refl _) _)
  have H2 : Hid (∀ b o, a = some ⟨b, o, none⟩ → n ≠ 0 → b ≠ w.heap.size) := h2
  clear h1 h2 h
  go_enter Try.func23, Try.ntmps23
  go_wp2_with fail
  refine (int64_any w.heap.size (w.heap.size + 1) w.heap.size a n c o p f _ (by simp [go_sem]) (by simp [go_sem]) (by simp [go_sem]) (by simp [go_sem]) (by simp [go_sem]) (by omega) (Nat.le_refl _) (by omega) H1.out hb H2.out hn ho).mono ?_
  rintro e w1 ⟨neg, mag, ok, off, rfl, hres, hoff, hq, hg⟩
  have Hres : Hid (WholeRes f n o neg mag ok off) := hres
  have HB : Hid (Below w.heap.size w w1) := (((Below.refl w.heap.size w).alloc (Nat.le_refl _) _).alloc (by simp) _).trans hg
  obtain ⟨x, hx⟩ : ∃ x, x = if fitsB neg mag ok = true then sval neg mag else p := ⟨_, rfl⟩
  have HX : Hid (x = if fitsB neg mag ok = true then sval neg mag else p) := hx
  rw [← hx] at hq
  clear hres hg hx
  go_wp2
  go_quiet (fail)
  go_wp2
  refine bodyPost_ret (v := .tuple #[.bool (fitsB neg mag ok), .int .i64 x, .int .i64 (off : Int)]) (by simp [results, Try.results23, go_sem]) rfl ⟨neg, mag, ok, off, by rw [← HX.out], Hres.out, ?_⟩
  have e := HB.out
  exact ⟨e.os, e.tape, e.output, e.size, e.block⟩

end Go.Proofs.Qxb6603796a
