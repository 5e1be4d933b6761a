/- The law FnRectFacts returns true, and leaves what was there as it was. Conditions: none. -/
import Derived.Test.YtolmmgemahohoaaFacts
import Derived.Test.YtolmmgemahohoaaLowerW
namespace Go.Proofs.Ytolmmgemahohoaa
open Go.ChangeShapes Go.WideShapes Go.ChangeAt Go.RowKit Go.Dy Go.Sort
attribute [local go_sem] run_store_float

theorem sub_nz' {x y r : Nat} {a b : Int} {k : Nat} (ha : Is x a k) (hb : Is y b k) (hx : NZ x) (hn : (a - b).natAbs < 9007199254740992) (h : floatBits .sub .f64 x y = some r) : NZ r :=
  sub_nz ha.2 hb.2 hx (by rw [← Int.sub_mul]; exact rep_mul _ _ hn (by omega)) h

/-- The law's own words beside the function's. -/
structure RF (a b c d wd ht wd2 ht2 cx cy sx sx2 sy sy2 : Nat) (W H : Int) : Prop where
  ff : FF a b c d wd ht wd2 ht2 cx cy W H
  h1 : floatBits .add .f64 a c = some sx
  h2 : floatBits .quo .f64 sx 4611686018427387904 = some sx2
  h3 : floatBits .add .f64 b d = some sy
  h4 : floatBits .quo .f64 sy 4611686018427387904 = some sy2
  iw : Is wd W 1
  ih : Is ht H 1
  e1 : FloatKind.f64.format.order cx sx2 = some .eq
  e2 : FloatKind.f64.format.order cy sy2 = some .eq

theorem rf_of {a b c d : Nat} {n1 n2 n3 n4 : Int} (h : IsRect2 a b c d n1 n2 n3 n4) :
    ∃ wd ht wd2 ht2 cx cy sx sx2 sy sy2, RF a b c d wd ht wd2 ht2 cx cy sx sx2 sy sy2 (n3 - n1) (n4 - n2) := by
  obtain ⟨⟨h1, h2, h3, h4, g1, g2, g3, g4, o1, o2⟩, -, -, z3, z4⟩ := h
  obtain ⟨wd, c1, i1⟩ := h3.sub h1 (by omega)
  obtain ⟨ht, c2, i2⟩ := h4.sub h2 (by omega)
  obtain ⟨wd2, c3, i3⟩ := i1.half (by omega) (by omega)
  obtain ⟨ht2, c4, i4⟩ := i2.half (by omega) (by omega)
  obtain ⟨cx, c5, i5⟩ := (h3.finer (by omega)).sub i3 (by omega)
  obtain ⟨cy, c6, i6⟩ := (h4.finer (by omega)).sub i4 (by omega)
  obtain ⟨sx, d1, j1⟩ := h1.add h3 (by omega)
  obtain ⟨sx2, d2, j2⟩ := j1.half (by omega) (by omega)
  obtain ⟨sy, d3, j3⟩ := h2.add h4 (by omega)
  obtain ⟨sy2, d4, j4⟩ := j3.half (by omega) (by omega)
  have zh := sub_nz' h4 h2 z4 (by omega) c2
  have hr : AspRun wd ht (n3 - n1) (n4 - n2) := by
    by_cases h0 : n3 - n1 = 0 ∧ n4 - n2 = 0
    · right
      have iw := i1
      have ih := i2
      rw [h0.1] at iw
      rw [h0.2] at ih
      exact ⟨fun w => run_nan (asp_none iw ih) w 26, by omega⟩
    · left
      obtain ⟨r, q, hA⟩ := asp_some i1 i2 zh (by omega) (by omega) (by omega) (by omega) h0
      exact ⟨r, run_quo q, hA⟩
  exact ⟨wd, ht, wd2, ht2, cx, cy, sx, sx2, sy, sy2, ⟨c1, c2, c3, c4, c5, c6, hr⟩, d1, d2, d3, d4, i1, i2, order_eq i5 j2 (by omega), order_eq i6 j4 (by omega)⟩

/-- The law's own example. -/
theorem rect_one : IsRect2 0 0 4607182418800017408 4607182418800017408 0 0 2 2 := by
  have z := is_zero 1 (by omega)
  have o := is_one.finer (by omega)
  have nz0 : NZ 0 := fun e he => by rw [zero_read] at he; cases he
  have nz1 : NZ 4607182418800017408 := fun e he => by rw [one_read] at he; cases he
  exact ⟨⟨z, z, o, o, by decide, by decide, by decide, by decide, by decide, by decide⟩, nz0, nz0, nz1, nz1⟩

set_option maxHeartbeats 4000000 in
theorem rect_law (a b c d : Nat) (w : World) :
    Calls Try.prog 8 #[R4 a b c d] w fun e w' => e = .returned (.bool true) ∧ Below w.heap.size w w' := by
  go_enter Try.func8, Try.ntmps8
  go_wp2_with fail
  refine (plain2_any a b c d _).mono ?_
  rintro e w1 ⟨⟨r, rfl, hr⟩, hb⟩
  have B1 : Hid (Below w.heap.size w w1) := (((Below.refl _ _).alloc (Nat.le_refl _) _).trans (hb.mono (by simp)))
  have hz : w.heap.size < w1.heap.size := by have := hb.size; simp at this; omega
  have k0 : w1.cell? ⟨w.heap.size, 0, none⟩ = some (.float .f64 a) := by rw [hb.cell (by simp)]; go_simp
  have k1 : w1.cell? ⟨w.heap.size, 1, none⟩ = some (.float .f64 b) := by rw [hb.cell (by simp)]; go_simp
  have k2 : w1.cell? ⟨w.heap.size, 2, none⟩ = some (.float .f64 c) := by rw [hb.cell (by simp)]; go_simp
  have k3 : w1.cell? ⟨w.heap.size, 3, none⟩ = some (.float .f64 d) := by rw [hb.cell (by simp)]; go_simp
  clear hb
  cases r with
  | false =>
    clear hr
    go_wp2
    go_ret
    exact ⟨rfl, B1.out⟩
  | true =>
    obtain ⟨n1, n2, n3, n4, hR⟩ := hr rfl
    clear hr
    obtain ⟨wd, ht, wd2, ht2, cx, cy, sx, sx2, sy, sy2, hF⟩ := rf_of hR
    obtain ⟨wd', ht', wd2', ht2', cx', cy', sx', sx2', sy', sy2', hF'⟩ := rf_of rect_one
    clear hR
    have CF := fun w => facts_any hF.ff w
    have CF' := fun w => facts_any hF'.ff w
    have r1 := run_sub hF.ff.hw
    have r2 := run_sub hF.ff.hh
    have r3 := run_add hF.h1
    have r4 := run_quo hF.h2
    have r5 := run_add hF.h3
    have r6 := run_quo hF.h4
    have t1 := gt_of hF.iw hF.ih
    have t2 := gt_of hF.ih hF.iw
    have s1 : (FloatKind.f64.format.order wd wd == some .eq) = true := by rw [is_self hF.iw]; rfl
    have s2 : (FloatKind.f64.format.order ht ht == some .eq) = true := by rw [is_self hF.ih]; rfl
    have s3 : (FloatKind.f64.format.order cx sx2 == some .eq) = true := by rw [hF.e1]; rfl
    have s4 : (FloatKind.f64.format.order cy sy2 == some .eq) = true := by rw [hF.e2]; rfl
    have s5 : (FloatKind.f64.format.order wd' 4607182418800017408 == some .eq) = true := by rw [order_eq hF'.iw (is_one.finer (by omega)) (by omega)]; rfl
    clear hF hF'
    generalize decide (n4 - n2 < n3 - n1) = L at *
    generalize decide (n3 - n1 < n4 - n2) = P at *
    have l1 : (L == L) = true := by simp
    have l2 : (P == P) = true := by simp
    go_wp2_with fail
    refine (CF _).mono ?_
    rintro e w2 ⟨rfl, hb⟩
    have B2 : Hid (Below w.heap.size w w2) := B1.out.trans (hb.mono B1.out.size)
    have hz2 : w.heap.size < w2.heap.size := Nat.lt_of_lt_of_le hz hb.size
    have K0 := (hb.cell (p := ⟨w.heap.size, 0, none⟩) hz).trans k0
    have K1 := (hb.cell (p := ⟨w.heap.size, 1, none⟩) hz).trans k1
    have K2 := (hb.cell (p := ⟨w.heap.size, 2, none⟩) hz).trans k2
    have K3 := (hb.cell (p := ⟨w.heap.size, 3, none⟩) hz).trans k3
    clear hb k0 k1 k2 k3 B1 hz CF
    go_wp2_with fail
    go_quiet (fail)
    go_wp2_with fail
    refine (CF' _).mono ?_
    rintro e w4 ⟨rfl, hb⟩
    have F0 : w4.cell? ⟨w2.heap.size, 0, none⟩ = some (.float .f64 wd) := by rw [hb.cell (by simp)]; go_simp
    have F1 : w4.cell? ⟨w2.heap.size, 1, none⟩ = some (.float .f64 ht) := by rw [hb.cell (by simp)]; go_simp
    have F2 : w4.cell? ⟨w2.heap.size, 2, none⟩ = some (.float .f64 cx) := by rw [hb.cell (by simp)]; go_simp
    have F3 : w4.cell? ⟨w2.heap.size, 3, none⟩ = some (.float .f64 cy) := by rw [hb.cell (by simp)]; go_simp
    have F4 : w4.cell? ⟨w2.heap.size, 4, none⟩ = some (.bool L) := by rw [hb.cell (by simp)]; go_simp
    have F5 : w4.cell? ⟨w2.heap.size, 5, none⟩ = some (.bool P) := by rw [hb.cell (by simp)]; go_simp
    have M0 : w4.cell? ⟨w.heap.size, 0, none⟩ = some (.float .f64 a) := by rw [hb.cell (by simp; omega)]; go_simp
    have M1 : w4.cell? ⟨w.heap.size, 1, none⟩ = some (.float .f64 b) := by rw [hb.cell (by simp; omega)]; go_simp
    have M2 : w4.cell? ⟨w.heap.size, 2, none⟩ = some (.float .f64 c) := by rw [hb.cell (by simp; omega)]; go_simp
    have M3 : w4.cell? ⟨w.heap.size, 3, none⟩ = some (.float .f64 d) := by rw [hb.cell (by simp; omega)]; go_simp
    have B4 : Hid (Below w.heap.size w w4) := by
      refine Below.trans ?_ (hb.mono (by simp; omega))
      exact below_drewN (B2.out.alloc (by omega) _) _
    have hz4 : w2.heap.size < w4.heap.size := by have := hb.size; simp at this; omega
    have hz5 : w.heap.size < w4.heap.size := by omega
    clear hb K0 K1 K2 K3 CF' B2
    go_wp2
    go_ret
    exact ⟨rfl, B4.out.alloc B4.out.size _⟩
end Go.Proofs.Ytolmmgemahohoaa
