/- The law FnLowerLeft returns true, and leaves what was there as it was. Conditions: the anchor fits an int. -/
import Derived.Test.YtolmmgemahohoaaLower
namespace Go.Proofs.Ytolmmgemahohoaa
open Go.ChangeShapes Go.WideShapes Go.ChangeAt Go.RowKit Go.Dy Go.Sort

/-- The law's own words beside the function's. -/
structure LL (a b c d bw bh wd ht xm xr yt ym e1 e2 xl g1 g2 yl : Nat) : Prop where
  lf : ∃ wd2 bw2 ht2 bh2 dx dy, LF a b c d bw bh wd ht wd2 bw2 ht2 bh2 dx dy xm xr yt ym
  he1 : floatBits .sub .f64 wd bw = some e1
  he2 : floatBits .quo .f64 e1 4611686018427387904 = some e2
  hxl : floatBits .add .f64 a e2 = some xl
  hg1 : floatBits .sub .f64 ht bh = some g1
  hg2 : floatBits .quo .f64 g1 4611686018427387904 = some g2
  hyl : floatBits .add .f64 b g2 = some yl
  sa : FloatKind.f64.format.order a a = some .eq
  sb : FloatKind.f64.format.order b b = some .eq
  sxr : FloatKind.f64.format.order xr xr = some .eq
  syt : FloatKind.f64.format.order yt yt = some .eq
  sx : FloatKind.f64.format.order xm xl = some .eq
  sy : FloatKind.f64.format.order ym yl = some .eq

theorem order_eq {x y : Nat} {n m : Int} {k : Nat} (h : Is x n k) (h' : Is y m k) (e : n = m) : FloatKind.f64.format.order x y = some .eq := by rw [Is.order h h', e, cmp_eq]

theorem ll_of {a b c d bw bh : Nat} {n1 n2 n3 n4 m1 m2 : Int} (h : IsRect a b c d n1 n2 n3 n4) (hx : Is bw m1 1) (hy : Is bh m2 1) (gx : m1.natAbs ≤ 2097152) (gy : m2.natAbs ≤ 2097152) :
    ∃ wd ht xm xr yt ym e1 e2 xl g1 g2 yl, LL a b c d bw bh wd ht xm xr yt ym e1 e2 xl g1 g2 yl := by
  obtain ⟨h1, h2, h3, h4, g1, g2, g3, g4, -, -⟩ := h
  obtain ⟨wd, c1, i1⟩ := h3.sub h1 (by omega)
  obtain ⟨ht, c2, i2⟩ := h4.sub h2 (by omega)
  obtain ⟨wd2, c3, i3⟩ := i1.half (by omega) (by omega)
  obtain ⟨bw2, c4, i4⟩ := hx.half (by omega) (by omega)
  obtain ⟨ht2, c5, i5⟩ := i2.half (by omega) (by omega)
  obtain ⟨bh2, c6, i6⟩ := hy.half (by omega) (by omega)
  obtain ⟨dx, c7, i7⟩ := i3.sub i4 (by omega)
  obtain ⟨dy, c8, i8⟩ := i5.sub i6 (by omega)
  obtain ⟨xm, c9, i9⟩ := (h1.finer (by omega)).add i7 (by omega)
  obtain ⟨xr, c10, i10⟩ := h3.sub hx (by omega)
  obtain ⟨yt, c11, i11⟩ := h4.sub hy (by omega)
  obtain ⟨ym, c12, i12⟩ := (h2.finer (by omega)).add i8 (by omega)
  obtain ⟨e1, d1, j1⟩ := i1.sub hx (by omega)
  obtain ⟨e2, d2, j2⟩ := j1.half (by omega) (by omega)
  obtain ⟨xl, d3, j3⟩ := (h1.finer (by omega)).add j2 (by omega)
  obtain ⟨f1, d4, j4⟩ := i2.sub hy (by omega)
  obtain ⟨f2, d5, j5⟩ := j4.half (by omega) (by omega)
  obtain ⟨yl, d6, j6⟩ := (h2.finer (by omega)).add j5 (by omega)
  exact ⟨wd, ht, xm, xr, yt, ym, e1, e2, xl, f1, f2, yl, ⟨wd2, bw2, ht2, bh2, dx, dy, c1, c2, c3, c4, c5, c6, c7, c8, c9, c10, c11, c12⟩, d1, d2, d3, d4, d5, d6,
    is_self h1, is_self h2, is_self i10, is_self i11, order_eq i9 j3 (by omega), order_eq i12 j6 (by omega)⟩

/-- The law's own example: 'one' is the left side. -/
theorem lf_one : LF 4607182418800017408 0 4613937818241073152 4611686018427387904 4607182418800017408 4607182418800017408 4611686018427387904 4611686018427387904 4607182418800017408 4602678819172646912 4607182418800017408 4602678819172646912
    4602678819172646912 4602678819172646912 4609434218613702656 4611686018427387904 4607182418800017408 4602678819172646912 :=
  ⟨by kernel_rfl, by kernel_rfl, by kernel_rfl, by kernel_rfl, by kernel_rfl, by kernel_rfl, by kernel_rfl, by kernel_rfl, by kernel_rfl, by kernel_rfl, by kernel_rfl, by kernel_rfl⟩

theorem left_one (w : World) : Calls Try.prog 23 #[R4 4607182418800017408 0 4613937818241073152 4611686018427387904, .float .f64 4607182418800017408, .float .f64 4607182418800017408, .int .i64 0] w fun e w' =>
      e = .returned (.tuple #[.float .f64 4607182418800017408, .float .f64 4607182418800017408]) ∧ Below w.heap.size w w' :=
  lowerLeft_any lf_one 0 (by omega) (by omega) w

set_option maxHeartbeats 4000000 in
theorem lower_law (a b c d x y : Nat) (k : Int) (w : World) (_wk : (Lit.int .i64 k).wf = true) :
    Calls Try.prog 10 #[R4 a b c d, .float .f64 x, .float .f64 y, .int .i64 k] w fun e w' => e = .returned (.bool true) ∧ Below w.heap.size w w' := by
  go_enter Try.func10, Try.ntmps10
  go_wp2_with fail
  refine (plain_any a b c d _).mono ?_
  rintro e w1 ⟨⟨r, rfl, hr⟩, hb⟩
  have B1 : Hid (Below w.heap.size w w1) := (((Below.refl _ _).alloc (Nat.le_refl _) _).trans (hb.mono (by simp)))
  have hz : w.heap.size < w1.heap.size := by have := hb.size; simp at this; omega
  have k0 : w1.cell? ⟨w.heap.size, 0, none⟩ = some (.float .f64 a) := by rw [hb.cell (by simp)]; go_simp
  have k1 : w1.cell? ⟨w.heap.size, 1, none⟩ = some (.float .f64 b) := by rw [hb.cell (by simp)]; go_simp
  have k2 : w1.cell? ⟨w.heap.size, 2, none⟩ = some (.float .f64 c) := by rw [hb.cell (by simp)]; go_simp
  have k3 : w1.cell? ⟨w.heap.size, 3, none⟩ = some (.float .f64 d) := by rw [hb.cell (by simp)]; go_simp
  clear hb
  cases r with
  | false =>
    clear hr
    go_wp2
    go_ret
    exact ⟨rfl, B1.out⟩
  | true =>
    obtain ⟨n1, n2, n3, n4, hR⟩ := hr rfl
    clear hr
    have HR := Lib.hid hR
    clear hR
    go_wp2_with fail
    refine (near_any w1.heap.size 0 2 2 [x, y] _ rfl (by simp) ?_).mono ?_
    · intro i hi
      match i, hi with
      | 0, _ => go_simp
      | 1, _ => go_simp
    rintro e w2 ⟨⟨r, rfl, hr⟩, rfl⟩
    have B2 : Hid (Below w.heap.size w (w1.alloc (.cells #[.float .f64 x, .float .f64 y] 26))) := B1.out.alloc (by omega) _
    clear B1
    have K0 : (w1.alloc (.cells #[.float .f64 x, .float .f64 y] 26)).cell? ⟨w.heap.size, 0, none⟩ = some (.float .f64 a) := by go_simp
    have K1 : (w1.alloc (.cells #[.float .f64 x, .float .f64 y] 26)).cell? ⟨w.heap.size, 1, none⟩ = some (.float .f64 b) := by go_simp
    have K2 : (w1.alloc (.cells #[.float .f64 x, .float .f64 y] 26)).cell? ⟨w.heap.size, 2, none⟩ = some (.float .f64 c) := by go_simp
    have K3 : (w1.alloc (.cells #[.float .f64 x, .float .f64 y] 26)).cell? ⟨w.heap.size, 3, none⟩ = some (.float .f64 d) := by go_simp
    have HZ : w.heap.size < (w1.alloc (.cells #[.float .f64 x, .float .f64 y] 26)).heap.size := by simp; omega
    clear k0 k1 k2 k3 hz
    generalize w1.alloc (.cells #[.float .f64 x, .float .f64 y] 26) = W at *
    cases r with
    | false =>
      clear hr
      go_wp2
      go_ret
      exact ⟨rfl, B2.out⟩
    | true =>
      obtain ⟨m1, hx, gx⟩ := hr rfl x (by simp)
      obtain ⟨m2, hy, gy⟩ := hr rfl y (by simp)
      clear hr
      by_cases kl : k < 0
      · clear HR hx hy gx gy
        go_wp2
        go_ret
        exact ⟨rfl, B2.out⟩
      by_cases kg : 8 < k
      · clear HR hx hy gx gy
        go_wp2
        go_ret
        exact ⟨rfl, B2.out⟩
      obtain ⟨wd, ht, xm, xr, yt, ym, e1, e2, xl, g1, g2, yl, hL⟩ := ll_of HR.out hx hy gx gy
      clear HR hx hy gx gy
      obtain ⟨wd2, bw2, ht2, bh2, dx, dy, hF⟩ := hL.lf
      have CN := fun w => lowerLeft_any hF k (by omega) (by omega) w
      have r1 := run_sub hF.hwd
      have r2 := run_sub hF.hht
      have r3 := run_sub hF.hxr
      have r4 := run_sub hF.hyt
      have r5 := run_sub hL.he1
      have r6 := run_quo hL.he2
      have r7 := run_add hL.hxl
      have r8 := run_sub hL.hg1
      have r9 := run_quo hL.hg2
      have r10 := run_add hL.hyl
      have s1 : (FloatKind.f64.format.order a a == some .eq) = true := by rw [hL.sa]; rfl
      have s2 : (FloatKind.f64.format.order b b == some .eq) = true := by rw [hL.sb]; rfl
      have s3 : (FloatKind.f64.format.order xr xr == some .eq) = true := by rw [hL.sxr]; rfl
      have s4 : (FloatKind.f64.format.order yt yt == some .eq) = true := by rw [hL.syt]; rfl
      have s5 : (FloatKind.f64.format.order xm xl == some .eq) = true := by rw [hL.sx]; rfl
      have s6 : (FloatKind.f64.format.order ym yl == some .eq) = true := by rw [hL.sy]; rfl
      have s9 : (FloatKind.f64.format.order 4607182418800017408 4607182418800017408 == some .eq) = true := by kernel_rfl
      clear hL hF
      have hk : k = 0 ∨ k = 1 ∨ k = 2 ∨ k = 3 ∨ k = 4 ∨ k = 5 ∨ k = 6 ∨ k = 7 ∨ k = 8 := by omega
      rcases hk with rfl | rfl | rfl | rfl | rfl | rfl | rfl | rfl | rfl
      · go_wp2_with fail
        refine (CN _).mono ?_
        rintro e w3 ⟨rfl, hb3⟩
        have B4 : Hid (Below w.heap.size w w3) := ((B2.out.alloc B2.out.size _).alloc (by simp; omega) _).trans (hb3.mono (by simp; omega))
        clear hb3 CN
        go_wp2_with fail
        refine (left_one _).mono ?_
        rintro e w4 ⟨rfl, hb4⟩
        have B5 : Hid (Below w.heap.size w w4) := B4.out.trans (hb4.mono B4.out.size)
        clear hb4
        simp only [cornX, cornY]
        go_wp2
        go_ret
        exact ⟨rfl, B5.out⟩
      · go_wp2_with fail
        refine (CN _).mono ?_
        rintro e w3 ⟨rfl, hb3⟩
        have B4 : Hid (Below w.heap.size w w3) := ((B2.out.alloc B2.out.size _).alloc (by simp; omega) _).trans (hb3.mono (by simp; omega))
        clear hb3 CN
        go_wp2_with fail
        refine (left_one _).mono ?_
        rintro e w4 ⟨rfl, hb4⟩
        have B5 : Hid (Below w.heap.size w w4) := B4.out.trans (hb4.mono B4.out.size)
        clear hb4
        simp only [cornX, cornY]
        go_wp2
        go_ret
        exact ⟨rfl, B5.out⟩
      · go_wp2_with fail
        refine (CN _).mono ?_
        rintro e w3 ⟨rfl, hb3⟩
        have B4 : Hid (Below w.heap.size w w3) := ((B2.out.alloc B2.out.size _).alloc (by simp; omega) _).trans (hb3.mono (by simp; omega))
        clear hb3 CN
        go_wp2_with fail
        refine (left_one _).mono ?_
        rintro e w4 ⟨rfl, hb4⟩
        have B5 : Hid (Below w.heap.size w w4) := B4.out.trans (hb4.mono B4.out.size)
        clear hb4
        simp only [cornX, cornY]
        go_wp2
        go_ret
        exact ⟨rfl, B5.out⟩
      · go_wp2_with fail
        refine (CN _).mono ?_
        rintro e w3 ⟨rfl, hb3⟩
        have B4 : Hid (Below w.heap.size w w3) := ((B2.out.alloc B2.out.size _).alloc (by simp; omega) _).trans (hb3.mono (by simp; omega))
        clear hb3 CN
        go_wp2_with fail
        refine (left_one _).mono ?_
        rintro e w4 ⟨rfl, hb4⟩
        have B5 : Hid (Below w.heap.size w w4) := B4.out.trans (hb4.mono B4.out.size)
        clear hb4
        simp only [cornX, cornY]
        go_wp2
        go_ret
        exact ⟨rfl, B5.out⟩
      · go_wp2_with fail
        refine (CN _).mono ?_
        rintro e w3 ⟨rfl, hb3⟩
        have B4 : Hid (Below w.heap.size w w3) := ((B2.out.alloc B2.out.size _).alloc (by simp; omega) _).trans (hb3.mono (by simp; omega))
        clear hb3 CN
        go_wp2_with fail
        refine (left_one _).mono ?_
        rintro e w4 ⟨rfl, hb4⟩
        have B5 : Hid (Below w.heap.size w w4) := B4.out.trans (hb4.mono B4.out.size)
        clear hb4
        simp only [cornX, cornY]
        go_wp2
        go_ret
        exact ⟨rfl, B5.out⟩
      · go_wp2_with fail
        refine (CN _).mono ?_
        rintro e w3 ⟨rfl, hb3⟩
        have B4 : Hid (Below w.heap.size w w3) := ((B2.out.alloc B2.out.size _).alloc (by simp; omega) _).trans (hb3.mono (by simp; omega))
        clear hb3 CN
        go_wp2_with fail
        refine (left_one _).mono ?_
        rintro e w4 ⟨rfl, hb4⟩
        have B5 : Hid (Below w.heap.size w w4) := B4.out.trans (hb4.mono B4.out.size)
        clear hb4
        simp only [cornX, cornY]
        go_wp2
        go_ret
        exact ⟨rfl, B5.out⟩
      · go_wp2_with fail
        refine (CN _).mono ?_
        rintro e w3 ⟨rfl, hb3⟩
        have B4 : Hid (Below w.heap.size w w3) := ((B2.out.alloc B2.out.size _).alloc (by simp; omega) _).trans (hb3.mono (by simp; omega))
        clear hb3 CN
        go_wp2_with fail
        refine (left_one _).mono ?_
        rintro e w4 ⟨rfl, hb4⟩
        have B5 : Hid (Below w.heap.size w w4) := B4.out.trans (hb4.mono B4.out.size)
        clear hb4
        simp only [cornX, cornY]
        go_wp2
        go_ret
        exact ⟨rfl, B5.out⟩
      · go_wp2_with fail
        refine (CN _).mono ?_
        rintro e w3 ⟨rfl, hb3⟩
        have B4 : Hid (Below w.heap.size w w3) := ((B2.out.alloc B2.out.size _).alloc (by simp; omega) _).trans (hb3.mono (by simp; omega))
        clear hb3 CN
        go_wp2_with fail
        refine (left_one _).mono ?_
        rintro e w4 ⟨rfl, hb4⟩
        have B5 : Hid (Below w.heap.size w w4) := B4.out.trans (hb4.mono B4.out.size)
        clear hb4
        simp only [cornX, cornY]
        go_wp2
        go_ret
        exact ⟨rfl, B5.out⟩
      · go_wp2_with fail
        refine (CN _).mono ?_
        rintro e w3 ⟨rfl, hb3⟩
        have B4 : Hid (Below w.heap.size w w3) := ((B2.out.alloc B2.out.size _).alloc (by simp; omega) _).trans (hb3.mono (by simp; omega))
        clear hb3 CN
        go_wp2_with fail
        refine (left_one _).mono ?_
        rintro e w4 ⟨rfl, hb4⟩
        have B5 : Hid (Below w.heap.size w w4) := B4.out.trans (hb4.mono B4.out.size)
        clear hb4
        simp only [cornX, cornY]
        go_wp2
        go_ret
        exact ⟨rfl, B5.out⟩
end Go.Proofs.Ytolmmgemahohoaa
