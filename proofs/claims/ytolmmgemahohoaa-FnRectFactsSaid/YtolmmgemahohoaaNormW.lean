/- The law FnNormalized returns true, and leaves what was there as it was. Conditions: the corner fits an int. -/
import Derived.Test.YtolmmgemahohoaaNorm
namespace Go.Proofs.Ytolmmgemahohoaa
open Go.ChangeShapes Go.WideShapes Go.ChangeAt Go.RowKit Go.Dy Go.Sort

/-- The law's own example. -/
theorem nf_one : NF 0 0 4611686018427387904 4611686018427387904 4607182418800017408 4607182418800017408 4611686018427387904 4611686018427387904 4607182418800017408 4607182418800017408
    4607182418800017408 4607182418800017408 4607182418800017408 4607182418800017408 :=
  ⟨by kernel_rfl, by kernel_rfl, by kernel_rfl, by kernel_rfl, by kernel_rfl, by kernel_rfl, by kernel_rfl, by kernel_rfl, ⟨by kernel_rfl, by kernel_rfl⟩, ⟨by kernel_rfl, by kernel_rfl⟩, ⟨by kernel_rfl, by kernel_rfl⟩, ⟨by kernel_rfl, by kernel_rfl⟩,
    by kernel_rfl, by kernel_rfl, by kernel_rfl, by kernel_rfl, by kernel_rfl, by kernel_rfl, by kernel_rfl, by kernel_rfl⟩

theorem one_any (w : World) : Calls Try.prog 22 #[.float .f64 4607182418800017408, .float .f64 4607182418800017408, R4 0 0 4611686018427387904 4611686018427387904, .int .i64 0, .bool false] w fun e w' =>
      e = .returned (.tuple #[.float .f64 4607182418800017408, .float .f64 4607182418800017408]) ∧ Below w.heap.size w w' :=
  normalized_any nf_one 0 (by omega) (by omega) false w

theorem lt_of {x y : Nat} {a b : Int} {k : Nat} (h : Is x a k) (h' : Is y b k) : (FloatKind.f64.format.order x y == some .lt) = decide (a < b) := by
  rw [Is.order h h']
  rcases Int.lt_trichotomy a b with h1 | h1 | h1
  · rw [cmp_lt h1]; simp; omega
  · rw [h1, cmp_eq]; simp
  · rw [cmp_gt h1]; simp; omega
theorem gt_of {x y : Nat} {a b : Int} {k : Nat} (h : Is x a k) (h' : Is y b k) : (FloatKind.f64.format.order x y == some .gt) = decide (b < a) := by
  rw [Is.order h h']
  rcases Int.lt_trichotomy a b with h1 | h1 | h1
  · rw [cmp_lt h1]; simp; omega
  · rw [h1, cmp_eq]; simp
  · rw [cmp_gt h1]; simp; omega

set_option maxHeartbeats 2000000 in
theorem norm_law (x y a b c d : Nat) (k : Int) (abs : Bool) (w : World) (_wk : (Lit.int .i64 k).wf = true) :
    Calls Try.prog 9 #[.float .f64 x, .float .f64 y, R4 a b c d, .int .i64 k, .bool abs] w fun e w' => e = .returned (.bool true) ∧ Below w.heap.size w w' := by
  go_enter Try.func9, Try.ntmps9
  go_wp2_with fail
  refine (plain_any a b c d _).mono ?_
  rintro e w1 ⟨⟨r, rfl, hr⟩, hb⟩
  have B1 : Hid (Below w.heap.size w w1) := (((Below.refl _ _).alloc (Nat.le_refl _) _).trans (hb.mono (by simp)))
  have hz : w.heap.size < w1.heap.size := by have := hb.size; simp at this; omega
  have k0 : w1.cell? ⟨w.heap.size, 0, none⟩ = some (.float .f64 a) := by rw [hb.cell (by simp)]; go_simp
  have k1 : w1.cell? ⟨w.heap.size, 1, none⟩ = some (.float .f64 b) := by rw [hb.cell (by simp)]; go_simp
  have k2 : w1.cell? ⟨w.heap.size, 2, none⟩ = some (.float .f64 c) := by rw [hb.cell (by simp)]; go_simp
  have k3 : w1.cell? ⟨w.heap.size, 3, none⟩ = some (.float .f64 d) := by rw [hb.cell (by simp)]; go_simp
  clear hb
  cases r with
  | false =>
    clear hr
    go_wp2
    go_ret
    exact ⟨rfl, B1.out⟩
  | true =>
    obtain ⟨n1, n2, n3, n4, hR⟩ := hr rfl
    clear hr
    have HR := Lib.hid hR
    clear hR
    go_wp2_with fail
    refine (near_any w1.heap.size 0 2 2 [x, y] _ rfl (by simp) ?_).mono ?_
    · intro i hi
      match i, hi with
      | 0, _ => go_simp
      | 1, _ => go_simp
    rintro e w2 ⟨⟨r, rfl, hr⟩, rfl⟩
    have B2 : Hid (Below w.heap.size w (w1.alloc (.cells #[.float .f64 x, .float .f64 y] 26))) := B1.out.alloc (by omega) _
    clear B1
    have K0 : (w1.alloc (.cells #[.float .f64 x, .float .f64 y] 26)).cell? ⟨w.heap.size, 0, none⟩ = some (.float .f64 a) := by go_simp
    have K1 : (w1.alloc (.cells #[.float .f64 x, .float .f64 y] 26)).cell? ⟨w.heap.size, 1, none⟩ = some (.float .f64 b) := by go_simp
    have K2 : (w1.alloc (.cells #[.float .f64 x, .float .f64 y] 26)).cell? ⟨w.heap.size, 2, none⟩ = some (.float .f64 c) := by go_simp
    have K3 : (w1.alloc (.cells #[.float .f64 x, .float .f64 y] 26)).cell? ⟨w.heap.size, 3, none⟩ = some (.float .f64 d) := by go_simp
    have HZ : w.heap.size < (w1.alloc (.cells #[.float .f64 x, .float .f64 y] 26)).heap.size := by simp; omega
    clear k0 k1 k2 k3 hz
    generalize w1.alloc (.cells #[.float .f64 x, .float .f64 y] 26) = W at *
    cases r with
    | false =>
      clear hr
      go_wp2
      go_ret
      exact ⟨rfl, B2.out⟩
    | true =>
      obtain ⟨m1, hx, gx⟩ := hr rfl x (by simp)
      obtain ⟨m2, hy, gy⟩ := hr rfl y (by simp)
      clear hr
      by_cases kl : k < 0
      · clear HR hx hy gx gy
        go_wp2
        go_ret
        exact ⟨rfl, B2.out⟩
      by_cases kg : 3 < k
      · clear HR hx hy gx gy
        go_wp2
        go_ret
        exact ⟨rfl, B2.out⟩
      obtain ⟨wd, hwd, iwd⟩ := HR.out.2.2.1.sub HR.out.1 (by have := HR.out.2.2.2.2; omega)
      obtain ⟨ht, hht, iht⟩ := HR.out.2.2.2.1.sub HR.out.2.1 (by have := HR.out.2.2.2.2; omega)
      have tx := lt_of hx (is_zero 1 (by decide))
      have ty := lt_of hy (is_zero 1 (by decide))
      have gtx := gt_of hx iwd
      have gty := gt_of hy iht
      have rwd := run_sub hwd
      have rht := run_sub hht
      by_cases m10 : m1 < 0
      · rw [decide_eq_true m10] at tx
        clear HR hx hy gx gy hwd iwd hht iht ty gtx gty m10
        go_wp2
        go_ret
        exact ⟨rfl, B2.out⟩
      rw [decide_eq_false m10] at tx
      by_cases m20 : m2 < 0
      · rw [decide_eq_true m20] at ty
        clear HR hx hy gx gy hwd iwd hht iht gtx gty m10 m20
        go_wp2
        go_ret
        exact ⟨rfl, B2.out⟩
      rw [decide_eq_false m20] at ty
      by_cases m1w : n3 - n1 < m1
      · rw [decide_eq_true m1w] at gtx
        clear HR hx hy gx gy hwd iwd hht iht gty m10 m20 m1w
        go_wp2
        go_ret
        exact ⟨rfl, B2.out⟩
      rw [decide_eq_false m1w] at gtx
      by_cases m2h : n4 - n2 < m2
      · rw [decide_eq_true m2h] at gty
        clear HR hx hy gx gy hwd iwd hht iht m10 m20 m1w m2h
        go_wp2
        go_ret
        exact ⟨rfl, B2.out⟩
      rw [decide_eq_false m2h] at gty
      obtain ⟨wd', ht', px, qy, ax, apx, yb, bqy, hN⟩ := nf_of HR.out hx hy (by omega) (by omega) (by omega) (by omega)
      obtain rfl : wd = wd' := by have := hN.hwd; rw [hwd] at this; cases this; rfl
      obtain rfl : ht = ht' := by have := hN.hht; rw [hht] at this; cases this; rfl
      clear HR hx hy gx gy hwd iwd hht iht m10 m20 m1w m2h
      have CN := fun w => normalized_any hN k (by omega) (by omega) abs w
      have r1 := run_sub hN.hpx
      have r2 := run_sub hN.hqy
      have r3 := run_add hN.hax
      have r4 := run_add hN.hapx
      have r5 := run_add hN.hyb
      have r6 := run_add hN.hbqy
      have s1 : (FloatKind.f64.format.order x x == some .eq) = true := by rw [hN.sx]; rfl
      have s2 : (FloatKind.f64.format.order y y == some .eq) = true := by rw [hN.sy]; rfl
      have s3 : (FloatKind.f64.format.order px px == some .eq) = true := by rw [hN.spx]; rfl
      have s4 : (FloatKind.f64.format.order qy qy == some .eq) = true := by rw [hN.sqy]; rfl
      have s5 : (FloatKind.f64.format.order ax ax == some .eq) = true := by rw [hN.sax]; rfl
      have s6 : (FloatKind.f64.format.order apx apx == some .eq) = true := by rw [hN.sapx]; rfl
      have s7 : (FloatKind.f64.format.order yb yb == some .eq) = true := by rw [hN.syb]; rfl
      have s8 : (FloatKind.f64.format.order bqy bqy == some .eq) = true := by rw [hN.sbqy]; rfl
      have s9 : (FloatKind.f64.format.order 4607182418800017408 4607182418800017408 == some .eq) = true := by kernel_rfl
      clear hN
      have hk : k = 0 ∨ k = 1 ∨ k = 2 ∨ k = 3 := by omega
      rcases hk with rfl | rfl | rfl | rfl <;> cases abs
      · go_wp2_with fail
        refine (CN _).mono ?_
        rintro e w3 ⟨rfl, hb3⟩
        have B4 : Hid (Below w.heap.size w w3) := B2.out.trans (hb3.mono B2.out.size)
        clear hb3 CN
        go_wp2_with fail
        refine (one_any _).mono ?_
        rintro e w4 ⟨rfl, hb4⟩
        have B5 : Hid (Below w.heap.size w w4) := B4.out.trans (hb4.mono B4.out.size)
        clear hb4
        simp only [ansP, ansQ]
        go_wp2
        go_ret
        exact ⟨rfl, B5.out⟩
      · go_wp2_with fail
        have L0 := cell_regrown K0
        have L1 := cell_regrown K1
        refine wp_region_quiet_below (by kernel_rfl) (by kernel_rfl) ?_
        repeat (quiet_step (fail))
        refine wpQuiet_nil ?_
        intro _ hw'
        obtain ⟨⟨dq, osq⟩, hw''⟩ := hw'
        subst hw''
        have B3 : Hid (Below w.heap.size w (grow (redrawn W dq) osq)) := B2.out.trans ((below_regrown W dq osq).mono B2.out.size)
        have L2 := cell_regrown K2 dq osq
        have L3 := cell_regrown K3 dq osq
        have M0 := L0 dq osq
        have M1 := L1 dq osq
        clear L0 L1 K0 K1 K2 K3 B2 HZ
        generalize grow (redrawn W dq) osq = W2 at *
        go_wp2_with fail
        refine (CN _).mono ?_
        rintro e w3 ⟨rfl, hb3⟩
        have B4 : Hid (Below w.heap.size w w3) := B3.out.trans (hb3.mono B3.out.size)
        clear hb3 CN
        go_wp2_with fail
        refine (one_any _).mono ?_
        rintro e w4 ⟨rfl, hb4⟩
        have B5 : Hid (Below w.heap.size w w4) := B4.out.trans (hb4.mono B4.out.size)
        clear hb4
        simp only [ansP, ansQ]
        go_wp2
        go_ret
        exact ⟨rfl, B5.out⟩
      · go_wp2_with fail
        refine (CN _).mono ?_
        rintro e w3 ⟨rfl, hb3⟩
        have B4 : Hid (Below w.heap.size w w3) := B2.out.trans (hb3.mono B2.out.size)
        clear hb3 CN
        go_wp2_with fail
        refine (one_any _).mono ?_
        rintro e w4 ⟨rfl, hb4⟩
        have B5 : Hid (Below w.heap.size w w4) := B4.out.trans (hb4.mono B4.out.size)
        clear hb4
        simp only [ansP, ansQ]
        go_wp2
        go_ret
        exact ⟨rfl, B5.out⟩
      · go_wp2_with fail
        have L0 := cell_regrown K0
        have L1 := cell_regrown K1
        refine wp_region_quiet_below (by kernel_rfl) (by kernel_rfl) ?_
        repeat (quiet_step (fail))
        refine wpQuiet_nil ?_
        intro _ hw'
        obtain ⟨⟨dq, osq⟩, hw''⟩ := hw'
        subst hw''
        have B3 : Hid (Below w.heap.size w (grow (redrawn W dq) osq)) := B2.out.trans ((below_regrown W dq osq).mono B2.out.size)
        have L2 := cell_regrown K2 dq osq
        have L3 := cell_regrown K3 dq osq
        have M0 := L0 dq osq
        have M1 := L1 dq osq
        clear L0 L1 K0 K1 K2 K3 B2 HZ
        generalize grow (redrawn W dq) osq = W2 at *
        go_wp2_with fail
        refine (CN _).mono ?_
        rintro e w3 ⟨rfl, hb3⟩
        have B4 : Hid (Below w.heap.size w w3) := B3.out.trans (hb3.mono B3.out.size)
        clear hb3 CN
        go_wp2_with fail
        refine (one_any _).mono ?_
        rintro e w4 ⟨rfl, hb4⟩
        have B5 : Hid (Below w.heap.size w w4) := B4.out.trans (hb4.mono B4.out.size)
        clear hb4
        simp only [ansP, ansQ]
        go_wp2
        go_ret
        exact ⟨rfl, B5.out⟩
      · go_wp2_with fail
        refine (CN _).mono ?_
        rintro e w3 ⟨rfl, hb3⟩
        have B4 : Hid (Below w.heap.size w w3) := B2.out.trans (hb3.mono B2.out.size)
        clear hb3 CN
        go_wp2_with fail
        refine (one_any _).mono ?_
        rintro e w4 ⟨rfl, hb4⟩
        have B5 : Hid (Below w.heap.size w w4) := B4.out.trans (hb4.mono B4.out.size)
        clear hb4
        simp only [ansP, ansQ]
        go_wp2
        go_ret
        exact ⟨rfl, B5.out⟩
      · go_wp2_with fail
        have L0 := cell_regrown K0
        have L1 := cell_regrown K1
        refine wp_region_quiet_below (by kernel_rfl) (by kernel_rfl) ?_
        repeat (quiet_step (fail))
        refine wpQuiet_nil ?_
        intro _ hw'
        obtain ⟨⟨dq, osq⟩, hw''⟩ := hw'
        subst hw''
        have B3 : Hid (Below w.heap.size w (grow (redrawn W dq) osq)) := B2.out.trans ((below_regrown W dq osq).mono B2.out.size)
        have L2 := cell_regrown K2 dq osq
        have L3 := cell_regrown K3 dq osq
        have M0 := L0 dq osq
        have M1 := L1 dq osq
        clear L0 L1 K0 K1 K2 K3 B2 HZ
        generalize grow (redrawn W dq) osq = W2 at *
        go_wp2_with fail
        refine (CN _).mono ?_
        rintro e w3 ⟨rfl, hb3⟩
        have B4 : Hid (Below w.heap.size w w3) := B3.out.trans (hb3.mono B3.out.size)
        clear hb3 CN
        go_wp2_with fail
        refine (one_any _).mono ?_
        rintro e w4 ⟨rfl, hb4⟩
        have B5 : Hid (Below w.heap.size w w4) := B4.out.trans (hb4.mono B4.out.size)
        clear hb4
        simp only [ansP, ansQ]
        go_wp2
        go_ret
        exact ⟨rfl, B5.out⟩
      · go_wp2_with fail
        refine (CN _).mono ?_
        rintro e w3 ⟨rfl, hb3⟩
        have B4 : Hid (Below w.heap.size w w3) := B2.out.trans (hb3.mono B2.out.size)
        clear hb3 CN
        go_wp2_with fail
        refine (one_any _).mono ?_
        rintro e w4 ⟨rfl, hb4⟩
        have B5 : Hid (Below w.heap.size w w4) := B4.out.trans (hb4.mono B4.out.size)
        clear hb4
        simp only [ansP, ansQ]
        go_wp2
        go_ret
        exact ⟨rfl, B5.out⟩
      · go_wp2_with fail
        have L0 := cell_regrown K0
        have L1 := cell_regrown K1
        refine wp_region_quiet_below (by kernel_rfl) (by kernel_rfl) ?_
        repeat (quiet_step (fail))
        refine wpQuiet_nil ?_
        intro _ hw'
        obtain ⟨⟨dq, osq⟩, hw''⟩ := hw'
        subst hw''
        have B3 : Hid (Below w.heap.size w (grow (redrawn W dq) osq)) := B2.out.trans ((below_regrown W dq osq).mono B2.out.size)
        have L2 := cell_regrown K2 dq osq
        have L3 := cell_regrown K3 dq osq
        have M0 := L0 dq osq
        have M1 := L1 dq osq
        clear L0 L1 K0 K1 K2 K3 B2 HZ
        generalize grow (redrawn W dq) osq = W2 at *
        go_wp2_with fail
        refine (CN _).mono ?_
        rintro e w3 ⟨rfl, hb3⟩
        have B4 : Hid (Below w.heap.size w w3) := B3.out.trans (hb3.mono B3.out.size)
        clear hb3 CN
        go_wp2_with fail
        refine (one_any _).mono ?_
        rintro e w4 ⟨rfl, hb4⟩
        have B5 : Hid (Below w.heap.size w w4) := B4.out.trans (hb4.mono B4.out.size)
        clear hb4
        simp only [ansP, ansQ]
        go_wp2
        go_ret
        exact ⟨rfl, B5.out⟩
end Go.Proofs.Ytolmmgemahohoaa
