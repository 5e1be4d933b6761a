/- The functions types.NormalizeCoord and impl.Normalized return what they should at points of a rectangle. Conditions: the words of the sums and differences are handed in. -/
import Derived.Test.YtolmmgemahohoaaMoved
namespace Go.Proofs.Ytolmmgemahohoaa
open Go.ChangeShapes Go.WideShapes Go.ChangeAt Go.RowKit Go.Dy

/-- Not below nought, as the two tests say it. -/
def Up (x : Nat) : Prop := (FloatKind.f64.format.order x 0 == some .gt || FloatKind.f64.format.order x 0 == some .eq) = true ∧ (FloatKind.f64.format.order x 0 == some .lt) = false

theorem up_of {x : Nat} {n : Int} {k : Nat} (h : Is x n k) (h0 : 0 ≤ n) : Up x := by
  have hz : Is 0 0 k := is_zero k h.1
  have ho := Is.order h hz
  unfold Up
  rw [ho]
  by_cases h1 : n = 0
  · rw [h1, cmp_eq]; exact ⟨rfl, rfl⟩
  · rw [cmp_gt (by omega)]; exact ⟨rfl, rfl⟩

/-- The words that a point of a rectangle leads to. -/
structure NF (a b c d x y wd ht px qy ax apx yb bqy : Nat) : Prop where
  hwd : floatBits .sub .f64 c a = some wd
  hht : floatBits .sub .f64 d b = some ht
  hpx : floatBits .sub .f64 wd x = some px
  hqy : floatBits .sub .f64 ht y = some qy
  hax : floatBits .add .f64 x a = some ax
  hapx : floatBits .add .f64 px a = some apx
  hyb : floatBits .add .f64 y b = some yb
  hbqy : floatBits .add .f64 qy b = some bqy
  ux : Up x
  uy : Up y
  upx : Up px
  uqy : Up qy
  sx : FloatKind.f64.format.order x x = some .eq
  sy : FloatKind.f64.format.order y y = some .eq
  spx : FloatKind.f64.format.order px px = some .eq
  sqy : FloatKind.f64.format.order qy qy = some .eq
  sax : FloatKind.f64.format.order ax ax = some .eq
  sapx : FloatKind.f64.format.order apx apx = some .eq
  syb : FloatKind.f64.format.order yb yb = some .eq
  sbqy : FloatKind.f64.format.order bqy bqy = some .eq

theorem nf_of {a b c d x y : Nat} {n1 n2 n3 n4 m1 m2 : Int} (h : IsRect a b c d n1 n2 n3 n4) (hx : Is x m1 1) (hy : Is y m2 1)
    (x0 : 0 ≤ m1) (y0 : 0 ≤ m2) (x1 : m1 ≤ n3 - n1) (y1 : m2 ≤ n4 - n2) : ∃ wd ht px qy ax apx yb bqy, NF a b c d x y wd ht px qy ax apx yb bqy := by
  obtain ⟨h1, h2, h3, h4, g1, g2, g3, g4, -, -⟩ := h
  obtain ⟨wd, e1, i1⟩ := h3.sub h1 (by omega)
  obtain ⟨ht, e2, i2⟩ := h4.sub h2 (by omega)
  obtain ⟨px, e3, i3⟩ := i1.sub hx (by omega)
  obtain ⟨qy, e4, i4⟩ := i2.sub hy (by omega)
  obtain ⟨ax, e5, i5⟩ := hx.add h1 (by omega)
  obtain ⟨apx, e6, i6⟩ := i3.add h1 (by omega)
  obtain ⟨yb, e7, i7⟩ := hy.add h2 (by omega)
  obtain ⟨bqy, e8, i8⟩ := i4.add h2 (by omega)
  exact ⟨wd, ht, px, qy, ax, apx, yb, bqy, e1, e2, e3, e4, e5, e6, e7, e8, up_of hx x0, up_of hy y0, up_of i3 (by omega), up_of i4 (by omega),
    is_self hx, is_self hy, is_self i3, is_self i4, is_self i5, is_self i6, is_self i7, is_self i8⟩

/-- The answer. -/
def ansP (k : Int) (abs : Bool) (x px ax apx : Nat) : Nat := if k = 1 ∨ k = 3 then (if abs then apx else px) else (if abs then ax else x)
def ansQ (k : Int) (abs : Bool) (y qy yb bqy : Nat) : Nat := if 2 ≤ k then (if abs then bqy else qy) else (if abs then yb else y)

set_option maxHeartbeats 1000000 in
theorem normalize_any {a b c d x y wd ht px qy ax apx yb bqy : Nat} (h : NF a b c d x y wd ht px qy ax apx yb bqy) (p : Nat) (k : Int) (k0 : 0 ≤ k) (k3 : k ≤ 3) (abs : Bool) (w : World) (hp : p < w.heap.size)
    (c0 : w.cell? ⟨p, 0, none⟩ = some (.float .f64 a)) (c1 : w.cell? ⟨p, 1, none⟩ = some (.float .f64 b))
    (c2 : w.cell? ⟨p, 2, none⟩ = some (.float .f64 c)) (c3 : w.cell? ⟨p, 3, none⟩ = some (.float .f64 d)) :
    Calls Try.prog 38 #[.float .f64 x, .float .f64 y, .pointer (some ⟨p, 0, none⟩), .int .i64 k, .bool abs] w fun e w' =>
      e = .returned (.tuple #[.float .f64 (ansP k abs x px ax apx), .float .f64 (ansQ k abs y qy yb bqy)]) ∧ Below w.heap.size w w' := by
  have wdt := fun w => width_any a b c d wd w (run_sub h.hwd)
  have hgt := fun w => height_any a b c d ht w (run_sub h.hht)
  have r1 := run_sub h.hpx
  have r2 := run_sub h.hqy
  have r3 := run_add h.hax
  have r4 := run_add h.hapx
  have r5 := run_add h.hyb
  have r6 := run_add h.hbqy
  obtain ⟨u1, u1'⟩ := h.ux
  obtain ⟨u2, u2'⟩ := h.uy
  obtain ⟨u3, u3'⟩ := h.upx
  obtain ⟨u4, u4'⟩ := h.uqy
  clear h
  have hk : k = 0 ∨ k = 1 ∨ k = 2 ∨ k = 3 := by omega
  rcases hk with rfl | rfl | rfl | rfl <;> cases abs
  · go_enter Try.func38, Try.ntmps38
    go_wp2
    go_ret2
    exact ⟨rfl, Below.refl _ _⟩
  · go_enter Try.func38, Try.ntmps38
    go_wp2
    go_ret2
    exact ⟨rfl, Below.refl _ _⟩
  · go_enter Try.func38, Try.ntmps38
    go_wp2_with fail
    refine (wdt _).mono ?_
    rintro e w1 ⟨rfl, hb1⟩
    have z1 : p < w1.heap.size := Nat.lt_of_lt_of_le hp hb1.size
    have d10 : w1.cell? ⟨p, 0, none⟩ = some (.float .f64 a) := by rw [hb1.cell (by simpa using hp)]; exact c0
    have d11 : w1.cell? ⟨p, 1, none⟩ = some (.float .f64 b) := by rw [hb1.cell (by simpa using hp)]; exact c1
    have d12 : w1.cell? ⟨p, 2, none⟩ = some (.float .f64 c) := by rw [hb1.cell (by simpa using hp)]; exact c2
    have d13 : w1.cell? ⟨p, 3, none⟩ = some (.float .f64 d) := by rw [hb1.cell (by simpa using hp)]; exact c3
    have B1 : Hid (Below w.heap.size w w1) := hb1
    clear hb1 c0 c1 c2 c3
    go_wp2
    go_ret2
    exact ⟨rfl, B1.out⟩
  · go_enter Try.func38, Try.ntmps38
    go_wp2_with fail
    refine (wdt _).mono ?_
    rintro e w1 ⟨rfl, hb1⟩
    have z1 : p < w1.heap.size := Nat.lt_of_lt_of_le hp hb1.size
    have d10 : w1.cell? ⟨p, 0, none⟩ = some (.float .f64 a) := by rw [hb1.cell (by simpa using hp)]; exact c0
    have d11 : w1.cell? ⟨p, 1, none⟩ = some (.float .f64 b) := by rw [hb1.cell (by simpa using hp)]; exact c1
    have d12 : w1.cell? ⟨p, 2, none⟩ = some (.float .f64 c) := by rw [hb1.cell (by simpa using hp)]; exact c2
    have d13 : w1.cell? ⟨p, 3, none⟩ = some (.float .f64 d) := by rw [hb1.cell (by simpa using hp)]; exact c3
    have B1 : Hid (Below w.heap.size w w1) := hb1
    clear hb1 c0 c1 c2 c3
    go_wp2
    go_ret2
    exact ⟨rfl, B1.out⟩
  · go_enter Try.func38, Try.ntmps38
    go_wp2_with fail
    refine (hgt _).mono ?_
    rintro e w1 ⟨rfl, hb1⟩
    have z1 : p < w1.heap.size := Nat.lt_of_lt_of_le hp hb1.size
    have d10 : w1.cell? ⟨p, 0, none⟩ = some (.float .f64 a) := by rw [hb1.cell (by simpa using hp)]; exact c0
    have d11 : w1.cell? ⟨p, 1, none⟩ = some (.float .f64 b) := by rw [hb1.cell (by simpa using hp)]; exact c1
    have d12 : w1.cell? ⟨p, 2, none⟩ = some (.float .f64 c) := by rw [hb1.cell (by simpa using hp)]; exact c2
    have d13 : w1.cell? ⟨p, 3, none⟩ = some (.float .f64 d) := by rw [hb1.cell (by simpa using hp)]; exact c3
    have B1 : Hid (Below w.heap.size w w1) := hb1
    clear hb1 c0 c1 c2 c3
    go_wp2
    go_ret2
    exact ⟨rfl, B1.out⟩
  · go_enter Try.func38, Try.ntmps38
    go_wp2_with fail
    refine (hgt _).mono ?_
    rintro e w1 ⟨rfl, hb1⟩
    have z1 : p < w1.heap.size := Nat.lt_of_lt_of_le hp hb1.size
    have d10 : w1.cell? ⟨p, 0, none⟩ = some (.float .f64 a) := by rw [hb1.cell (by simpa using hp)]; exact c0
    have d11 : w1.cell? ⟨p, 1, none⟩ = some (.float .f64 b) := by rw [hb1.cell (by simpa using hp)]; exact c1
    have d12 : w1.cell? ⟨p, 2, none⟩ = some (.float .f64 c) := by rw [hb1.cell (by simpa using hp)]; exact c2
    have d13 : w1.cell? ⟨p, 3, none⟩ = some (.float .f64 d) := by rw [hb1.cell (by simpa using hp)]; exact c3
    have B1 : Hid (Below w.heap.size w w1) := hb1
    clear hb1 c0 c1 c2 c3
    go_wp2
    go_ret2
    exact ⟨rfl, B1.out⟩
  · go_enter Try.func38, Try.ntmps38
    go_wp2_with fail
    refine (wdt _).mono ?_
    rintro e w1 ⟨rfl, hb1⟩
    have z1 : p < w1.heap.size := Nat.lt_of_lt_of_le hp hb1.size
    have d10 : w1.cell? ⟨p, 0, none⟩ = some (.float .f64 a) := by rw [hb1.cell (by simpa using hp)]; exact c0
    have d11 : w1.cell? ⟨p, 1, none⟩ = some (.float .f64 b) := by rw [hb1.cell (by simpa using hp)]; exact c1
    have d12 : w1.cell? ⟨p, 2, none⟩ = some (.float .f64 c) := by rw [hb1.cell (by simpa using hp)]; exact c2
    have d13 : w1.cell? ⟨p, 3, none⟩ = some (.float .f64 d) := by rw [hb1.cell (by simpa using hp)]; exact c3
    have B1 : Hid (Below w.heap.size w w1) := hb1
    clear hb1 c0 c1 c2 c3
    go_wp2_with fail
    refine (hgt _).mono ?_
    rintro e w2 ⟨rfl, hb2⟩
    have z2 : p < w2.heap.size := Nat.lt_of_lt_of_le z1 hb2.size
    have d20 : w2.cell? ⟨p, 0, none⟩ = some (.float .f64 a) := by rw [hb2.cell (by simpa using z1)]; exact d10
    have d21 : w2.cell? ⟨p, 1, none⟩ = some (.float .f64 b) := by rw [hb2.cell (by simpa using z1)]; exact d11
    have d22 : w2.cell? ⟨p, 2, none⟩ = some (.float .f64 c) := by rw [hb2.cell (by simpa using z1)]; exact d12
    have d23 : w2.cell? ⟨p, 3, none⟩ = some (.float .f64 d) := by rw [hb2.cell (by simpa using z1)]; exact d13
    have B2 : Hid (Below w.heap.size w w2) := B1.out.trans (hb2.mono B1.out.size)
    clear hb2 d10 d11 d12 d13
    go_wp2
    go_ret2
    exact ⟨rfl, B2.out⟩
  · go_enter Try.func38, Try.ntmps38
    go_wp2_with fail
    refine (wdt _).mono ?_
    rintro e w1 ⟨rfl, hb1⟩
    have z1 : p < w1.heap.size := Nat.lt_of_lt_of_le hp hb1.size
    have d10 : w1.cell? ⟨p, 0, none⟩ = some (.float .f64 a) := by rw [hb1.cell (by simpa using hp)]; exact c0
    have d11 : w1.cell? ⟨p, 1, none⟩ = some (.float .f64 b) := by rw [hb1.cell (by simpa using hp)]; exact c1
    have d12 : w1.cell? ⟨p, 2, none⟩ = some (.float .f64 c) := by rw [hb1.cell (by simpa using hp)]; exact c2
    have d13 : w1.cell? ⟨p, 3, none⟩ = some (.float .f64 d) := by rw [hb1.cell (by simpa using hp)]; exact c3
    have B1 : Hid (Below w.heap.size w w1) := hb1
    clear hb1 c0 c1 c2 c3
    go_wp2_with fail
    refine (hgt _).mono ?_
    rintro e w2 ⟨rfl, hb2⟩
    have z2 : p < w2.heap.size := Nat.lt_of_lt_of_le z1 hb2.size
    have d20 : w2.cell? ⟨p, 0, none⟩ = some (.float .f64 a) := by rw [hb2.cell (by simpa using z1)]; exact d10
    have d21 : w2.cell? ⟨p, 1, none⟩ = some (.float .f64 b) := by rw [hb2.cell (by simpa using z1)]; exact d11
    have d22 : w2.cell? ⟨p, 2, none⟩ = some (.float .f64 c) := by rw [hb2.cell (by simpa using z1)]; exact d12
    have d23 : w2.cell? ⟨p, 3, none⟩ = some (.float .f64 d) := by rw [hb2.cell (by simpa using z1)]; exact d13
    have B2 : Hid (Below w.heap.size w w2) := B1.out.trans (hb2.mono B1.out.size)
    clear hb2 d10 d11 d12 d13
    go_wp2
    go_ret2
    exact ⟨rfl, B2.out⟩

theorem normalized_any {a b c d x y wd ht px qy ax apx yb bqy : Nat} (h : NF a b c d x y wd ht px qy ax apx yb bqy) (k : Int) (k0 : 0 ≤ k) (k3 : k ≤ 3) (abs : Bool) (w : World) :
    Calls Try.prog 22 #[.float .f64 x, .float .f64 y, R4 a b c d, .int .i64 k, .bool abs] w fun e w' =>
      e = .returned (.tuple #[.float .f64 (ansP k abs x px ax apx), .float .f64 (ansQ k abs y qy yb bqy)]) ∧ Below w.heap.size w w' := by
  go_enter Try.func22, Try.ntmps22
  go_wp2_with (go_at_call 25; refine (rectangle_any _ _ _ _ _).mono ?_; rintro e w' ⟨rfl, rfl⟩)
  refine (normalize_any h _ k k0 k3 abs _ (by simp) (by go_simp) (by go_simp) (by go_simp) (by go_simp)).mono ?_
  rintro e w' ⟨rfl, hb⟩
  have B : Hid (Below w.heap.size w w') := by
    refine Below.trans ?_ (hb.mono (by simp; omega))
    exact (((Below.refl _ _).alloc (Nat.le_refl _) _).alloc (by simp) _).alloc (by simp; omega) _
  clear hb
  go_wp2
  go_ret2
  exact ⟨rfl, B.out⟩
end Go.Proofs.Ytolmmgemahohoaa
