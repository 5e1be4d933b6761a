/- The function laws.FnMoved returns true and leaves what was in memory as it was. Conditions: none. -/
import Derived.Test.YtolmmgemahohoaaSame
namespace Go.Proofs.Ytolmmgemahohoaa
open Go.ChangeShapes Go.WideShapes Go.ChangeAt Go.RowKit Go.Dy Go.Sort

/-- The run of '+' on two words. -/
theorem run_add {x y r : Nat} (h : floatBits .add .f64 x y = some r) : ∀ w, (binOp .add 26 (.float .f64 x) (.float .f64 y)).run Try.prog w = .ok (.float .f64 r) w := fun w => run_float_arith w _ _ _ _ _ _ h
theorem run_sub {x y r : Nat} (h : floatBits .sub .f64 x y = some r) : ∀ w, (binOp .sub 26 (.float .f64 x) (.float .f64 y)).run Try.prog w = .ok (.float .f64 r) w := fun w => run_float_arith w _ _ _ _ _ _ h
theorem run_mul {x y r : Nat} (h : floatBits .mul .f64 x y = some r) : ∀ w, (binOp .mul 26 (.float .f64 x) (.float .f64 y)).run Try.prog w = .ok (.float .f64 r) w := fun w => run_float_arith w _ _ _ _ _ _ h
theorem run_quo {x y r : Nat} (h : floatBits .quo .f64 x y = some r) : ∀ w, (binOp .quo 26 (.float .f64 x) (.float .f64 y)).run Try.prog w = .ok (.float .f64 r) w := fun w => run_float_arith w _ _ _ _ _ _ h

theorem is_self {x : Nat} {n : Int} {k : Nat} (h : Is x n k) : FloatKind.f64.format.order x x = some .eq := by rw [Is.order h h, cmp_eq]

theorem same4_self {a b c d : Nat} {n1 n2 n3 n4 : Int} {k : Nat} (h1 : Is a n1 k) (h2 : Is b n2 k) (h3 : Is c n3 k) (h4 : Is d n4 k) : same4 a b c d a b c d = true := by
  unfold same4; rw [is_self h1, is_self h2, is_self h3, is_self h4]; rfl

/-- What the law's last statement asks of the world: the rectangle's box. -/
def AddAll (a b c d x y a' b' c' d' : Nat) : Prop :=
  floatBits .add .f64 a x = some a' ∧ floatBits .add .f64 b y = some b' ∧ floatBits .add .f64 c x = some c' ∧ floatBits .add .f64 d y = some d' ∧ same4 a' b' c' d' a' b' c' d' = true

theorem addAll {a b c d x y : Nat} {n1 n2 n3 n4 m1 m2 : Int} (h : IsRect a b c d n1 n2 n3 n4) (hx : Is x m1 1) (hy : Is y m2 1) (gx : m1.natAbs ≤ 2097152) (gy : m2.natAbs ≤ 2097152) :
    ∃ a' b' c' d', AddAll a b c d x y a' b' c' d' := by
  obtain ⟨h1, h2, h3, h4, g1, g2, g3, g4, -, -⟩ := h
  obtain ⟨a', e1, i1⟩ := h1.add hx (by omega)
  obtain ⟨b', e2, i2⟩ := h2.add hy (by omega)
  obtain ⟨c', e3, i3⟩ := h3.add hx (by omega)
  obtain ⟨d', e4, i4⟩ := h4.add hy (by omega)
  exact ⟨a', b', c', d', e1, e2, e3, e4, same4_self i1 i2 i3 i4⟩

/-- The law's own example. -/
theorem four : AddAll 0 0 4616189618054758400 4616189618054758400 4607182418800017408 4607182418800017408 4607182418800017408 4607182418800017408 4617315517961601024 4617315517961601024 :=
  ⟨by kernel_rfl, by kernel_rfl, by kernel_rfl, by kernel_rfl, by kernel_rfl⟩

theorem moved_of {a b c d x y a' b' c' d' : Nat} (h : AddAll a b c d x y a' b' c' d') (w : World) :
    Calls Try.prog 17 #[R4 a b c d, .float .f64 x, .float .f64 y] w fun e w' => e = .returned (R4 a' b' c' d') ∧ Below w.heap.size w w' :=
  moved_any a b c d x y a' b' c' d' w (run_add h.1) (run_add h.2.1) (run_add h.2.2.1) (run_add h.2.2.2.1)

set_option maxHeartbeats 1000000 in
theorem moved_law (a b c d x y : Nat) (w : World) :
    Calls Try.prog 6 #[R4 a b c d, .float .f64 x, .float .f64 y] w fun e w' => e = .returned (.bool true) ∧ Below w.heap.size w w' := by
  go_enter Try.func6, Try.ntmps6
  go_wp2_with fail
  refine (plain_any a b c d _).mono ?_
  rintro e w1 ⟨⟨r, rfl, hr⟩, hb⟩
  have B1 : Hid (Below w.heap.size w w1) := (((Below.refl _ _).alloc (Nat.le_refl _) _).trans (hb.mono (by simp)))
  have hz : w.heap.size < w1.heap.size := by have := hb.size; simp at this; omega
  have k0 : w1.cell? ⟨w.heap.size, 0, none⟩ = some (.float .f64 a) := by rw [hb.cell (by simp)]; go_simp
  have k1 : w1.cell? ⟨w.heap.size, 1, none⟩ = some (.float .f64 b) := by rw [hb.cell (by simp)]; go_simp
  have k2 : w1.cell? ⟨w.heap.size, 2, none⟩ = some (.float .f64 c) := by rw [hb.cell (by simp)]; go_simp
  have k3 : w1.cell? ⟨w.heap.size, 3, none⟩ = some (.float .f64 d) := by rw [hb.cell (by simp)]; go_simp
  clear hb
  cases r with
  | false =>
    clear hr
    go_wp2
    go_ret
    exact ⟨rfl, B1.out⟩
  | true =>
    obtain ⟨n1, n2, n3, n4, hR⟩ := hr rfl
    clear hr
    have HR := Lib.hid hR
    clear hR
    go_wp2_with fail
    refine (near_any w1.heap.size 0 2 2 [x, y] _ rfl (by simp) ?_).mono ?_
    · intro i hi
      match i, hi with
      | 0, _ => go_simp
      | 1, _ => go_simp
    rintro e w2 ⟨⟨r, rfl, hr⟩, rfl⟩
    have B2 : Hid (Below w.heap.size w (w1.alloc (.cells #[.float .f64 x, .float .f64 y] 26))) := B1.out.alloc (by omega) _
    clear B1
    cases r with
    | false =>
      clear hr
      go_wp2
      go_ret
      exact ⟨rfl, B2.out⟩
    | true =>
      obtain ⟨m1, hx, gx⟩ := hr rfl x (by simp)
      obtain ⟨m2, hy, gy⟩ := hr rfl y (by simp)
      obtain ⟨a', b', c', d', hA⟩ := addAll HR.out hx hy gx gy
      clear hr HR hx hy gx gy
      have cM : ∀ p os, Calls Try.prog 17 #[R4 a b c d, .float .f64 x, .float .f64 y] (grow (redrawn (w1.alloc (.cells #[.float .f64 x, .float .f64 y] 26)) p) os) fun e w'' => e = .returned (R4 a' b' c' d') ∧ ∃ q : Regrown, w'' = grow (redrawn (w1.alloc (.cells #[.float .f64 x, .float .f64 y] 26)) q.d) q.os :=
        fun p os => Calls.regrown_of (moved_of hA _)
      have cF : ∀ p os, Calls Try.prog 17 #[R4 0 0 4616189618054758400 4616189618054758400, .float .f64 4607182418800017408, .float .f64 4607182418800017408] (grow (redrawn (w1.alloc (.cells #[.float .f64 x, .float .f64 y] 26)) p) os) fun e w'' => e = .returned (R4 4607182418800017408 4607182418800017408 4617315517961601024 4617315517961601024) ∧ ∃ q : Regrown, w'' = grow (redrawn (w1.alloc (.cells #[.float .f64 x, .float .f64 y] 26)) q.d) q.os :=
        fun p os => Calls.regrown_of (moved_of four _)
      have r1 := run_add hA.1
      have r2 := run_add hA.2.1
      have r3 := run_add hA.2.2.1
      have r4 := run_add hA.2.2.2.1
      have q1 := eql28 a' b' c' d' a' b' c' d'
      have q2 := eql28 4607182418800017408 4607182418800017408 4617315517961601024 4617315517961601024 4607182418800017408 4607182418800017408 4617315517961601024 4617315517961601024
      rw [hA.2.2.2.2] at q1
      rw [four.2.2.2.2] at q2
      clear hA
      have K0 : (w1.alloc (.cells #[.float .f64 x, .float .f64 y] 26)).cell? ⟨w.heap.size, 0, none⟩ = some (.float .f64 a) := by go_simp
      have K1 : (w1.alloc (.cells #[.float .f64 x, .float .f64 y] 26)).cell? ⟨w.heap.size, 1, none⟩ = some (.float .f64 b) := by go_simp
      have K2 : (w1.alloc (.cells #[.float .f64 x, .float .f64 y] 26)).cell? ⟨w.heap.size, 2, none⟩ = some (.float .f64 c) := by go_simp
      have K3 : (w1.alloc (.cells #[.float .f64 x, .float .f64 y] 26)).cell? ⟨w.heap.size, 3, none⟩ = some (.float .f64 d) := by go_simp
      clear k0 k1 k2 k3
      go_wp2_with fail
      generalize w1.alloc (.cells #[.float .f64 x, .float .f64 y] 26) = W at *
      have L0 := cell_regrown K0
      have L1 := cell_regrown K1
      have L2 := cell_regrown K2
      have L3 := cell_regrown K3
      clear K0 K1 K2 K3
      refine wp_region_quiet_below (by kernel_rfl) (by kernel_rfl) ?_
      repeat (quiet_step (first | (with_reducible exact cM _ _) | (with_reducible exact cF _ _)))
      refine wpQuiet_nil ?_
      intro _ hw'
      obtain ⟨⟨dq, osq⟩, hw''⟩ := hw'
      subst hw''
      go_wp2
      go_ret
      exact ⟨rfl, B2.out.trans ((below_regrown W dq osq).mono B2.out.size)⟩
end Go.Proofs.Ytolmmgemahohoaa
