/- The functions impl.Multiply, laws.affine and impl.Transform return what they should. Conditions: the words of the products and sums are handed in. -/
import Derived.Test.YtolmmgemahohoaaMat
namespace Go.Proofs.Ytolmmgemahohoaa
open Go.ChangeShapes Go.WideShapes Go.ChangeAt Go.RowKit Go.Dy Go.Sort
attribute [local go_sem] run_store_float run_equalIn_float
attribute [local go_sem ↓] Go.wp_at_zero Go.wp_at_succ

/-- What the product's sums need. -/
structure Sums (m n : Nat → Nat) (S pr : Nat → Nat → Nat → Nat) : Prop where
  h0 : ∀ i j, S i j 0 = 0
  hmul : ∀ i j k, i < 3 → j < 3 → k < 3 → floatBits .mul .f64 (m (i * 3 + k)) (n (k * 3 + j)) = some (pr i j k)
  hadd : ∀ i j k, i < 3 → j < 3 → k < 3 → floatBits .add .f64 (S i j k) (pr i j k) = some (S i j (k + 1))

theorem multiply_any {m n : Nat → Nat} {S pr : Nat → Nat → Nat → Nat} (h : Sums m n S pr) (w : World) :
    Calls Try.prog 20 #[M9 m, M9 n] w fun e w' => e = .returned (M9 fun c => S (c / 3) (c % 3) 3) ∧ Below w.heap.size w w' := by
  have C := fun w => mulMat_any m n S pr h.h0 h.hmul h.hadd w
  clear h
  generalize (fun c => S (c / 3) (c % 3) 3) = F at *
  go_enter Try.func20, Try.ntmps20
  go_wp2_with fail
  refine (C _).mono ?_
  rintro e w1 ⟨rfl, hb⟩
  clear C
  have f0 (i : Nat) : w1.frozen? ⟨w.heap.size + 1 + 1, i, none⟩ = false := by rw [hb.frozen (by simp)]; go_simp
  have q0 : w1.cell? ⟨w.heap.size + 1 + 1, 0, none⟩ = some (.float .f64 0) := by rw [hb.cell (by simp)]; go_simp
  have q1 : w1.cell? ⟨w.heap.size + 1 + 1, 1, none⟩ = some (.float .f64 0) := by rw [hb.cell (by simp)]; go_simp
  have q2 : w1.cell? ⟨w.heap.size + 1 + 1, 2, none⟩ = some (.float .f64 0) := by rw [hb.cell (by simp)]; go_simp
  have q3 : w1.cell? ⟨w.heap.size + 1 + 1, 3, none⟩ = some (.float .f64 0) := by rw [hb.cell (by simp)]; go_simp
  have q4 : w1.cell? ⟨w.heap.size + 1 + 1, 4, none⟩ = some (.float .f64 0) := by rw [hb.cell (by simp)]; go_simp
  have q5 : w1.cell? ⟨w.heap.size + 1 + 1, 5, none⟩ = some (.float .f64 0) := by rw [hb.cell (by simp)]; go_simp
  have q6 : w1.cell? ⟨w.heap.size + 1 + 1, 6, none⟩ = some (.float .f64 0) := by rw [hb.cell (by simp)]; go_simp
  have q7 : w1.cell? ⟨w.heap.size + 1 + 1, 7, none⟩ = some (.float .f64 0) := by rw [hb.cell (by simp)]; go_simp
  have q8 : w1.cell? ⟨w.heap.size + 1 + 1, 8, none⟩ = some (.float .f64 0) := by rw [hb.cell (by simp)]; go_simp
  have HB : Hid (Below w.heap.size w w1) := by
    refine Below.trans ?_ (hb.mono (by simp; omega))
    exact (((Below.refl _ _).alloc (Nat.le_refl _) _).alloc (by simp) _).alloc (by simp; omega) _
  have hge : w.heap.size ≤ w.heap.size + 1 + 1 := by omega
  clear hb
  go_wp2
  exact bodyPost_ret (v := M9 F) (by simp [results, Try.results20, go_sem, q0, q1, q2, q3, q4, q5, q6, q7, q8]) rfl
    ⟨rfl, ((((((((HB.out.setCell hge _).setCell hge _).setCell hge _).setCell hge _).setCell hge _).setCell hge _).setCell hge _).setCell hge _).setCell hge _⟩

/-- The rows of an affine map. -/
def aff (a0 a1 a2 a3 a4 a5 : Nat) (c : Nat) : Nat := match c with | 0 => a0 | 1 => a1 | 3 => a2 | 4 => a3 | 6 => a4 | 7 => a5 | 8 => 4607182418800017408 | _ => 0
abbrev A6 (a0 a1 a2 a3 a4 a5 : Nat) : Value := .agg #[.float .f64 a0, .float .f64 a1, .float .f64 a2, .float .f64 a3, .float .f64 a4, .float .f64 a5]

theorem affine_any (a0 a1 a2 a3 a4 a5 : Nat) (w : World) :
    Calls Try.prog 19 #[A6 a0 a1 a2 a3 a4 a5] w fun e w' => e = .returned (M9 (aff a0 a1 a2 a3 a4 a5)) ∧ Below w.heap.size w w' := by
  go_enter Try.func19, Try.ntmps19
  go_wp2
  exact bodyPost_ret (v := .agg #[.float .f64 a0, .float .f64 a1, .float .f64 0, .float .f64 a2, .float .f64 a3, .float .f64 0, .float .f64 a4, .float .f64 a5, .float .f64 4607182418800017408])
    (by simp [results, Try.results19, go_sem]) rfl ⟨rfl, ((Below.refl _ _).alloc (Nat.le_refl _) _).alloc (by simp) _⟩

/-- The words that a point's image needs. -/
structure TF (m : Nat → Nat) (x y u1 u2 u3 p v1 v2 v3 q : Nat) : Prop where
  h1 : floatBits .mul .f64 x (m 0) = some u1
  h2 : floatBits .mul .f64 y (m 3) = some u2
  h3 : floatBits .add .f64 u1 u2 = some u3
  h4 : floatBits .add .f64 u3 (m 6) = some p
  h5 : floatBits .mul .f64 x (m 1) = some v1
  h6 : floatBits .mul .f64 y (m 4) = some v2
  h7 : floatBits .add .f64 v1 v2 = some v3
  h8 : floatBits .add .f64 v3 (m 7) = some q

theorem point_any (x y : Nat) (w : World) : Calls Try.prog 31 #[.float .f64 x, .float .f64 y] w fun e w' => e = .returned (.agg #[.float .f64 x, .float .f64 y]) ∧ w.alloc (.cells #[.float .f64 x, .float .f64 y] 57) = w' := by
  go_enter Try.func31, Try.ntmps31
  go_wp2
  exact bodyPost_ret (v := .agg #[.float .f64 x, .float .f64 y]) (by simp [results, Try.results31, go_sem]) rfl ⟨rfl, rfl⟩

theorem image_any {m : Nat → Nat} {x y u1 u2 u3 p v1 v2 v3 q : Nat} (h : TF m x y u1 u2 u3 p v1 v2 v3 q) (w : World) :
    Calls Try.prog 30 #[M9 m, .agg #[.float .f64 x, .float .f64 y]] w fun e w' => e = .returned (.agg #[.float .f64 p, .float .f64 q]) ∧
      ((w.alloc (.cells (C9 m) 64)).alloc (.cells #[.float .f64 x, .float .f64 y] 57)).alloc (.cells #[.float .f64 p, .float .f64 q] 57) = w' := by
  have r1 := run_mul h.h1
  have r2 := run_mul h.h2
  have r3 := run_add h.h3
  have r4 := run_add h.h4
  have r5 := run_mul h.h5
  have r6 := run_mul h.h6
  have r7 := run_add h.h7
  have r8 := run_add h.h8
  clear h
  go_enter Try.func30, Try.ntmps30
  go_wp2
  exact bodyPost_ret (v := .agg #[.float .f64 p, .float .f64 q]) (by simp [results, Try.results30, go_sem]) rfl ⟨rfl, rfl⟩

theorem transform_any {m : Nat → Nat} {x y u1 u2 u3 p v1 v2 v3 q : Nat} (h : TF m x y u1 u2 u3 p v1 v2 v3 q) (w : World) :
    Calls Try.prog 18 #[M9 m, .float .f64 x, .float .f64 y] w fun e w' => e = .returned (.tuple #[.float .f64 p, .float .f64 q]) ∧ Below w.heap.size w w' := by
  have C := fun w => image_any h w
  clear h
  go_enter Try.func18, Try.ntmps18
  go_wp2_with fail
  go_region_with (first | (go_at_call 31; (with_reducible refine (point_any x y _).mono ?_); rintro e w1 ⟨rfl, rfl⟩) | (go_at_call 30; (with_reducible refine (C _).mono ?_); rintro e w2 ⟨rfl, rfl⟩))
  all_goals
    go_wp2_with fail
    go_quiet (fail)
    go_wp2
    go_ret2
    refine ⟨rfl, ?_⟩
    repeat (first | exact Below.refl _ _ | refine below_drewN ?_ _ | refine Below.drew ?_ | refine Below.alloc ?_ (by simp; try omega) _)

theorem eq40 (a b c a' b' c' : Nat) (w : World) : (Op.equalIn 9999 40 (.agg #[.float .f64 a, .float .f64 b, .float .f64 c]) (.agg #[.float .f64 a', .float .f64 b', .float .f64 c'])).run Try.prog w =
    .ok (FloatKind.f64.format.order a a' == some .eq && (FloatKind.f64.format.order b b' == some .eq && FloatKind.f64.format.order c c' == some .eq)) w := by
  have u26 := Try.underlying26
  rw [show (9999 : Nat) = 9998 + 1 from rfl, Op.equalIn]
  simp only [Sem.run_bind, run_underlying Try.underlying40, Result.andThen_ok]
  simp only [Std.Legacy.Range.forIn_eq_forIn_range', Std.Legacy.Range.size, Nat.sub_zero, Nat.add_sub_cancel, Nat.div_one, List.range'_succ, List.range'_zero, List.forIn_cons, List.forIn_nil]
  go_simp
  by_cases h1 : FloatKind.f64.format.order a a' = some .eq <;> by_cases h2 : FloatKind.f64.format.order b b' = some .eq <;> by_cases h3 : FloatKind.f64.format.order c c' = some .eq <;> simp [h1, h2, h3]
end Go.Proofs.Ytolmmgemahohoaa
