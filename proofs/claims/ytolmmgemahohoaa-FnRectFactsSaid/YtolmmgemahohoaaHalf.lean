/- What the bounds of laws.near say of a 64-bit float: it is half a whole number. Conditions: those of each lemma. -/
import Derived.Laws.FloatArith
import Derived.Test.YtolmmgemahohoaaDy
namespace Go.Dy
open Ieee

theorem is_of_read {c : Nat} {s : Bool} {m : Nat} {e : Int} (h : double.read c = .number s m e) (q k j : Nat) (he : -1074 ≤ e) (hk : k ≤ 1000) (hm : m = q * 2 ^ j) (hj : j + (e + 1074).toNat = 1074 - k) : Is c (sv s q) k := by
  refine ⟨hk, s, m, e, h, he, ?_⟩
  rw [signed_sv, hm, Nat.mul_assoc, ← Nat.pow_add, hj, sv_mul]

theorem Is.at {x : Nat} {n : Int} {k : Nat} (h : Is x n k) (p : Nat) (hp : p + k = 1074) : fin x (n * ((2 ^ p : Nat) : Int)) := by
  have e : 1074 - k = p := by omega
  have h2 := h.2
  rwa [e] at h2

theorem zero_read : double.read 0 = .number false 0 (-1074) := by decide
theorem one_read : double.read 4607182418800017408 = .number false 4503599627370496 (-52) := by decide
theorem is_zero (k : Nat) (hk : k ≤ 1000) : Is 0 0 k := ⟨hk, false, 0, -1074, zero_read, by omega, by rw [signed_sv]; simp [sv]⟩
theorem is_one : Is 4607182418800017408 1 0 := is_of_read one_read 1 0 52 (by decide) (by decide) (by decide) (by decide)
theorem is_two : Is 4611686018427387904 2 0 := is_of_read (s := false) (m := 4503599627370496) (e := -51) (by decide) 2 0 51 (by decide) (by decide) (by decide) (by decide)
theorem is_low : Is 13920626448202203136 (-1048576) 0 := is_of_read (s := true) (m := 4503599627370496) (e := -32) (by decide) 1048576 0 32 (by decide) (by decide) (by decide) (by decide)
theorem is_high : Is 4697254411347427328 1048576 0 := is_of_read (s := false) (m := 4503599627370496) (e := -32) (by decide) 1048576 0 32 (by decide) (by decide) (by decide) (by decide)

/-- What stands equal to itself is no NaN. -/
theorem self_eq {x : Nat} (h : FloatKind.f64.format.order x x = some .eq) : (∃ s m e, double.read x = .number s m e) ∨ (∃ s, double.read x = .infinity s) := by
  have h1 : double.order x x = some .eq := h
  unfold Format.order at h1
  cases hr : double.read x with
  | number s m e => exact .inl ⟨s, m, e, rfl⟩
  | infinity s => exact .inr ⟨s, rfl⟩
  | nan s t => rw [hr] at h1; simp [Datum.order] at h1

theorem quo_zero {x : Nat} (h : FloatKind.f64.format.order x 0 = some .eq) : ∃ r, floatBits .quo .f64 4607182418800017408 x = some r := by
  have h1 : double.order x 0 = some .eq := h
  unfold Format.order at h1
  show ∃ r, double.div 4607182418800017408 x = some r
  unfold Format.div
  rw [one_read]
  rw [zero_read] at h1
  cases hr : double.read x with
  | number s m e =>
    simp only [Datum.quotient]
    split
    · rw [if_neg (by decide)]; exact ⟨_, rfl⟩
    · exact ⟨_, rfl⟩
  | infinity s => exact ⟨_, rfl⟩
  | nan s t => rw [hr] at h1; simp [Datum.order] at h1

theorem order_inf {x c : Nat} {s t : Bool} {n : Nat} {j : Int} (h : double.read x = .infinity s) (hc : double.read c = .number t n j) :
    FloatKind.f64.format.order x c = some (if s then .lt else .gt) := by
  show double.order x c = _
  unfold Format.order; rw [h, hc]; rfl

/-- Between the bounds: a number. -/
theorem bound_read {x : Nat} (h1 : FloatKind.f64.format.order x x = some .eq) (h2 : FloatKind.f64.format.order x 13920626448202203136 ≠ some .lt) (h3 : FloatKind.f64.format.order x 4697254411347427328 ≠ some .gt) :
    ∃ z : Int, fin x z ∧ ∀ p, p = 1074 → z.natAbs ≤ 1048576 * 2 ^ p := by
  obtain ⟨tl, nl, jl, hl, -⟩ := is_low.2
  obtain ⟨th, nh, jh, hh, -⟩ := is_high.2
  rcases self_eq h1 with ⟨s, m, e, hr⟩ | ⟨s, hr⟩
  · have hx : fin x (signed s m (e + 1074).toNat) := ⟨s, m, e, hr, (read_lt hr).2, rfl⟩
    refine ⟨_, hx, fun p hp => ?_⟩
    have hl0 : fin 13920626448202203136 (-1048576 * ((2 ^ p : Nat) : Int)) := is_low.at p (by omega)
    have hh0 : fin 4697254411347427328 (1048576 * ((2 ^ p : Nat) : Int)) := is_high.at p (by omega)
    have h2' : double.order x 13920626448202203136 ≠ some .lt := h2
    have h3' : double.order x 4697254411347427328 ≠ some .gt := h3
    rw [fin_order hx hl0] at h2'
    rw [fin_order hx hh0] at h3'
    generalize signed s m (e + 1074).toNat = z at h2' h3'
    have h4 : ¬ z < -1048576 * ((2 ^ p : Nat) : Int) := fun h => h2' (by rw [cmp_lt h])
    have h5 : ¬ (1048576 : Int) * ((2 ^ p : Nat) : Int) < z := fun h => h3' (by rw [cmp_gt h])
    generalize 2 ^ p = c at h4 h5 ⊢
    omega
  · cases s with
    | true => exact absurd (order_inf hr hl) (by simpa using h2)
    | false => exact absurd (order_inf hr hh) (by simpa using h3)

theorem fin_double {x : Nat} {z : Int} (h : fin x z) (p : Nat) (hp : p = 1074) (hz : z.natAbs ≤ 1048576 * 2 ^ p) :
    ∃ r, floatBits .mul .f64 4611686018427387904 x = some r ∧ fin r (z * 2) := by
  have h2 : fin 4611686018427387904 (2 * ((2 ^ p : Nat) : Int)) := is_two.at p (by omega)
  have hc : 2 * ((2 ^ p : Nat) : Int) * z = z * 2 * ((2 ^ p : Nat) : Int) := by
    rw [Int.mul_comm, Int.mul_assoc]
  have hr : Rep (z * 2) := by
    obtain ⟨s, m, e, hr, he, rfl⟩ := h
    have hm := (read_lt hr).1
    rw [signed_sv, sv_abs] at hz
    by_cases h0 : m = 0
    · exact ⟨0, 0, by rw [signed_sv, h0]; simp [sv], by decide, by decide⟩
    · refine ⟨m, (e + 1074).toNat + 1, ?_, hm, ?_⟩
      · rw [Int.natAbs_mul, signed_sv, sv_abs, Nat.pow_succ, ← Nat.mul_assoc]; rfl
      · have h4 : 2 ^ (e + 1074).toNat ≤ m * 2 ^ (e + 1074).toNat := Nat.le_mul_of_pos_left _ (by omega)
        have h5 : 2 ^ (e + 1074).toNat ≤ 2 ^ (20 + p) := by
          rw [Nat.pow_add]
          exact Nat.le_trans h4 hz
        have := (Nat.pow_le_pow_iff_right (by omega : 1 < 2)).1 h5
        omega
  obtain ⟨r, h1, h3⟩ := fin_mul p hp h2 h hc hr
  exact ⟨r, h1, h3⟩

/-- Cut towards zero: a whole number. -/
theorem fin_toInt {x : Nat} {z : Int} (h : fin x z) (p : Nat) (hp : p = 1074) (hz : z.natAbs ≤ 2097152 * 2 ^ p) :
    ∃ n : Int, floatToIntVal .f64 x .i64 = some n ∧ n.natAbs < 9007199254740992 := by
  obtain ⟨s, m, e, hr, he, rfl⟩ := h
  have hm := (read_lt hr).1
  rw [signed_sv, sv_abs] at hz
  have hb : Toward.zero.cut s (m <<< e.toNat) (-e).toNat < 9007199254740992 := by
    unfold Toward.cut
    simp only [Nat.shiftLeft_eq, Nat.one_mul, Bool.toNat_false, Nat.add_zero]
    by_cases h0 : 0 ≤ e
    · have e1 : (-e).toNat = 0 := by omega
      rw [e1, Nat.zero_min, Nat.pow_zero, Nat.div_one]
      have e2 : (e + 1074).toNat = e.toNat + p := by omega
      rw [e2, Nat.pow_add, ← Nat.mul_assoc] at hz
      have := Nat.le_of_mul_le_mul_right hz (Nat.two_pow_pos _)
      omega
    · have e1 : e.toNat = 0 := by omega
      rw [e1, Nat.pow_zero, Nat.mul_one]
      exact Nat.lt_of_le_of_lt (Nat.div_le_self _ _) hm
  have hd : FloatKind.f64.decode x = .number s m e := hr
  unfold floatToIntVal
  rw [hd]
  simp only [Datum.toInt, Datum.integral]
  generalize Toward.zero.cut s (m <<< e.toNat) (-e).toNat = c at hb
  have hs : (signed s c 0).natAbs = c := by rw [signed_sv, sv_abs, Nat.pow_zero, Nat.mul_one]
  have h1 : IntKind.i64.min = -9223372036854775808 := by decide
  have h2 : IntKind.i64.max = 9223372036854775807 := by decide
  refine ⟨signed s c 0, ?_, by omega⟩
  rw [if_pos (by rw [h1, h2]; omega)]

/-- A whole number as a float. -/
theorem ofInt_is (n : Int) (h : n.natAbs < 9007199254740992) : Is (floatOfInt .f64 n) n 0 := by
  obtain ⟨p, hp⟩ : ∃ p, p = 1074 - 0 := ⟨_, rfl⟩
  refine ⟨by omega, ?_⟩
  rw [← hp]
  have hw := write_exact (decide (n < 0)) n.natAbs 0 n.natAbs p h (by omega) (by
    have e1 : ((0 : Int) + 1074).toNat = p := by omega
    have e2 : (-((0 : Int) + 1074)).toNat = 0 := by omega
    rw [e1, e2, Nat.pow_zero, Nat.mul_one])
  rw [sv_mul, sv_natAbs] at hw
  exact hw

/-- What 'near' lets by: half a whole number. -/
theorem near_is {x : Nat} {z : Int} {r : Nat} {n : Int} (hx : fin x z) (p0 : Nat) (hp0 : p0 = 1074) (hz : z.natAbs ≤ 1048576 * 2 ^ p0) (hr : fin r (z * 2)) (hn : n.natAbs < 9007199254740992)
    (he : FloatKind.f64.format.order (floatOfInt .f64 n) r = some .eq) : Is x n 1 ∧ n.natAbs ≤ 2097152 := by
  have he' : double.order (floatOfInt .f64 n) r = some .eq := he
  obtain ⟨p, hp⟩ : ∃ p, p = 1074 - 1 := ⟨_, rfl⟩
  have hp1 : 1074 - 0 = p + 1 := by omega
  have hn0 := (ofInt_is n hn).2
  rw [hp1] at hn0
  rw [fin_order hn0 hr] at he'
  obtain rfl : p0 = p + 1 := by omega
  have h1 : n * ((2 ^ (p + 1) : Nat) : Int) = z * 2 := by
    rcases Int.lt_trichotomy (n * ((2 ^ (p + 1) : Nat) : Int)) (z * 2) with h | h | h
    · rw [cmp_lt h] at he'; simp at he'
    · exact h
    · rw [cmp_gt h] at he'; simp at he'
  have h2 : n * ((2 ^ p : Nat) : Int) = z := by
    rw [Nat.pow_succ, Int.natCast_mul, ← Int.mul_assoc] at h1
    exact Int.eq_of_mul_eq_mul_right (by decide) h1
  refine ⟨⟨by omega, by rw [← hp, h2]; exact hx⟩, ?_⟩
  rw [← h2, Int.natAbs_mul, Int.natAbs_natCast, Nat.pow_succ, Nat.mul_comm (2 ^ p) 2, ← Nat.mul_assoc] at hz
  exact Nat.le_of_mul_le_mul_right hz (Nat.two_pow_pos _)

/-- Like words give nought, where they are numbers. -/
theorem sub_self {x : Nat} {z : Int} (h : fin x z) : ∃ r, floatBits .sub .f64 x x = some r ∧ fin r 0 := by
  obtain ⟨r, h1, h2⟩ := fin_sub h h ⟨0, 0, by simp, by decide, by decide⟩
  rw [Int.sub_self] at h2
  exact ⟨r, h1, h2⟩
end Go.Dy
