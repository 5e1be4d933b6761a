/- The function AspectRatio stands to one as the width stands to the height, a NaN included. Conditions: the words of width and height are handed in, and no zero has a sign. -/
import Derived.Test.YtolmmgemahohoaaQuot
import Derived.Test.YtolmmgemahohoaaLower
namespace Go.Dy
open Ieee

def Asp (W H : Int) (r : Nat) : Prop := (FloatKind.f64.format.order r 4607182418800017408 == some .gt) = decide (H < W) ∧ (FloatKind.f64.format.order r 4607182418800017408 == some .lt) = decide (W < H)

theorem zero_read_of {x : Nat} {k : Nat} (h : Is x 0 k) (hz : NZ x) : ∃ i, double.read x = .number false 0 i ∧ -1074 ≤ i := by
  obtain ⟨s, m, i, hr, hi, hv⟩ := h.2
  rw [Int.zero_mul] at hv
  have hm : m = 0 := by
    have := congrArg Int.natAbs hv
    rw [natAbs_signed] at this
    rcases Nat.mul_eq_zero.1 this with h0 | h0
    · exact h0
    · have := Nat.two_pow_pos (i + 1074).toNat; omega
  subst hm
  cases s with
  | false => exact ⟨i, hr, hi⟩
  | true => exact absurd hr (hz i)

/-- The quotient, but of nought by nought. -/
theorem asp_some {x y : Nat} {W H : Int} (hx : Is x W 1) (hy : Is y H 1) (zy : NZ y) (hW : 0 ≤ W) (hH : 0 ≤ H) (bW : W ≤ 4194304) (bH : H ≤ 4194304) (h0 : ¬ (W = 0 ∧ H = 0)) :
    ∃ r, floatBits .quo .f64 x y = some r ∧ Asp W H r := by
  by_cases hH0 : H = 0
  · subst hH0
    have hW0 : 0 < W := by omega
    obtain ⟨j, hry, -⟩ := zero_read_of hy zy
    obtain ⟨m, i, hrx, -, hm, -⟩ := pos_read hx hW0 1073 rfl
    refine ⟨9218868437227405312, ?_, ?_⟩
    · show double.div x y = _
      unfold Format.div
      rw [hrx, hry]
      simp only [Datum.quotient]
      rw [if_pos trivial, if_neg (by omega)]
      have : double.write (.infinity (false ^^ false)) = 9218868437227405312 := by decide
      rw [Option.map_some, this]
    · have : FloatKind.f64.format.order 9218868437227405312 4607182418800017408 = some .gt := by decide
      unfold Asp
      rw [this, decide_eq_true hW0, decide_eq_false (by omega)]
      exact ⟨rfl, rfl⟩
  · have hH1 : 0 < H := by omega
    by_cases hW0 : W = 0
    · subst hW0
      obtain ⟨s, m, i, hrx, hi, hv⟩ := hx.2
      rw [Int.zero_mul] at hv
      have hm : m = 0 := by
        have := congrArg Int.natAbs hv
        rw [natAbs_signed] at this
        rcases Nat.mul_eq_zero.1 this with h0 | h0
        · exact h0
        · have := Nat.two_pow_pos (i + 1074).toNat; omega
      subst hm
      obtain ⟨n, j, hry, -, hn, -⟩ := pos_read hy hH1 1073 rfl
      have hq : ∃ r, double.div x y = some r ∧ fin r 0 := by
        unfold Format.div
        rw [hrx, hry]
        simp only [Datum.quotient]
        rw [if_neg (by omega)]
        refine ⟨_, rfl, ?_⟩
        have e : 2 * (0 <<< (double.fractionBits + 2 + n.log2 - Nat.log2 0) / n) + (0 <<< (double.fractionBits + 2 + n.log2 - Nat.log2 0) % n != 0).toNat = 0 := by
          rw [Nat.shiftLeft_eq, Nat.zero_mul, Nat.zero_div, Nat.zero_mod]; rfl
        rw [e]
        have : ∀ pl, double.write (.number (s ^^ false) 0 pl) = double.word (s ^^ false) 0 := fun pl => by
          show double.nearest _ _ _ = _
          unfold Format.nearest; rw [if_pos rfl]
        rw [this]
        exact ⟨_, 0, -1074, read_zero _, by omega, by rw [signed_sv]; simp [sv]⟩
      obtain ⟨r, h1, h2⟩ := hq
      refine ⟨r, h1, ?_⟩
      obtain ⟨p, hp⟩ : ∃ p, p + 0 = 1074 := ⟨1074, rfl⟩
      have ho : FloatKind.f64.format.order r 4607182418800017408 = some .lt := by
        have : FloatKind.f64.format.order r 4607182418800017408 = some (compare 0 (1 * ((2 ^ p : Nat) : Int))) := fin_order h2 (is_one.at p hp)
        rw [this, cmp_lt]
        have : (0 : Int) < ((2 ^ p : Nat) : Int) := Int.natCast_pos.2 (Nat.two_pow_pos _)
        omega
      unfold Asp
      rw [ho, decide_eq_true hH1, decide_eq_false (by omega)]
      exact ⟨rfl, rfl⟩
    · obtain ⟨r, h1, h2⟩ := quo_pos hx hy (by omega) hH1 bW bH
      refine ⟨r, h1, ?_⟩
      unfold Asp
      rw [h2]
      rcases Int.lt_trichotomy W H with h | h | h
      · rw [cmp_lt h, decide_eq_true h, decide_eq_false (by omega)]; exact ⟨rfl, rfl⟩
      · rw [h, cmp_eq]; simp
      · rw [cmp_gt h, decide_eq_true h, decide_eq_false (by omega)]; exact ⟨rfl, rfl⟩

/-- The bits that the tape gives for a NaN. -/
def nanOf (x y : Nat) (w : World) : Nat := (Question.nanBits .f64 x y).cut (w.tape w.drawn (.nanBits .f64 x y))

theorem nan_asp (x y : Nat) (w : World) (z : Int) : Asp z z (nanOf x y w) := by
  have h : double.order (nanOf x y w) 4607182418800017408 = none := by
    unfold nanOf Question.cut
    simp only
    generalize w.tape w.drawn (.nanBits .f64 x y) = t
    unfold Format.order
    have hr : ∃ s f, double.read (t % 2 * 2 ^ 63 + 9218868437227405312 + 1 + t / 2 % (2 ^ 52 - 1)) = .nan s f := by
      have e63 : (2 : Nat) ^ 63 = 9223372036854775808 := by decide
      have e52 : (2 : Nat) ^ 52 - 1 = 4503599627370495 := by decide
      rw [e63, e52]
      have hb : t / 2 % 4503599627370495 < 4503599627370495 := Nat.mod_lt _ (by decide)
      generalize t / 2 % 4503599627370495 = f at hb
      have hm : (t % 2 * 9223372036854775808 + 9218868437227405312 + 1 + f) % 9223372036854775808 = 9218868437227405312 + 1 + f := by omega
      unfold Format.read
      simp only [lp, bin, inf, sw, hm]
      rw [if_neg (by omega), if_neg (by omega), if_neg (by omega)]
      exact ⟨_, _, rfl⟩
    obtain ⟨s, f, hr⟩ := hr
    rw [hr]
    rfl
  have h' : FloatKind.f64.format.order (nanOf x y w) 4607182418800017408 = none := h
  unfold Asp
  rw [h']
  simp

theorem run_nan {P : Program} {x y : Nat} (h : floatBits .quo .f64 x y = none) (w : World) (t : TypeId) : (binOp .quo t (.float .f64 x) (.float .f64 y)).run P w = .ok (.float .f64 (nanOf x y w)) w.drew := by
  have h' : FloatKind.f64.format.div x y = none := h
  simp [binOp, Op.floatArith, h', nanOf, Question.forced]

theorem asp_none {x y : Nat} (hx : Is x 0 1) (hy : Is y 0 1) : floatBits .quo .f64 x y = none := by
  show double.div x y = none
  have zr (x : Nat) (h : Is x 0 1) : ∃ s i, double.read x = .number s 0 i := by
    obtain ⟨s, m, i, hr, hi, hv⟩ := h.2
    rw [Int.zero_mul] at hv
    have hm : m = 0 := by
      have := congrArg Int.natAbs hv
      rw [natAbs_signed] at this
      rcases Nat.mul_eq_zero.1 this with h0 | h0
      · exact h0
      · have := Nat.two_pow_pos (i + 1074).toNat; omega
    exact ⟨s, i, by rw [hr, hm]⟩
  obtain ⟨s, i, h1⟩ := zr x hx
  obtain ⟨t, j, h2⟩ := zr y hy
  unfold Format.div
  rw [h1, h2]
  rfl
end Go.Dy
