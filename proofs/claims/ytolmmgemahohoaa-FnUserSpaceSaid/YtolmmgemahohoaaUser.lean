/- The law FnUserSpace returns true, and leaves what was there as it was. Conditions: the second argument fits an int. -/
import Derived.Test.YtolmmgemahohoaaMoved
import Derived.Test.YtolmmgemahohoaaSlack
namespace Go.Dy
open Ieee

theorem const_fin {c m : Nat} {e : Int} (h : double.read c = .number false m e) (K : Nat) (hm : m < 9007199254740992) (he : -1074 ≤ e) (hK : 53 + (e + 1074).toNat ≤ K) :
    ∃ z : Int, fin c z ∧ z.natAbs ≤ 2 ^ K ∧ 0 ≤ z := by
  refine ⟨_, ⟨false, m, e, h, he, rfl⟩, ?_, ?_⟩
  · rw [natAbs_signed]
    have h1 : m ≤ 2 ^ 53 := by
      have : (2 : Nat) ^ 53 = 9007199254740992 := by decide
      omega
    have h2 := Nat.mul_le_mul_right (2 ^ (e + 1074).toNat) h1
    rw [← Nat.pow_add] at h2
    exact Nat.le_trans h2 (Nat.pow_le_pow_right (by omega) hK)
  · rw [signed_sv]; exact Int.natCast_nonneg _

/-- What the law's slack needs. -/
structure Near (got want d1 d2 M s1 s : Nat) : Prop where
  hd1 : floatBits .sub .f64 got want = some d1
  hd2 : floatBits .sub .f64 want got = some d2
  hm : ∀ (P : Program) (ts : Array TypeId) (t : TypeId) (w : World), (Builtin.max_ ts t #[.float .f64 want, .float .f64 (Op.negFloat .f64 want)]).run P w = .ok (.float .f64 M) w
  hs1 : floatBits .add .f64 4607182418800017408 M = some s1
  hs : floatBits .mul .f64 4472406533629990549 s1 = some s
  hle1 : (FloatKind.f64.format.order d1 s == some .lt || FloatKind.f64.format.order d1 s == some .eq) = true
  hle2 : (FloatKind.f64.format.order d2 s == some .lt || FloatKind.f64.format.order d2 s == some .eq) = true

theorem le_of_fin {x y : Nat} {b : Int} (hx : fin x 0) (hy : fin y b) (hb : 0 ≤ b) : (FloatKind.f64.format.order x y == some .lt || FloatKind.f64.format.order x y == some .eq) = true := by
  have h : FloatKind.f64.format.order x y = some (compare 0 b) := fin_order hx hy
  rw [h]
  by_cases h0 : b = 0
  · rw [h0, cmp_eq]; rfl
  · rw [cmp_lt (by omega)]; rfl

theorem near_of {got want : Nat} {z : Int} (hg : fin got z) (hw : fin want z) (hlt : want < 18446744073709551616) (K : Nat) (hK : K = 1105) (hz : z.natAbs ≤ 2 ^ K) : ∃ d1 d2 M s1 s, Near got want d1 d2 M s1 s := by
  have r0 : Rep (z - z) := ⟨0, 0, by rw [Int.sub_self]; rfl, by decide, by decide⟩
  obtain ⟨d1, h1, f1⟩ := fin_sub hg hw r0
  obtain ⟨d2, h2, f2⟩ := fin_sub hw hg r0
  rw [Int.sub_self] at f1 f2
  obtain ⟨M, hM, fM⟩ := max_neg hw hlt
  obtain ⟨s1, c1, hs1, fs1, b1, p1⟩ := one_add_small (K := K) fM (by omega) (by rw [Int.natAbs_natCast]; exact hz) (by omega) (by omega)
  obtain ⟨z9, f9, b9, p9⟩ := const_fin (c := 4472406533629990549) (m := 4835703278458517) (e := -82) (by decide) 1045 (by decide) (by decide) (by decide)
  obtain ⟨s, c, hs, fs, -, p⟩ := mul_small (B := 100) f9 fs1 b9 b1 (by decide) (by omega)
  exact ⟨d1, d2, M, s1, s, h1, h2, hM, hs1, hs, le_of_fin f1 fs (p p9 p1), le_of_fin f2 fs (p p9 p1)⟩

theorem half_bound {f : Nat} {n : Int} (h : Is f n 1) (hn : n.natAbs ≤ 2097152) (K : Nat) (hK : K = 1094) : ∃ z, fin f z ∧ z.natAbs ≤ 2 ^ K := by
  obtain ⟨p, hp⟩ : ∃ p, p + 1 = 1074 := ⟨1073, rfl⟩
  refine ⟨_, h.at p hp, ?_⟩
  rw [Int.natAbs_mul, Int.natAbs_natCast]
  have h1 : K = 21 + p := by omega
  rw [h1, Nat.pow_add]
  exact Nat.mul_le_mul_right _ hn

/-- By a constant: the same word on both sides. -/
theorem near_mul {f c m : Nat} {e : Int} {n : Int} (h : Is f n 1) (hn : n.natAbs ≤ 2097152) (hc : double.read c = .number false m e) (hm : m < 9007199254740992) (he : -1074 ≤ e) (hK : 53 + (e + 1074).toNat ≤ 1081) :
    ∃ r d1 d2 M s1 s, floatBits .mul .f64 f c = some r ∧ Near r r d1 d2 M s1 s := by
  obtain ⟨L, hL⟩ : ∃ L, L = 1094 := ⟨_, rfl⟩
  obtain ⟨K, hK'⟩ : ∃ K, K = 1081 := ⟨_, rfl⟩
  obtain ⟨B, hB⟩ : ∃ B, B = 30 := ⟨_, rfl⟩
  obtain ⟨z, hz, hb⟩ := half_bound h hn L hL
  obtain ⟨y, hy, hyb, -⟩ := const_fin hc K hm he (by omega)
  obtain ⟨r, v, hr, hv, hvb, -⟩ := mul_small (B := B) hz hy hb hyb (by omega) (by omega)
  have hlt : r < 18446744073709551616 := double.mul_lt hr
  obtain ⟨d1, d2, M, s1, s, hN⟩ := near_of hv hv hlt _ (by omega) hvb
  exact ⟨r, d1, d2, M, s1, s, hr, hN⟩

/-- By one: the same number. -/
theorem near_one {f : Nat} {n : Int} (h : Is f n 1) (hn : n.natAbs ≤ 2097152) : ∃ r d1 d2 M s1 s, floatBits .mul .f64 f 4607182418800017408 = some r ∧ Near f r d1 d2 M s1 s := by
  obtain ⟨r, hr, hi⟩ := h.mul is_one (by decide) (by omega)
  have hlt : r < 18446744073709551616 := double.mul_lt hr
  obtain ⟨L, hL⟩ : ∃ L, L = 1094 := ⟨_, rfl⟩
  obtain ⟨z, hz, hb⟩ := half_bound h hn L hL
  obtain ⟨p, hp⟩ : ∃ p, p + 1 = 1074 := ⟨1073, rfl⟩
  have hrz : fin r z := by
    have h1 := hi.at p hp
    rw [Int.mul_one] at h1
    rw [fin_fun hz (h.at p hp)]
    exact h1
  obtain ⟨K, hK⟩ : ∃ K, K = 1105 := ⟨_, rfl⟩
  obtain ⟨d1, d2, M, s1, s, hN⟩ := near_of hz hrz hlt K hK (Nat.le_trans hb (Nat.pow_le_pow_right (by decide) (by omega)))
  exact ⟨r, d1, d2, M, s1, s, hr, hN⟩
end Go.Dy
namespace Go.Proofs.Ytolmmgemahohoaa
open Go.ChangeShapes Go.WideShapes Go.ChangeAt Go.RowKit Go.Dy

theorem unary_neg_float (k : FloatKind) (b : Nat) : Op.unary .neg (.float k b) = pure (.float k (Op.negFloat k b)) := rfl
attribute [local go_sem] unary_neg_float

/-- 'impl.UserSpace' at a unit that multiplies. -/
theorem user_any (f r c : Nat) (u : Int) (hu : u = 1 ∧ c = 4634766966517661696 ∨ u = 2 ∧ c = 4628672035919596310 ∨ u = 3 ∧ c = 4613565473389991339) (h : floatBits .mul .f64 f c = some r) (w : World) :
    Calls Try.prog 16 #[.float .f64 f, .int .i64 u] w fun e w' => e = .returned (.float .f64 r) ∧ w = w' := by
  have q := run_mul h
  clear h
  rcases hu with ⟨rfl, rfl⟩ | ⟨rfl, rfl⟩ | ⟨rfl, rfl⟩
  all_goals
    go_enter Try.func16, Try.ntmps16
    go_wp2
    go_ret
    exact ⟨rfl, rfl⟩

theorem user_zero (f : Nat) (w : World) :
    Calls Try.prog 16 #[.float .f64 f, .int .i64 0] w fun e w' => e = .returned (.float .f64 f) ∧ w = w' := by
  go_enter Try.func16, Try.ntmps16
  go_wp2
  go_ret
  exact ⟨rfl, rfl⟩
end Go.Proofs.Ytolmmgemahohoaa
