/- Products, sums and the greater of two 64-bit floats that are not great: they are numbers, of the sign that they should have. Conditions: the bounds that each lemma names. -/
import Derived.Test.YtolmmgemahohoaaHalf
namespace Go.Dy
open Ieee

theorem read_place {x : Nat} {s : Bool} {m : Nat} {e : Int} (h : double.read x = .number s m e) : e ≤ 971 := by
  unfold Format.read at h
  simp only [lp, bin, inf, sw] at h
  split at h
  · cases h; omega
  · split at h
    · cases h; omega
    · split at h <;> cases h

theorem log_le {m : Nat} {i : Int} {K : Nat} (hm : 0 < m) (hi : -1074 ≤ i) (h : m * 2 ^ (i + 1074).toNat ≤ 2 ^ K) : (m.log2 : Int) + i + 1074 ≤ K := by
  have h1 := Nat.log2_self_le (n := m) (by omega)
  have h2 : 2 ^ m.log2 * 2 ^ (i + 1074).toNat ≤ 2 ^ K := Nat.le_trans (Nat.mul_le_mul_right _ h1) h
  rw [← Nat.pow_add] at h2
  have := (Nat.pow_le_pow_iff_right (by omega : 1 < 2)).1 h2
  omega

theorem write_small (neg : Bool) (mag : Nat) (place : Int) (B : Nat) (hB : B ≤ 1000) (hs : mag = 0 ∨ place + mag.log2 ≤ B) :
    ∃ n : Nat, fin (double.write (.number neg mag place)) (sv neg n) ∧ n ≤ 2 ^ (B + 1075) := by
  show ∃ n : Nat, fin (double.nearest neg mag place) (sv neg n) ∧ n ≤ 2 ^ (B + 1075)
  by_cases hm : mag = 0
  · subst hm
    have : double.nearest neg 0 place = double.word neg 0 := by unfold Format.nearest; rw [if_pos rfl]
    rw [this]
    exact ⟨0, ⟨neg, 0, -1074, read_zero neg, by omega, by rw [signed_sv]; simp⟩, Nat.zero_le _⟩
  · have hs' : place + mag.log2 ≤ B := by omega
    obtain ⟨d, kept, hd, hk, hlo, hdm, hkept, hn⟩ := nearest_parts neg mag place (by omega) (by omega)
    obtain ⟨m, e, hr, he, hv⟩ := read_word neg d kept hd hk hlo
    rw [hn]
    refine ⟨_, ⟨neg, m, e, hr, he, by rw [signed_sv]⟩, ?_⟩
    rw [hv]
    have h1 : B + 1075 = 53 + (B + 1022) := by omega
    rw [h1, Nat.pow_add]
    have h2 : kept ≤ 2 ^ 53 := by
      have : (2 : Nat) ^ 53 = 9007199254740992 := by decide
      omega
    exact Nat.mul_le_mul h2 (Nat.pow_le_pow_right (by omega) (by omega))

theorem log2_mul_le (m n : Nat) (hm : 0 < m) (hn : 0 < n) : (m * n).log2 ≤ m.log2 + n.log2 + 1 := by
  have h1 := Nat.lt_log2_self (n := m)
  have h2 := Nat.lt_log2_self (n := n)
  have h3 : m * n < 2 ^ (m.log2 + 1) * 2 ^ (n.log2 + 1) := Nat.mul_lt_mul_of_lt_of_lt h1 h2
  rw [← Nat.pow_add] at h3
  have h4 : 0 < m * n := Nat.mul_pos hm hn
  have h5 := Nat.lt_of_le_of_lt (Nat.log2_self_le (n := m * n) (by omega)) h3
  have := (Nat.pow_lt_pow_iff_right (by omega : 1 < 2)).1 h5
  omega

theorem natAbs_signed (s : Bool) (m up : Nat) : (signed s m up).natAbs = m * 2 ^ up := by rw [signed_sv, sv_abs]

theorem mul_small {x y : Nat} {a b : Int} {K L B : Nat} (hx : fin x a) (hy : fin y b) (ha : a.natAbs ≤ 2 ^ K) (hb : b.natAbs ≤ 2 ^ L) (hB : B ≤ 1000) (hKL : K + L + 1 ≤ B + 2148) :
    ∃ (r : Nat) (c : Int), floatBits .mul .f64 x y = some r ∧ fin r c ∧ c.natAbs ≤ 2 ^ (B + 1075) ∧ (0 ≤ a → 0 ≤ b → 0 ≤ c) := by
  obtain ⟨s, m, i, h, hi, rfl⟩ := hx
  obtain ⟨t, n, j, h', hj, rfl⟩ := hy
  rw [natAbs_signed] at ha hb
  have hB' : m * n = 0 ∨ i + j + (m * n).log2 ≤ B := by
    by_cases h0 : m * n = 0
    · exact .inl h0
    · right
      have hm : 0 < m := Nat.pos_of_ne_zero fun e => h0 (by rw [e, Nat.zero_mul])
      have hn : 0 < n := Nat.pos_of_ne_zero fun e => h0 (by rw [e, Nat.mul_zero])
      have l1 := log_le hm hi ha
      have l2 := log_le hn hj hb
      have l3 := log2_mul_le m n hm hn
      omega
  obtain ⟨v, hv, hvb⟩ := write_small (s ^^ t) (m * n) (i + j) B hB hB'
  have hr : floatBits .mul .f64 x y = some (double.write (.number (s ^^ t) (m * n) (i + j))) := by
    show double.mul x y = _
    unfold Format.mul
    rw [h, h']
    rfl
  by_cases h0 : m * n = 0
  · -- nought: whatever its sign
    have hz : double.write (.number (s ^^ t) (m * n) (i + j)) = double.word (s ^^ t) 0 := by
      show double.nearest _ _ _ = _
      unfold Format.nearest; rw [if_pos h0]
    refine ⟨_, 0, hr, ?_, by simp, fun _ _ => Int.le_refl _⟩
    rw [hz]
    exact ⟨_, 0, -1074, read_zero _, by omega, by rw [signed_sv]; simp [sv]⟩
  · refine ⟨_, _, hr, hv, by rw [sv_abs]; exact hvb, fun ha0 hb0 => ?_⟩
    have hm : 0 < m := Nat.pos_of_ne_zero fun e => h0 (by rw [e, Nat.zero_mul])
    have hn : 0 < n := Nat.pos_of_ne_zero fun e => h0 (by rw [e, Nat.mul_zero])
    have hs : s = false := by
      cases s with
      | false => rfl
      | true =>
        have h1 : 0 < m * 2 ^ (i + 1074).toNat := Nat.mul_pos hm (Nat.two_pow_pos _)
        rw [signed_sv] at ha0
        generalize m * 2 ^ (i + 1074).toNat = q at ha0 h1
        simp [sv] at ha0
        omega
    have ht : t = false := by
      cases t with
      | false => rfl
      | true =>
        have h1 : 0 < n * 2 ^ (j + 1074).toNat := Nat.mul_pos hn (Nat.two_pow_pos _)
        rw [signed_sv] at hb0
        generalize n * 2 ^ (j + 1074).toNat = q at hb0 h1
        simp [sv] at hb0
        omega
    subst hs; subst ht
    simp [sv]

/-- One and a number that is not below nought. -/
theorem one_add_small {x : Nat} {a : Int} {K : Nat} (hx : fin x a) (ha : 0 ≤ a) (hK : a.natAbs ≤ 2 ^ K) (hK1 : 1074 ≤ K) (hK2 : K ≤ 2000) :
    ∃ (r : Nat) (c : Int), floatBits .add .f64 4607182418800017408 x = some r ∧ fin r c ∧ c.natAbs ≤ 2 ^ (K + 2) ∧ 0 ≤ c := by
  obtain ⟨t, n, j, h', hj, rfl⟩ := hx
  have h : double.read 4607182418800017408 = .number false 4503599627370496 (-52) := one_read
  obtain ⟨p, hp⟩ : ∃ p, p = 1074 := ⟨_, rfl⟩
  have e1 : signed false 4503599627370496 ((-52 : Int) + 1074).toNat = ((2 ^ p : Nat) : Int) := by
    rw [signed_sv]
    have h1 : ((-52 : Int) + 1074).toNat = p - 52 := by omega
    have h2 : 4503599627370496 * 2 ^ (p - 52) = 2 ^ p := by
      have h3 : p = 52 + (p - 52) := by omega
      conv => rhs; rw [h3, Nat.pow_add]
    rw [h1, h2]; rfl
  have b0 : -1074 ≤ min (-52) j := by omega
  have b1 : min (-52) j ≤ -52 := by omega
  have b2 : min (-52) j ≤ j := by omega
  have s1 := shift_to false 4503599627370496 (-52) (min (-52) j) b0 b1
  have s2 := shift_to t n j (min (-52) j) b0 b2
  rw [e1] at s1
  generalize hT : signed false 4503599627370496 (-52 - min (-52) j).toNat = T1 at s1
  generalize hT2 : signed t n (j - min (-52) j).toNat = T2 at s2
  have hsum : (T1 + T2) * ((2 ^ (min (-52) j + 1074).toNat : Nat) : Int) = ((2 ^ p : Nat) : Int) + signed t n (j + 1074).toNat := by rw [Int.add_mul, s1, s2]
  generalize signed t n (j + 1074).toNat = a at *
  have hpp : (0 : Int) < ((2 ^ p : Nat) : Int) := Int.natCast_pos.2 (Nat.two_pow_pos _)
  have hpb : (0 : Int) < ((2 ^ (min (-52) j + 1074).toNat : Nat) : Int) := Int.natCast_pos.2 (Nat.two_pow_pos _)
  have hpos : 0 < T1 + T2 := by
    rcases Int.lt_trichotomy (T1 + T2) 0 with hh | hh | hh
    · have := Int.mul_neg_of_neg_of_pos hh hpb
      omega
    · rw [hh, Int.zero_mul] at hsum
      omega
    · exact hh
  have hab : (T1 + T2).natAbs * 2 ^ (min (-52) j + 1074).toNat ≤ 2 ^ (K + 1) := by
    have h1 : ((T1 + T2) * ((2 ^ (min (-52) j + 1074).toNat : Nat) : Int)).natAbs = (T1 + T2).natAbs * 2 ^ (min (-52) j + 1074).toNat := by rw [Int.natAbs_mul, Int.natAbs_natCast]
    rw [← h1, hsum]
    have h2 : 2 ^ p ≤ 2 ^ K := Nat.pow_le_pow_right (by omega) (by omega)
    rw [Nat.pow_succ]
    omega
  have hl := log_le (m := (T1 + T2).natAbs) (by omega) b0 hab
  obtain ⟨v, hv, hvb⟩ := write_small false (T1 + T2).natAbs (min (-52) j) (K + 1 - 1074) (by omega) (.inr (by omega))
  refine ⟨_, _, ?_, hv, ?_, by simp [sv]⟩
  · show double.add 4607182418800017408 x = _
    unfold Format.add
    rw [h, h']
    simp only [Datum.sum]
    rw [hT, hT2, if_neg (by omega)]
    have : decide (T1 + T2 < 0) = false := by simp; omega
    rw [this]
    rfl
  · rw [sv_abs]
    have : K + 1 - 1074 + 1075 = K + 2 := by omega
    rw [← this]
    exact hvb

theorem xor_high (b : Nat) (h : b < 18446744073709551616) : (b < 9223372036854775808 → b ^^^ 9223372036854775808 = b + 9223372036854775808) ∧ (9223372036854775808 ≤ b → b ^^^ 9223372036854775808 = b - 9223372036854775808) := by
  have key : ∀ c, c < 2 ^ 63 → c ^^^ 2 ^ 63 = c + 2 ^ 63 := by
    intro c hc
    have h1 := Nat.two_pow_add_eq_or_of_lt hc 1
    rw [Nat.mul_one] at h1
    rw [Nat.add_comm, h1]
    apply Nat.eq_of_testBit_eq
    intro i
    rw [Nat.testBit_xor, Nat.testBit_or, Nat.testBit_two_pow]
    by_cases hi : 63 = i
    · subst hi
      rw [Nat.testBit_lt_two_pow hc]
      rfl
    · simp [hi]
  have e63 : (2 : Nat) ^ 63 = 9223372036854775808 := by decide
  rw [e63] at key
  refine ⟨key b, fun hb => ?_⟩
  obtain ⟨c, rfl⟩ : ∃ c, b = c + 9223372036854775808 := ⟨b - 9223372036854775808, by omega⟩
  rw [← key c (by omega), Nat.xor_assoc, Nat.xor_self, Nat.xor_zero]
  rw [key c (by omega)]; omega

theorem fin_neg {x : Nat} {z : Int} (h : fin x z) (hx : x < 18446744073709551616) : fin (Op.negFloat .f64 x) (-z) := by
  obtain ⟨s, m, e, hr, he, rfl⟩ := h
  have hn : Op.negFloat .f64 x = x ^^^ 9223372036854775808 := rfl
  rw [hn]
  refine ⟨!s, m, e, ?_, he, signed_not ..⟩
  obtain ⟨k1, k2⟩ := xor_high x hx
  unfold Format.read at hr ⊢
  rw [sw] at hr ⊢
  by_cases hb : x < 9223372036854775808
  · rw [k1 hb]
    have e1 : (x + 9223372036854775808) % 9223372036854775808 = x % 9223372036854775808 := by omega
    have e2 : ((x + 9223372036854775808) / 9223372036854775808 % 2 == 1) = !(x / 9223372036854775808 % 2 == 1) := by
      have a1 : x / 9223372036854775808 = 0 := by omega
      have a2 : (x + 9223372036854775808) / 9223372036854775808 = 1 := by omega
      rw [a1, a2]; rfl
    rw [e1, e2]
    generalize (x / 9223372036854775808 % 2 == 1) = q at hr ⊢
    simp only at hr ⊢
    split at hr
    · cases hr; rw [if_pos ‹_›]
    · split at hr
      · rw [if_neg ‹_›, if_pos ‹_›]; cases hr; rfl
      · split at hr <;> cases hr
  · rw [k2 (by omega)]
    have e1 : (x - 9223372036854775808) % 9223372036854775808 = x % 9223372036854775808 := by omega
    have e2 : ((x - 9223372036854775808) / 9223372036854775808 % 2 == 1) = !(x / 9223372036854775808 % 2 == 1) := by
      have a1 : x / 9223372036854775808 = 1 := by omega
      have a2 : (x - 9223372036854775808) / 9223372036854775808 = 0 := by omega
      rw [a1, a2]; rfl
    rw [e1, e2]
    generalize (x / 9223372036854775808 % 2 == 1) = q at hr ⊢
    simp only at hr ⊢
    split at hr
    · cases hr; rw [if_pos ‹_›]
    · split at hr
      · rw [if_neg ‹_›, if_pos ‹_›]; cases hr; rfl
      · split at hr <;> cases hr

/-- The greater of a number and its opposite is as great as it is far from nought. -/
theorem max_neg {x : Nat} {z : Int} (h : fin x z) (hx : x < 18446744073709551616) :
    ∃ M, (∀ (P : Program) (ts : Array TypeId) (t : TypeId) (w : World), (Builtin.max_ ts t #[.float .f64 x, .float .f64 (Op.negFloat .f64 x)]).run P w = .ok (.float .f64 M) w) ∧ fin M z.natAbs := by
  have hn := fin_neg h hx
  have ho : FloatKind.f64.format.order x (Op.negFloat .f64 x) = some (compare z (-z)) := fin_order h hn
  rcases Int.lt_trichotomy z (-z) with h1 | h1 | h1
  · refine ⟨Op.negFloat .f64 x, fun P ts t w => ?_, ?_⟩
    · rw [cmp_lt h1] at ho
      simp [Builtin.max_, Builtin.max2, ho]
    · have : (z.natAbs : Int) = -z := by omega
      rw [this]; exact hn
  · rw [← h1, cmp_eq] at ho
    have hz : z = 0 := by omega
    subst hz
    refine ⟨if (FloatKind.f64.decode x).neg then Op.negFloat .f64 x else x, fun P ts t w => ?_, ?_⟩
    · simp [Builtin.max_, Builtin.max2, ho]
    · split
      · exact hn
      · exact h
  · refine ⟨x, fun P ts t w => ?_, ?_⟩
    · rw [cmp_gt h1] at ho
      simp [Builtin.max_, Builtin.max2, ho]
    · have : (z.natAbs : Int) = z := by omega
      rw [this]; exact h
end Go.Dy
