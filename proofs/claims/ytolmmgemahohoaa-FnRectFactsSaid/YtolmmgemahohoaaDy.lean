/- Sums, differences, products and halves of 64-bit floats that stand for dyadic numbers n / 2^k are exact. Conditions: the results have fewer than 54 binary digits. -/
import Derived.Laws.FloatArith
namespace Go.Dy
open Ieee

theorem lp : double.leastPlace = -1074 := by decide
theorem bin : double.binade = 4503599627370496 := by decide
theorem inf : double.infRung = 9218868437227405312 := by decide
theorem sw : double.signWeight = 9223372036854775808 := by decide
theorem fb : (double.fractionBits : Int) = 52 := rfl

/-- A word of a sign and a rung below infinity reads so. -/
theorem read_word (neg : Bool) (d kept : Nat) (hd : d ≤ 2044) (hk : kept ≤ 9007199254740992) (hlo : 4503599627370496 ≤ kept ∨ d = 0) :
    ∃ m e, double.read (double.word neg (min (d * 4503599627370496 + kept) 9218868437227405312)) = .number neg m e ∧ -1074 ≤ e ∧ m * 2 ^ (e + 1074).toNat = kept * 2 ^ d := by
  have hmin : min (d * 4503599627370496 + kept) 9218868437227405312 = d * 4503599627370496 + kept := by omega
  rw [hmin]
  have hr : d * 4503599627370496 + kept < 9218868437227405312 := by omega
  generalize hrr : d * 4503599627370496 + kept = r at hr
  have hneg : (double.word neg r / double.signWeight % 2 == 1) = neg := by
    rw [sw]; unfold Format.word; rw [sw]; cases neg
    · simp; omega
    · simp; omega
  have hmod : double.word neg r % double.signWeight = r := by
    rw [sw]; unfold Format.word; rw [sw]; cases neg
    · simp; omega
    · simp; omega
  unfold Format.read
  simp only [hneg, hmod, lp, bin, inf]
  by_cases h1 : r < 4503599627370496
  · rw [if_pos h1]
    have hd0 : d = 0 := by omega
    subst hd0
    refine ⟨r, -1074, rfl, by omega, ?_⟩
    simp; omega
  · rw [if_neg h1, if_pos hr]
    refine ⟨_, _, rfl, by omega, ?_⟩
    by_cases hk2 : kept = 9007199254740992
    · have e1 : r % 4503599627370496 = 0 := by omega
      have e2 : r / 4503599627370496 = d + 2 := by omega
      rw [e1, e2]
      have : (-1074 + ((d + 2 - 1 : Nat) : Int) + 1074).toNat = d + 1 := by omega
      have h2 : 2 ^ (d + 1) = 2 ^ d * 2 := Nat.pow_succ ..
      rw [this, h2, hk2]
      generalize 2 ^ d = c
      omega
    · by_cases hk1 : 4503599627370496 ≤ kept
      · have e1 : r % 4503599627370496 = kept - 4503599627370496 := by omega
        have e2 : r / 4503599627370496 = d + 1 := by omega
        rw [e1, e2]
        have : (-1074 + ((d + 1 - 1 : Nat) : Int) + 1074).toNat = d := by omega
        have e3 : 4503599627370496 + (kept - 4503599627370496) = kept := by omega
        rw [this, e3]
      · omega

theorem cut_bound (neg : Bool) (n drop : Nat) : ∃ more, more ≤ 1 ∧ Toward.even.cut neg n drop = n / 2 ^ (min drop (n.log2 + 2)) + more := by
  unfold Toward.cut
  simp only [Nat.shiftLeft_eq, Nat.one_mul]
  exact ⟨_, Bool.toNat_le _, rfl⟩

theorem cut_exact (neg : Bool) (n drop : Nat) (h : drop ≤ n.log2 + 2) (hd : n % 2 ^ drop = 0) : Toward.even.cut neg n drop = n / 2 ^ drop := by
  unfold Toward.cut
  simp only [Nat.shiftLeft_eq, Nat.one_mul, Nat.min_eq_left h, hd]
  have : 0 < 2 ^ drop := Nat.two_pow_pos _
  have h1 : decide (2 ^ drop < 2 * 0) = false := by simp
  have h2 : (2 ^ drop == 2 * 0) = false := by simp
  simp [h2]

/-- What is kept of a number, and at which place. -/
theorem nearest_parts (neg : Bool) (mag : Nat) (place : Int) (hm : 0 < mag) (hs : place + mag.log2 ≤ 1000) :
    ∃ d kept : Nat, d ≤ 2044 ∧ kept ≤ 9007199254740992 ∧ (4503599627370496 ≤ kept ∨ d = 0) ∧ (d : Int) = max (place + 1074 + mag.log2 - 52) 0 ∧
      kept = Toward.even.cut neg (mag <<< (place + 1074 - d).toNat) (d - (place + 1074)).toNat ∧
      double.nearest neg mag place = double.word neg (min (d * 4503599627370496 + kept) 9218868437227405312) := by
  obtain ⟨d, hd⟩ : ∃ d : Nat, (d : Int) = max (place + 1074 + mag.log2 - 52) 0 := ⟨(max (place + 1074 + mag.log2 - 52) 0).toNat, by omega⟩
  have hl1 := Nat.log2_self_le (n := mag) (by omega)
  have hl2 := Nat.lt_log2_self (n := mag)
  refine ⟨d, _, by omega, ?_, ?_, hd, rfl, ?_⟩
  · obtain ⟨more, hmore, hc⟩ := cut_bound neg (mag <<< (place + 1074 - d).toNat) (d - (place + 1074)).toNat
    rw [hc, Nat.shiftLeft_eq]
    by_cases ht : (d : Int) ≤ place + 1074
    · have e1 : (d - (place + 1074)).toNat = 0 := by omega
      rw [e1, Nat.zero_min, Nat.pow_zero, Nat.div_one]
      have h1 : mag * 2 ^ (place + 1074 - d).toNat < 2 ^ (mag.log2 + 1) * 2 ^ (place + 1074 - d).toNat := Nat.mul_lt_mul_of_pos_right hl2 (Nat.two_pow_pos _)
      rw [← Nat.pow_add] at h1
      have h2 : 2 ^ (mag.log2 + 1 + (place + 1074 - d).toNat) ≤ 2 ^ 53 := Nat.pow_le_pow_right (by omega) (by omega)
      have h3 : (2 : Nat) ^ 53 = 9007199254740992 := by decide
      omega
    · have e1 : (place + 1074 - d).toNat = 0 := by omega
      rw [e1, Nat.pow_zero, Nat.mul_one]
      generalize hdr : (d - (place + 1074)).toNat = dr
      by_cases hbig : dr ≤ mag.log2 + 1
      · rw [Nat.min_eq_left (by omega)]
        have h1 : mag / 2 ^ dr < 2 ^ (mag.log2 + 1 - dr) := by
          rw [Nat.div_lt_iff_lt_mul (Nat.two_pow_pos _), ← Nat.pow_add]
          rwa [Nat.sub_add_cancel hbig]
        have h2 : 2 ^ (mag.log2 + 1 - dr) ≤ 2 ^ 53 := Nat.pow_le_pow_right (by omega) (by omega)
        have h3 : (2 : Nat) ^ 53 = 9007199254740992 := by decide
        omega
      · have h1 : mag / 2 ^ (min dr (mag.log2 + 2)) = 0 := by
          apply Nat.div_eq_of_lt
          have : 2 ^ (mag.log2 + 1) ≤ 2 ^ (min dr (mag.log2 + 2)) := Nat.pow_le_pow_right (by omega) (by omega)
          omega
        omega
  · by_cases hd0 : d = 0
    · exact .inr hd0
    · left
      obtain ⟨more, hmore, hc⟩ := cut_bound neg (mag <<< (place + 1074 - d).toNat) (d - (place + 1074)).toNat
      rw [hc, Nat.shiftLeft_eq]
      have h3 : (2 : Nat) ^ 52 = 4503599627370496 := by decide
      by_cases ht : (d : Int) ≤ place + 1074
      · have e1 : (d - (place + 1074)).toNat = 0 := by omega
        rw [e1, Nat.zero_min, Nat.pow_zero, Nat.div_one]
        have h1 : 2 ^ mag.log2 * 2 ^ (place + 1074 - d).toNat ≤ mag * 2 ^ (place + 1074 - d).toNat := Nat.mul_le_mul_right _ hl1
        rw [← Nat.pow_add] at h1
        have h2 : mag.log2 + (place + 1074 - d).toNat = 52 := by omega
        rw [h2] at h1
        omega
      · have e1 : (place + 1074 - d).toNat = 0 := by omega
        rw [e1, Nat.pow_zero, Nat.mul_one, Nat.min_eq_left (by omega)]
        have h1 : 2 ^ 52 ≤ mag / 2 ^ (d - (place + 1074)).toNat := by
          rw [Nat.le_div_iff_mul_le (Nat.two_pow_pos _), ← Nat.pow_add]
          have : 52 + (d - (place + 1074)).toNat = mag.log2 := by omega
          rwa [this]
        omega
  · unfold Format.nearest
    rw [if_neg (by omega)]
    simp only [lp, bin, inf, fb]
    have e1 : max (place + (mag.log2 : Int) - 52) (-1074) = (d : Int) - 1074 := by omega
    rw [e1]
    have e2 : (place - ((d : Int) - 1074)).toNat = (place + 1074 - d).toNat := by omega
    have e3 : ((d : Int) - 1074 - place).toNat = (d - (place + 1074)).toNat := by omega
    have e4 : ((d : Int) - 1074 - -1074).toNat = d := by omega
    rw [e2, e3, e4]

theorem read_zero (neg : Bool) : double.read (double.word neg 0) = .number neg 0 (-1074) := by
  cases neg <;> decide

/-- The value of a word, in units of 2 ^ -1074. -/
def fin (x : Nat) (z : Int) : Prop := ∃ s m e, double.read x = .number s m e ∧ -1074 ≤ e ∧ signed s m (e + 1074).toNat = z

/-- The sign's value. -/
def sv (s : Bool) (n : Nat) : Int := if s then -(n : Int) else n

theorem signed_sv (s : Bool) (m up : Nat) : signed s m up = sv s (m * 2 ^ up) := by
  unfold signed sv; rw [Nat.shiftLeft_eq]

/-- A word is written of what it can hold: just that. -/
theorem write_exact (neg : Bool) (mag : Nat) (place : Int) (q l : Nat) (hq : q < 9007199254740992) (hl : l ≤ 2000)
    (h : mag * 2 ^ (place + 1074).toNat = q * 2 ^ l * 2 ^ (-(place + 1074)).toNat) :
    fin (double.write (.number neg mag place)) (sv neg (q * 2 ^ l)) := by
  show fin (double.nearest neg mag place) _
  by_cases hm : mag = 0
  · subst hm
    have hz : q * 2 ^ l = 0 := by
      have h1 := h.symm
      rw [Nat.zero_mul] at h1
      rcases Nat.mul_eq_zero.1 h1 with h2 | h2
      · exact h2
      · have := Nat.two_pow_pos (-(place + 1074)).toNat; omega
    rw [hz]
    have : double.nearest neg 0 place = double.word neg 0 := by unfold Format.nearest; rw [if_pos rfl]
    rw [this]
    exact ⟨neg, 0, -1074, read_zero neg, by omega, by rw [signed_sv]; simp⟩
  · have hl1 := Nat.log2_self_le (n := mag) (by omega)
    have hl2 := Nat.lt_log2_self (n := mag)
    have hle : mag.log2 + (place + 1074).toNat < 53 + l + (-(place + 1074)).toNat := by
      have h1 : 2 ^ (mag.log2 + (place + 1074).toNat) ≤ mag * 2 ^ (place + 1074).toNat := by
        rw [Nat.pow_add]; exact Nat.mul_le_mul_right _ hl1
      have h2 : q * 2 ^ l * 2 ^ (-(place + 1074)).toNat < 2 ^ (53 + l + (-(place + 1074)).toNat) := by
        rw [Nat.pow_add, Nat.pow_add]
        exact Nat.mul_lt_mul_of_pos_right (Nat.mul_lt_mul_of_pos_right (by have : (2 : Nat) ^ 53 = 9007199254740992 := by decide
                                                                           omega) (Nat.two_pow_pos _)) (Nat.two_pow_pos _)
      rw [← h] at h2
      exact (Nat.pow_lt_pow_iff_right (by omega)).1 (Nat.lt_of_le_of_lt h1 h2)
    obtain ⟨d, kept, hd, hk, hlo, hdm, hkept, hn⟩ := nearest_parts neg mag place (by omega) (by omega)
    obtain ⟨m, e, hr, he, hv⟩ := read_word neg d kept hd hk hlo
    rw [hn]
    refine ⟨neg, m, e, hr, he, ?_⟩
    rw [signed_sv, hv]
    congr 1
    have hdl : d ≤ l := by omega
    by_cases ht : (d : Int) ≤ place + 1074
    · have e1 : (d - (place + 1074)).toNat = 0 := by omega
      have e2 : (-(place + 1074)).toNat = 0 := by omega
      rw [hkept, e1, cut_exact _ _ _ (by omega) (by rw [Nat.pow_zero]; omega), Nat.pow_zero, Nat.div_one, Nat.shiftLeft_eq]
      rw [e2, Nat.pow_zero, Nat.mul_one] at h
      rw [Nat.mul_assoc, ← Nat.pow_add, ← h]
      congr 2; omega
    · have e1 : (place + 1074 - d).toNat = 0 := by omega
      have hmag : mag = q * 2 ^ (l - d) * 2 ^ (d - (place + 1074)).toNat := by
        rw [Nat.mul_assoc, ← Nat.pow_add]
        by_cases hp : 0 ≤ place + 1074
        · have e2 : (-(place + 1074)).toNat = 0 := by omega
          rw [e2, Nat.pow_zero, Nat.mul_one] at h
          have h3 : l = (l - d + (d - (place + 1074)).toNat) + (place + 1074).toNat := by omega
          rw [h3, Nat.pow_add, ← Nat.mul_assoc] at h
          exact Nat.eq_of_mul_eq_mul_right (Nat.two_pow_pos _) h
        · have e2 : (place + 1074).toNat = 0 := by omega
          rw [e2, Nat.pow_zero, Nat.mul_one, Nat.mul_assoc, ← Nat.pow_add] at h
          rw [h]
          congr 2; omega
      have hdr : (d - (place + 1074)).toNat ≤ mag.log2 := by
        have hq0 : 0 < q * 2 ^ (l - d) := by
          rcases Nat.eq_zero_or_pos (q * 2 ^ (l - d)) with h0 | h0
          · rw [h0, Nat.zero_mul] at hmag; omega
          · exact h0
        have : 2 ^ (d - (place + 1074)).toNat ≤ mag := by
          rw [hmag]
          exact Nat.le_mul_of_pos_left _ hq0
        have h4 := Nat.lt_of_le_of_lt this hl2
        have := (Nat.pow_lt_pow_iff_right (by omega)).1 h4
        omega
      rw [hkept, e1, Nat.shiftLeft_eq, Nat.pow_zero, Nat.mul_one, cut_exact _ _ _ (by omega) (by rw [hmag]; exact Nat.mul_mod_left _ _)]
      conv => lhs; rw [hmag]
      rw [Nat.mul_div_cancel _ (Nat.two_pow_pos _), Nat.mul_assoc, ← Nat.pow_add]
      congr 2; omega

/-- A word of whatever small number is a number, of the same sign. -/
theorem write_some (neg : Bool) (mag : Nat) (place : Int) (hs : place + mag.log2 ≤ 1000) :
    ∃ n : Nat, fin (double.write (.number neg mag place)) (sv neg n) := by
  show ∃ n : Nat, fin (double.nearest neg mag place) (sv neg n)
  by_cases hm : mag = 0
  · subst hm
    have : double.nearest neg 0 place = double.word neg 0 := by unfold Format.nearest; rw [if_pos rfl]
    rw [this]
    exact ⟨0, neg, 0, -1074, read_zero neg, by omega, by rw [signed_sv]; simp⟩
  · obtain ⟨d, kept, hd, hk, hlo, hdm, hkept, hn⟩ := nearest_parts neg mag place (by omega) hs
    obtain ⟨m, e, hr, he, hv⟩ := read_word neg d kept hd hk hlo
    rw [hn]
    exact ⟨_, neg, m, e, hr, he, by rw [signed_sv]⟩

/-! ### the operations on finite words -/

theorem cmp_lt {a b : Int} (h : a < b) : compare a b = .lt := by
  show compareOfLessAndEq a b = .lt
  unfold compareOfLessAndEq; rw [if_pos h]
theorem cmp_eq (a : Int) : compare a a = .eq := by
  show compareOfLessAndEq a a = .eq
  unfold compareOfLessAndEq; rw [if_neg (by omega), if_pos rfl]
theorem cmp_gt {a b : Int} (h : b < a) : compare a b = .gt := by
  show compareOfLessAndEq a b = .gt
  unfold compareOfLessAndEq; rw [if_neg (by omega), if_neg (by omega)]

def Rep (z : Int) : Prop := ∃ q l : Nat, z.natAbs = q * 2 ^ l ∧ q < 9007199254740992 ∧ l ≤ 2000

theorem sv_natAbs (z : Int) : sv (decide (z < 0)) z.natAbs = z := by
  unfold sv
  by_cases h : z < 0 <;> simp [h] <;> omega

theorem fin_fun {x : Nat} {a b : Int} (ha : fin x a) (hb : fin x b) : a = b := by
  obtain ⟨s, m, e, h, -, rfl⟩ := ha
  obtain ⟨s', m', e', h', -, rfl⟩ := hb
  rw [h] at h'
  cases h'
  rfl

theorem sv_mul (s : Bool) (m n : Nat) : sv s (m * n) = sv s m * (n : Int) := by
  unfold sv; cases s <;> simp [Int.neg_mul]

theorem shift_to (s : Bool) (m : Nat) (i base : Int) (hb : -1074 ≤ base) (hi : base ≤ i) :
    signed s m (i - base).toNat * (2 ^ (base + 1074).toNat : Nat) = signed s m (i + 1074).toNat := by
  rw [signed_sv, signed_sv, ← sv_mul, Nat.mul_assoc, ← Nat.pow_add]
  congr 3; omega

theorem fin_order {x y : Nat} {a b : Int} (ha : fin x a) (hb : fin y b) : double.order x y = some (compare a b) := by
  obtain ⟨s, m, i, h, hi, rfl⟩ := ha
  obtain ⟨t, n, j, h', hj, rfl⟩ := hb
  unfold Format.order
  rw [h, h']
  simp only [Datum.order]
  congr 1
  have b0 : -1074 ≤ min i j := by omega
  have b1 : min i j ≤ i := by omega
  have b2 : min i j ≤ j := by omega
  rw [← shift_to s m i (min i j) b0 b1, ← shift_to t n j (min i j) b0 b2]
  generalize signed s m (i - min i j).toNat = A
  generalize signed t n (j - min i j).toNat = B
  have hp : (0 : Int) < ((2 ^ (min i j + 1074).toNat : Nat) : Int) := Int.natCast_pos.2 (Nat.two_pow_pos _)
  generalize ((2 ^ (min i j + 1074).toNat : Nat) : Int) = c at hp
  rcases Int.lt_trichotomy A B with h1 | h1 | h1
  · have h2 : A * c < B * c := Int.mul_lt_mul_of_pos_right h1 hp
    rw [cmp_lt h1, cmp_lt h2]
  · rw [h1, cmp_eq, cmp_eq]
  · have h2 : B * c < A * c := Int.mul_lt_mul_of_pos_right h1 hp
    rw [cmp_gt h1, cmp_gt h2]

theorem sum_exact {s t : Bool} {m n : Nat} {i j : Int} (hi : -1074 ≤ i) (hj : -1074 ≤ j) (hr : Rep (signed s m (i + 1074).toNat + signed t n (j + 1074).toNat)) :
    ∃ d, Datum.sum (.number s m i) (.number t n j) = some d ∧ fin (double.write d) (signed s m (i + 1074).toNat + signed t n (j + 1074).toNat) := by
  simp only [Datum.sum]
  refine ⟨_, rfl, ?_⟩
  have b0 : -1074 ≤ min i j := by omega
  have b1 : min i j ≤ i := by omega
  have b2 : min i j ≤ j := by omega
  rw [← shift_to s m i (min i j) b0 b1, ← shift_to t n j (min i j) b0 b2] at hr ⊢
  rw [← Int.add_mul] at hr ⊢
  generalize signed s m (i - min i j).toNat + signed t n (j - min i j).toNat = T at hr ⊢
  obtain ⟨q, l, hq, hq1, hl⟩ := hr
  have h0 : (-(min i j + 1074)).toNat = 0 := by omega
  have hw := write_exact (if T = 0 then s && t else T < 0) T.natAbs (min i j) q l hq1 hl (by
    rw [h0, Nat.pow_zero, Nat.mul_one, ← hq, Int.natAbs_mul, Int.natAbs_natCast])
  have e : sv (if T = 0 then s && t else T < 0) (q * 2 ^ l) = T * ((2 ^ (min i j + 1074).toNat : Nat) : Int) := by
    rw [← hq, Int.natAbs_mul, Int.natAbs_natCast, sv_mul]
    by_cases h1 : T = 0
    · subst h1; simp [sv]
    · rw [if_neg h1, sv_natAbs]
  rw [← e]
  exact hw

theorem fin_add {x y : Nat} {a b : Int} (ha : fin x a) (hb : fin y b) (hr : Rep (a + b)) : ∃ r, double.add x y = some r ∧ fin r (a + b) := by
  obtain ⟨s, m, i, h, hi, rfl⟩ := ha
  obtain ⟨t, n, j, h', hj, rfl⟩ := hb
  unfold Format.add
  rw [h, h']
  obtain ⟨d, hd, hf⟩ := sum_exact hi hj hr
  exact ⟨_, by rw [hd]; rfl, hf⟩

theorem signed_not (t : Bool) (n up : Nat) : signed (!t) n up = -signed t n up := by
  unfold signed; cases t <;> simp

theorem fin_sub {x y : Nat} {a b : Int} (ha : fin x a) (hb : fin y b) (hr : Rep (a - b)) : ∃ r, double.sub x y = some r ∧ fin r (a - b) := by
  obtain ⟨s, m, i, h, hi, rfl⟩ := ha
  obtain ⟨t, n, j, h', hj, rfl⟩ := hb
  unfold Format.sub
  rw [h, h']
  rw [Int.sub_eq_add_neg, ← signed_not] at hr ⊢
  obtain ⟨d, hd, hf⟩ := sum_exact hi hj hr
  exact ⟨_, by simp only [Datum.opposite]; rw [hd]; rfl, hf⟩

theorem sv_xor (s t : Bool) (m n : Nat) : sv (s ^^ t) (m * n) = sv s m * sv t n := by
  unfold sv; cases s <;> cases t <;> simp [Int.neg_mul, Int.mul_neg]

theorem sv_abs (s : Bool) (n : Nat) : (sv s n).natAbs = n := by
  unfold sv; split
  · rw [Int.natAbs_neg]; rfl
  · rfl

theorem sv_inj (s : Bool) {m n : Nat} (h : sv s m = sv s n) : m = n := by
  unfold sv at h; cases s <;> simp at h <;> omega

theorem fin_mul {x y : Nat} {a b c : Int} (p : Nat) (hp1 : p = 1074) (ha : fin x a) (hb : fin y b) (hc : a * b = c * ((2 ^ p : Nat) : Int)) (hr : Rep c) : ∃ r, double.mul x y = some r ∧ fin r c := by
  obtain ⟨s, m, i, h, hi, rfl⟩ := ha
  obtain ⟨t, n, j, h', hj, rfl⟩ := hb
  unfold Format.mul
  rw [h, h']
  simp only [Datum.product, Option.map_some]
  refine ⟨_, rfl, ?_⟩
  rw [signed_sv, signed_sv, ← sv_xor] at hc
  obtain ⟨q, l, hq, hq1, hl⟩ := hr
  have hp : 0 < 2 ^ p := Nat.two_pow_pos p
  generalize hP : 2 ^ p = P at hc hp
  have habs : m * 2 ^ (i + 1074).toNat * (n * 2 ^ (j + 1074).toNat) = q * 2 ^ l * P := by
    have := congrArg Int.natAbs hc
    rw [Int.natAbs_mul, Int.natAbs_natCast, hq] at this
    rw [← this, sv_abs]
  have hcs : sv (s ^^ t) (q * 2 ^ l) = c := by
    have h1 : sv (s ^^ t) (q * 2 ^ l) * (P : Int) = c * (P : Int) := by
      rw [← sv_mul, ← habs]; exact hc
    exact Int.eq_of_mul_eq_mul_right (by omega) h1
  rw [← hcs]
  apply write_exact _ _ _ q l hq1 hl
  have hmn : m * n * (2 ^ (i + 1074).toNat * 2 ^ (j + 1074).toNat) = q * 2 ^ l * P := by
    rw [← habs]
    simp only [Nat.mul_assoc, Nat.mul_left_comm]
  rw [← Nat.pow_add, ← hP] at hmn
  by_cases ht : 0 ≤ i + j + 1074
  · have e0 : (-(i + j + 1074)).toNat = 0 := by omega
    have e1 : (i + 1074).toNat + (j + 1074).toNat = (i + j + 1074).toNat + p := by omega
    rw [e0, Nat.pow_zero, Nat.mul_one]
    rw [e1, Nat.pow_add, ← Nat.mul_assoc] at hmn
    exact Nat.eq_of_mul_eq_mul_right (Nat.two_pow_pos p) hmn
  · have e0 : (i + j + 1074).toNat = 0 := by omega
    have e1 : p = (-(i + j + 1074)).toNat + ((i + 1074).toNat + (j + 1074).toNat) := by omega
    rw [e0, Nat.pow_zero, Nat.mul_one]
    have e2 : q * 2 ^ l * 2 ^ p = q * 2 ^ l * 2 ^ (-(i + j + 1074)).toNat * 2 ^ ((i + 1074).toNat + (j + 1074).toNat) := by
      rw [Nat.mul_assoc _ (2 ^ (-(i + j + 1074)).toNat), ← Nat.pow_add, ← e1]
    rw [e2] at hmn
    exact Nat.eq_of_mul_eq_mul_right (Nat.two_pow_pos _) hmn

/-- The product of two numbers that are not great is a number, of the sign that it should have. -/
theorem fin_mul_some {x y : Nat} {s t : Bool} {m n : Nat} {i j : Int} (h : double.read x = .number s m i) (h' : double.read y = .number t n j)
    (hs : i + j + (m * n).log2 ≤ 1000) : ∃ r v, double.mul x y = some r ∧ fin r (sv (s ^^ t) v) := by
  unfold Format.mul
  rw [h, h']
  simp only [Datum.product, Option.map_some]
  obtain ⟨v, hv⟩ := write_some (s ^^ t) (m * n) (i + j) hs
  exact ⟨_, v, rfl, hv⟩

/-- A number's digits are fewer than 54. -/
theorem read_lt {x : Nat} {s : Bool} {m : Nat} {e : Int} (h : double.read x = .number s m e) : m < 9007199254740992 ∧ -1074 ≤ e := by
  unfold Format.read at h
  simp only [lp, bin, inf, sw] at h
  split at h
  · cases h; omega
  · split at h
    · cases h; omega
    · split at h <;> cases h

/-- Half of it. -/
theorem fin_half {x : Nat} {a c : Int} (ha : fin x a) (hc : a = c * 2) (hr : Rep c) : ∃ r, double.div x 4611686018427387904 = some r ∧ fin r c := by
  obtain ⟨s, m, i, h, hi, rfl⟩ := ha
  have h2 : double.read 4611686018427387904 = .number false 4503599627370496 (-51) := by decide
  unfold Format.div
  rw [h, h2]
  have hfb : double.fractionBits + 2 = 54 := rfl
  have hl2 : Nat.log2 4503599627370496 = 52 := by decide
  simp only [Datum.quotient, hfb, hl2]
  rw [if_neg (by decide)]
  refine ⟨_, rfl, ?_⟩
  have hm := (read_lt h).1
  have hlog : m.log2 ≤ 52 := by
    by_cases h0 : m = 0
    · subst h0; decide
    · have h1 := Nat.log2_self_le h0
      have h2 : 2 ^ m.log2 < 2 ^ 53 := by
        have : (2 : Nat) ^ 53 = 9007199254740992 := by decide
        omega
      have := (Nat.pow_lt_pow_iff_right (by omega)).1 h2
      omega
  obtain ⟨k, hk⟩ : ∃ k, 54 + 52 - m.log2 = 52 + k ∧ 2 ≤ k := ⟨54 - m.log2, by omega, by omega⟩
  have e1 : m <<< (54 + 52 - m.log2) = m * 2 ^ k * 4503599627370496 := by
    rw [Nat.shiftLeft_eq, hk.1, Nat.pow_add, Nat.mul_comm (2 ^ 52), ← Nat.mul_assoc]
  rw [e1, Nat.mul_div_cancel _ (by decide), Nat.mul_mod_left, hk.1]
  have e2 : 2 * (m * 2 ^ k) + (0 != 0).toNat = m * 2 ^ (k + 1) := by
    have : (0 != 0).toNat = 0 := rfl
    rw [this, Nat.pow_succ, Nat.add_zero, Nat.mul_comm 2, Nat.mul_assoc]
  rw [e2]
  have hx : (s ^^ false) = s := by cases s <;> rfl
  rw [hx]
  obtain ⟨q, l, hq, hq1, hl⟩ := hr
  rw [signed_sv] at hc
  have habs : m * 2 ^ (i + 1074).toNat = q * 2 ^ l * 2 := by
    have := congrArg Int.natAbs hc
    rw [Int.natAbs_mul, hq] at this
    rw [show q * 2 ^ l * 2 = q * 2 ^ l * Int.natAbs 2 from rfl, ← this, sv_abs]
  have hcs : sv s (q * 2 ^ l) = c := by
    have h1 : sv s (q * 2 ^ l) * 2 = c * 2 := by
      rw [← hc, habs]
      exact (sv_mul s (q * 2 ^ l) 2).symm
    omega
  rw [← hcs]
  apply write_exact _ _ _ q l hq1 hl
  generalize hI : (i + 1074).toNat = I at habs
  -- the place: i - (-51) - (52 + k) - 1
  have hpl : i - -51 - ((52 + k : Nat) : Int) - 1 + 1074 = (I : Int) - 2 - k := by omega
  rw [hpl]
  by_cases ht : 0 ≤ (I : Int) - 2 - k
  · have e0 : (-((I : Int) - 2 - k)).toNat = 0 := by omega
    have e3 : I = (k + 1) + ((I : Int) - 2 - k).toNat + 1 := by omega
    rw [e0, Nat.pow_zero, Nat.mul_one, Nat.mul_assoc, ← Nat.pow_add]
    rw [e3, Nat.pow_succ, ← Nat.mul_assoc] at habs
    exact Nat.eq_of_mul_eq_mul_right (by decide : 0 < 2) habs
  · have e0 : ((I : Int) - 2 - k).toNat = 0 := by omega
    rw [e0, Nat.pow_zero, Nat.mul_one]
    by_cases hI1 : 1 ≤ I
    · have e3 : k + 1 = (I - 1) + (-((I : Int) - 2 - k)).toNat := by omega
      have e4 : m * 2 ^ (I - 1) = q * 2 ^ l := by
        have : I = I - 1 + 1 := by omega
        rw [this, Nat.pow_succ, ← Nat.mul_assoc] at habs
        exact Nat.eq_of_mul_eq_mul_right (by decide : 0 < 2) habs
      rw [e3, Nat.pow_add, ← Nat.mul_assoc, e4]
    · have hI0 : I = 0 := by omega
      subst hI0
      rw [Nat.pow_zero, Nat.mul_one] at habs
      have e3 : (-(((0 : Nat) : Int) - 2 - k)).toNat = k + 2 := by omega
      rw [e3, habs, Nat.pow_succ 2 (k + 1), Nat.mul_assoc, Nat.mul_comm 2]


/-! ### dyadic numbers: 'n / 2 ^ k' -/

/-- The word stands for 'n / 2 ^ k'. -/
def Is (x : Nat) (n : Int) (k : Nat) : Prop := k ≤ 1000 ∧ fin x (n * ((2 ^ (1074 - k) : Nat) : Int))

theorem rep_mul (n : Int) (l : Nat) (hn : n.natAbs < 9007199254740992) (hl : l ≤ 2000) : Rep (n * ((2 ^ l : Nat) : Int)) :=
  ⟨n.natAbs, l, by rw [Int.natAbs_mul, Int.natAbs_natCast], hn, hl⟩

theorem Is.order {x y : Nat} {a b : Int} {k : Nat} (ha : Is x a k) (hb : Is y b k) : FloatKind.f64.format.order x y = some (compare a b) := by
  show double.order x y = _
  rw [fin_order ha.2 hb.2]
  congr 1
  have hp : (0 : Int) < ((2 ^ (1074 - k) : Nat) : Int) := Int.natCast_pos.2 (Nat.two_pow_pos _)
  generalize ((2 ^ (1074 - k) : Nat) : Int) = c at hp
  rcases Int.lt_trichotomy a b with h1 | h1 | h1
  · rw [cmp_lt h1, cmp_lt (Int.mul_lt_mul_of_pos_right h1 hp)]
  · rw [h1, cmp_eq, cmp_eq]
  · rw [cmp_gt h1, cmp_gt (Int.mul_lt_mul_of_pos_right h1 hp)]

theorem Is.add {x y : Nat} {a b : Int} {k : Nat} (ha : Is x a k) (hb : Is y b k) (h : (a + b).natAbs < 9007199254740992) :
    ∃ r, floatBits .add .f64 x y = some r ∧ Is r (a + b) k := by
  obtain ⟨r, h1, h2⟩ := fin_add ha.2 hb.2 (by rw [← Int.add_mul]; exact rep_mul _ _ h (by omega))
  rw [← Int.add_mul] at h2
  exact ⟨r, h1, ha.1, h2⟩

theorem Is.sub {x y : Nat} {a b : Int} {k : Nat} (ha : Is x a k) (hb : Is y b k) (h : (a - b).natAbs < 9007199254740992) :
    ∃ r, floatBits .sub .f64 x y = some r ∧ Is r (a - b) k := by
  obtain ⟨r, h1, h2⟩ := fin_sub ha.2 hb.2 (by rw [← Int.sub_mul]; exact rep_mul _ _ h (by omega))
  rw [← Int.sub_mul] at h2
  exact ⟨r, h1, ha.1, h2⟩

theorem Is.mul {x y : Nat} {a b : Int} {k l : Nat} (ha : Is x a k) (hb : Is y b l) (hkl : k + l ≤ 1000) (h : (a * b).natAbs < 9007199254740992) :
    ∃ r, floatBits .mul .f64 x y = some r ∧ Is r (a * b) (k + l) := by
  obtain ⟨p, hp⟩ : ∃ p, p = 1074 := ⟨_, rfl⟩
  have he : a * ((2 ^ (1074 - k) : Nat) : Int) * (b * ((2 ^ (1074 - l) : Nat) : Int)) = a * b * ((2 ^ (1074 - (k + l)) : Nat) : Int) * ((2 ^ p : Nat) : Int) := by
    have h1 : 1074 - k + (1074 - l) = 1074 - (k + l) + p := by omega
    have h2 : ((2 ^ (1074 - k) : Nat) : Int) * ((2 ^ (1074 - l) : Nat) : Int) = ((2 ^ (1074 - (k + l)) : Nat) : Int) * ((2 ^ p : Nat) : Int) := by
      rw [← Int.natCast_mul, ← Int.natCast_mul, ← Nat.pow_add, ← Nat.pow_add, h1]
    rw [Int.mul_assoc (a * b), ← h2]
    generalize ((2 ^ (1074 - k) : Nat) : Int) = A
    generalize ((2 ^ (1074 - l) : Nat) : Int) = B
    rw [Int.mul_assoc, Int.mul_assoc, Int.mul_left_comm A]
  obtain ⟨r, h1, h2⟩ := fin_mul p hp ha.2 hb.2 he (rep_mul _ _ h (by omega))
  exact ⟨r, h1, hkl, h2⟩

/-- The same, told by the next finer unit. -/
theorem Is.finer {x : Nat} {a : Int} {k : Nat} (ha : Is x a k) (hk : k + 1 ≤ 1000) : Is x (a * 2) (k + 1) := by
  refine ⟨hk, ?_⟩
  have h1 : a * 2 * ((2 ^ (1074 - (k + 1)) : Nat) : Int) = a * ((2 ^ (1074 - k) : Nat) : Int) := by
    have : 1074 - k = 1074 - (k + 1) + 1 := by omega
    rw [this, Nat.pow_succ, Int.natCast_mul, Int.mul_assoc, Int.mul_comm 2]
    rfl
  rw [h1]
  exact ha.2

theorem Is.half {x : Nat} {a : Int} {k : Nat} (ha : Is x a k) (hk : k + 1 ≤ 1000) (h : a.natAbs < 9007199254740992) :
    ∃ r, floatBits .quo .f64 x 4611686018427387904 = some r ∧ Is r a (k + 1) := by
  have h1 : a * ((2 ^ (1074 - k) : Nat) : Int) = a * ((2 ^ (1074 - (k + 1)) : Nat) : Int) * 2 := by
    have : 1074 - k = 1074 - (k + 1) + 1 := by omega
    rw [this, Nat.pow_succ, Int.natCast_mul, Int.mul_assoc]
    rfl
  obtain ⟨r, h2, h3⟩ := fin_half ha.2 h1 (rep_mul _ _ h (by omega))
  exact ⟨r, h2, hk, h3⟩

end Go.Dy
