/- The quotient of two lengths stands to one as the lengths stand to each other; a zero difference has no sign. Conditions: those of each lemma. -/
import Derived.Test.YtolmmgemahohoaaSlack
namespace Go.Dy
open Ieee

/-- No negative nought. -/
def NZ (x : Nat) : Prop := ∀ e, double.read x ≠ .number true 0 e

theorem nz_of_fin {x : Nat} {z : Int} (h : fin x z) (hz : z ≠ 0) : NZ x := by
  intro e he
  obtain ⟨s, m, e', hr, -, rfl⟩ := h
  rw [hr] at he
  cases he
  apply hz
  rw [signed_sv]; simp [sv]

/-- A difference of two such is such. -/
theorem sub_nz {x y r : Nat} {a b : Int} (ha : fin x a) (hb : fin y b) (hx : NZ x) (hr : Rep (a - b)) (h : double.sub x y = some r) : NZ r := by
  obtain ⟨r', h1, h2⟩ := fin_sub ha hb hr
  rw [h] at h1
  cases h1
  by_cases hz : a - b = 0
  · obtain ⟨s, m, i, hrx, hi, rfl⟩ := ha
    obtain ⟨t, n, j, hry, hj, rfl⟩ := hb
    unfold Format.sub at h
    rw [hrx, hry] at h
    simp only [Datum.opposite, Datum.sum, Option.map_some, Option.some.injEq] at h
    have b0 : -1074 ≤ min i j := by omega
    have hT : signed s m (i - min i j).toNat + signed (!t) n (j - min i j).toNat = 0 := by
      rw [← shift_to s m i (min i j) b0 (by omega), ← shift_to t n j (min i j) b0 (by omega), ← Int.sub_mul, Int.sub_eq_add_neg, ← signed_not] at hz
      have hp : (0 : Int) < ((2 ^ (min i j + 1074).toNat : Nat) : Int) := Int.natCast_pos.2 (Nat.two_pow_pos _)
      rcases Int.mul_eq_zero.1 hz with h1 | h1
      · exact h1
      · omega
    rw [hT, if_pos rfl] at h
    have hs : (s && !t) = false := by
      cases s with
      | false => rfl
      | true =>
        cases t with
        | true => rfl
        | false =>
          exfalso
          have hm : m ≠ 0 := fun e => hx i (by rw [hrx, e])
          have h1 : 0 < m * 2 ^ (i + 1074).toNat := Nat.mul_pos (by omega) (Nat.two_pow_pos _)
          rw [signed_sv, signed_sv] at hz
          generalize m * 2 ^ (i + 1074).toNat = u at hz h1
          generalize n * 2 ^ (j + 1074).toNat = v at hz
          simp only [sv] at hz
          simp at hz
          omega
    rw [hs] at h
    have hw : double.write (.number false (0 : Int).natAbs (min i j)) = double.word false 0 := by
      show double.nearest _ _ _ = _
      unfold Format.nearest; rw [if_pos (by decide)]
    rw [hw] at h
    subst h
    intro e he
    rw [read_zero] at he
    cases he
  · exact nz_of_fin h2 hz

theorem cut_ge (neg : Bool) (n drop C : Nat) (h : C * 2 ^ drop ≤ n) : C ≤ Toward.even.cut neg n drop := by
  obtain ⟨more, -, hc⟩ := cut_bound neg n drop
  rw [hc]
  by_cases hd : drop ≤ n.log2 + 2
  · rw [Nat.min_eq_left hd]
    have := (Nat.le_div_iff_mul_le (Nat.two_pow_pos drop)).2 h
    omega
  · have h1 := Nat.lt_log2_self (n := n)
    have h2 : 2 ^ (n.log2 + 1) ≤ 2 ^ drop := Nat.pow_le_pow_right (by omega) (by omega)
    have h3 : C = 0 := by
      rcases Nat.eq_zero_or_pos C with h0 | h0
      · exact h0
      · have := Nat.le_mul_of_pos_left (2 ^ drop) h0
        omega
    omega

theorem cut_le (neg : Bool) (n drop C : Nat) (h : n ≤ C * 2 ^ drop) : Toward.even.cut neg n drop ≤ C := by
  unfold Toward.cut
  simp only [Nat.shiftLeft_eq, Nat.one_mul]
  by_cases hd : drop ≤ n.log2 + 2
  · rw [Nat.min_eq_left hd]
    have hp : 0 < 2 ^ drop := Nat.two_pow_pos _
    have hm := Nat.div_add_mod n (2 ^ drop)
    have hlt := Nat.mod_lt n hp
    have hle : n / 2 ^ drop ≤ C := by
      have := Nat.div_le_div_right (c := 2 ^ drop) h
      rwa [Nat.mul_div_cancel _ hp] at this
    by_cases he : n / 2 ^ drop = C
    · rw [he] at hm
      have h0 : n % 2 ^ drop = 0 := by
        rw [Nat.mul_comm] at hm
        omega
      rw [h0, he]
      have h1 : decide (2 ^ drop < 2 * 0) = false := by simp
      have h2 : (2 ^ drop == 2 * 0) = false := by simp
      simp [h2]
    · have := Bool.toNat_le (decide (2 ^ drop < 2 * (n % 2 ^ drop)) || 2 ^ drop == 2 * (n % 2 ^ drop) && n / 2 ^ drop % 2 == 1)
      omega
  · have hmin : min drop (n.log2 + 2) = n.log2 + 2 := by omega
    rw [hmin]
    have h1 := Nat.lt_log2_self (n := n)
    have e1 : 2 ^ (n.log2 + 2) = 2 * 2 ^ (n.log2 + 1) := by rw [Nat.pow_succ 2 (n.log2 + 1)]; omega
    have e2 : n / 2 ^ (n.log2 + 2) = 0 := Nat.div_eq_of_lt (by omega)
    have e3 : n % 2 ^ (n.log2 + 2) = n := Nat.mod_eq_of_lt (by omega)
    rw [e2, e3]
    have h2 : decide (2 ^ (n.log2 + 2) < 2 * n) = false := by simp; omega
    have h3 : (2 ^ (n.log2 + 2) == 2 * n) = false := by simp; omega
    rw [h2, h3]
    simp

/-- The rounded word is not below what can be written and is not above the number. -/
theorem write_ge (neg : Bool) (mag : Nat) (place : Int) (q l : Nat) (hm : 0 < mag) (hs : place + mag.log2 ≤ 1000) (hl : l ≤ 2000) (hq : q < 9007199254740992) (hp : 0 ≤ place + 1074)
    (h : q * 2 ^ l ≤ mag * 2 ^ (place + 1074).toNat) :
    ∃ n : Nat, fin (double.write (.number neg mag place)) (sv neg n) ∧ q * 2 ^ l ≤ n := by
  show ∃ n : Nat, fin (double.nearest neg mag place) (sv neg n) ∧ _
  obtain ⟨d, kept, hd, hk, hlo, hdm, hkept, hn⟩ := nearest_parts neg mag place hm hs
  obtain ⟨m, e, hr, he, hv⟩ := read_word neg d kept hd hk hlo
  rw [hn]
  refine ⟨_, ⟨neg, m, e, hr, he, by rw [signed_sv]⟩, ?_⟩
  rw [hv]
  by_cases hdl : d ≤ l
  · have hC : q * 2 ^ l = q * 2 ^ (l - d) * 2 ^ d := by rw [Nat.mul_assoc, ← Nat.pow_add, Nat.sub_add_cancel hdl]
    rw [hC]
    apply Nat.mul_le_mul_right
    rw [hkept]
    apply cut_ge
    rw [Nat.shiftLeft_eq]
    rw [hC] at h
    by_cases ht : (d : Int) ≤ place + 1074
    · have e1 : (d - (place + 1074)).toNat = 0 := by omega
      have e2 : (place + 1074).toNat = (place + 1074 - d).toNat + d := by omega
      rw [e1, Nat.pow_zero, Nat.mul_one]
      rw [e2, Nat.pow_add, ← Nat.mul_assoc] at h
      exact Nat.le_of_mul_le_mul_right h (Nat.two_pow_pos _)
    · have e1 : (place + 1074 - d).toNat = 0 := by omega
      have e2 : d = (d - (place + 1074)).toNat + (place + 1074).toNat := by omega
      rw [e1, Nat.pow_zero, Nat.mul_one]
      have h2 : q * 2 ^ (l - d) * 2 ^ d = q * 2 ^ (l - d) * 2 ^ (d - (place + 1074)).toNat * 2 ^ (place + 1074).toNat := by
        rw [Nat.mul_assoc _ (2 ^ (d - (place + 1074)).toNat), ← Nat.pow_add, ← e2]
      rw [h2] at h
      exact Nat.le_of_mul_le_mul_right h (Nat.two_pow_pos _)
  · have h1 : 4503599627370496 ≤ kept := by omega
    have h2 : d = l + 1 + (d - l - 1) := by omega
    have h3 : (2 : Nat) ^ 53 = 9007199254740992 := by decide
    have h4 : q * 2 ^ l ≤ 9007199254740992 * 2 ^ l := Nat.mul_le_mul_right _ (by omega)
    have h5 : 4503599627370496 * 2 ^ (l + 1) ≤ kept * 2 ^ d := Nat.mul_le_mul h1 (Nat.pow_le_pow_right (by omega) (by omega))
    rw [Nat.pow_succ] at h5
    generalize 2 ^ l = u at *
    generalize kept * 2 ^ d = v at *
    omega

theorem write_le (neg : Bool) (mag : Nat) (place : Int) (q l : Nat) (hm : 0 < mag) (hs : place + mag.log2 ≤ 1000) (hq : q < 9007199254740992) (hp : 0 ≤ place + 1074)
    (h : mag * 2 ^ (place + 1074).toNat ≤ q * 2 ^ l) :
    ∃ n : Nat, fin (double.write (.number neg mag place)) (sv neg n) ∧ n ≤ q * 2 ^ l := by
  show ∃ n : Nat, fin (double.nearest neg mag place) (sv neg n) ∧ _
  obtain ⟨d, kept, hd, hk, hlo, hdm, hkept, hn⟩ := nearest_parts neg mag place hm hs
  obtain ⟨m, e, hr, he, hv⟩ := read_word neg d kept hd hk hlo
  rw [hn]
  refine ⟨_, ⟨neg, m, e, hr, he, by rw [signed_sv]⟩, ?_⟩
  rw [hv]
  have hdl : d ≤ l := by
    by_cases h0 : d = 0
    · omega
    · have h1 := Nat.log2_self_le (n := mag) (by omega)
      have h2 : 2 ^ (mag.log2 + (place + 1074).toNat) ≤ mag * 2 ^ (place + 1074).toNat := by
        rw [Nat.pow_add]; exact Nat.mul_le_mul_right _ h1
      have h3 : q * 2 ^ l < 2 ^ (53 + l) := by
        rw [Nat.pow_add]
        have : (2 : Nat) ^ 53 = 9007199254740992 := by decide
        exact Nat.mul_lt_mul_of_pos_right (by omega) (Nat.two_pow_pos _)
      have h4 := (Nat.pow_lt_pow_iff_right (by omega : 1 < 2)).1 (Nat.lt_of_le_of_lt (Nat.le_trans h2 h) h3)
      omega
  have hC : q * 2 ^ l = q * 2 ^ (l - d) * 2 ^ d := by rw [Nat.mul_assoc, ← Nat.pow_add, Nat.sub_add_cancel hdl]
  rw [hC]
  apply Nat.mul_le_mul_right
  rw [hkept]
  apply cut_le
  rw [Nat.shiftLeft_eq]
  rw [hC] at h
  by_cases ht : (d : Int) ≤ place + 1074
  · have e1 : (d - (place + 1074)).toNat = 0 := by omega
    have e2 : (place + 1074).toNat = (place + 1074 - d).toNat + d := by omega
    rw [e1, Nat.pow_zero, Nat.mul_one]
    rw [e2, Nat.pow_add, ← Nat.mul_assoc] at h
    exact Nat.le_of_mul_le_mul_right h (Nat.two_pow_pos _)
  · have e1 : (place + 1074 - d).toNat = 0 := by omega
    have e2 : d = (d - (place + 1074)).toNat + (place + 1074).toNat := by omega
    rw [e1, Nat.pow_zero, Nat.mul_one]
    have h2 : q * 2 ^ (l - d) * 2 ^ d = q * 2 ^ (l - d) * 2 ^ (d - (place + 1074)).toNat * 2 ^ (place + 1074).toNat := by
      rw [Nat.mul_assoc _ (2 ^ (d - (place + 1074)).toNat), ← Nat.pow_add, ← e2]
    rw [h2] at h
    exact Nat.le_of_mul_le_mul_right h (Nat.two_pow_pos _)

/-- The parts of a quotient of two lengths. -/
theorem quo_parts {x y : Nat} {s t : Bool} {m n : Nat} {i j : Int} (hx : double.read x = .number s m i) (hy : double.read y = .number t n j) (hm : 0 < m) (hn : 0 < n) :
    ∃ (more mag : Nat), more = 54 + n.log2 - m.log2 ∧ m.log2 ≤ 52 ∧ n.log2 ≤ 52 ∧ 0 < mag ∧ mag.log2 ≤ 56 ∧ double.div x y = some (double.write (.number (s ^^ t) mag (i - j - more - 1))) ∧
      (∀ K, n * K ≤ m * 2 ^ more → 2 * K ≤ mag) ∧ (∀ K, m * 2 ^ more ≤ n * K → mag ≤ 2 * K) := by
  have lm : m.log2 ≤ 52 := by
    have h1 := Nat.log2_self_le (n := m) (by omega)
    have h2 : 2 ^ m.log2 < 2 ^ 53 := by
      have : (2 : Nat) ^ 53 = 9007199254740992 := by decide
      have := (read_lt hx).1
      omega
    have := (Nat.pow_lt_pow_iff_right (by omega : 1 < 2)).1 h2
    omega
  have ln : n.log2 ≤ 52 := by
    have h1 := Nat.log2_self_le (n := n) (by omega)
    have h2 : 2 ^ n.log2 < 2 ^ 53 := by
      have : (2 : Nat) ^ 53 = 9007199254740992 := by decide
      have := (read_lt hy).1
      omega
    have := (Nat.pow_lt_pow_iff_right (by omega : 1 < 2)).1 h2
    omega
  generalize hmore : 54 + n.log2 - m.log2 = more
  have m1 := Nat.log2_self_le (n := m) (by omega)
  have m2 := Nat.lt_log2_self (n := m)
  have n1 := Nat.log2_self_le (n := n) (by omega)
  have n2 := Nat.lt_log2_self (n := n)
  have hD1 : n ≤ m * 2 ^ more := by
    have h1 : 2 ^ (n.log2 + 1) ≤ 2 ^ m.log2 * 2 ^ more := by rw [← Nat.pow_add]; exact Nat.pow_le_pow_right (by omega) (by omega)
    have h2 := Nat.mul_le_mul_right (2 ^ more) m1
    omega
  have hD2 : m * 2 ^ more < n * 2 ^ 55 := by
    have h1 : m * 2 ^ more < 2 ^ (m.log2 + 1) * 2 ^ more := Nat.mul_lt_mul_of_pos_right m2 (Nat.two_pow_pos _)
    have h2 : 2 ^ (m.log2 + 1) * 2 ^ more = 2 ^ n.log2 * 2 ^ 55 := by rw [← Nat.pow_add, ← Nat.pow_add]; congr 1; omega
    have h3 := Nat.mul_le_mul_right (2 ^ 55) n1
    omega
  have hQ1 : 1 ≤ m * 2 ^ more / n := (Nat.le_div_iff_mul_le hn).2 (by omega)
  have hQ2 : m * 2 ^ more / n < 2 ^ 55 := (Nat.div_lt_iff_lt_mul hn).2 (by rw [Nat.mul_comm (2 ^ 55) n]; exact hD2)
  have hdm := Nat.div_add_mod (m * 2 ^ more) n
  have hml := Nat.mod_lt (m * 2 ^ more) hn
  refine ⟨more, 2 * (m * 2 ^ more / n) + (m * 2 ^ more % n != 0).toNat, rfl, lm, ln, by omega, ?_, ?_, ?_, ?_⟩
  · have hb := Bool.toNat_le (m * 2 ^ more % n != 0)
    have h1 : 2 * (m * 2 ^ more / n) + (m * 2 ^ more % n != 0).toNat < 2 ^ 57 := by
      have h2 : (2 : Nat) ^ 57 = 4 * 2 ^ 55 := by decide
      omega
    have h3 := Nat.log2_self_le (n := 2 * (m * 2 ^ more / n) + (m * 2 ^ more % n != 0).toNat) (by omega)
    have := (Nat.pow_lt_pow_iff_right (by omega : 1 < 2)).1 (Nat.lt_of_le_of_lt h3 h1)
    omega
  · unfold Format.div
    rw [hx, hy]
    have hfb : double.fractionBits + 2 = 54 := rfl
    simp only [Datum.quotient, hfb, Nat.shiftLeft_eq, hmore]
    rw [if_neg (by omega)]
    rfl
  · intro K hK
    have := (Nat.le_div_iff_mul_le hn).2 (by rw [Nat.mul_comm]; exact hK)
    omega
  · intro K hK
    have hle : m * 2 ^ more / n ≤ K := by
      have := Nat.div_le_div_right (c := n) hK
      rwa [Nat.mul_div_cancel_left _ hn] at this
    by_cases he : m * 2 ^ more / n = K
    · have h0 : m * 2 ^ more % n = 0 := by
        rw [he] at hdm
        omega
      rw [h0, he]
      simp
    · have hb := Bool.toNat_le (m * 2 ^ more % n != 0)
      omega

theorem pos_read {x : Nat} {W : Int} (h : Is x W 1) (hW : 0 < W) (p : Nat) (hp : p + 1 = 1074) : ∃ m i, double.read x = .number false m i ∧ -1074 ≤ i ∧ 0 < m ∧ m * 2 ^ (i + 1074).toNat = W.toNat * 2 ^ p := by
  obtain ⟨s, m, i, hr, hi, hv⟩ := h.at p hp
  have hpp : 0 < 2 ^ p := Nat.two_pow_pos _
  obtain ⟨w, rfl⟩ := Int.eq_ofNat_of_zero_le (by omega : 0 ≤ W)
  rw [Int.toNat_natCast]
  have hwp : 0 < w * 2 ^ p := Nat.mul_pos (by omega) hpp
  rw [signed_sv, ← Int.natCast_mul] at hv
  generalize w * 2 ^ p = u at *
  have hs : s = false := by
    cases s with
    | false => rfl
    | true =>
      generalize m * 2 ^ (i + 1074).toNat = a at hv
      simp only [sv, if_true] at hv
      omega
  subst hs
  have hv' : m * 2 ^ (i + 1074).toNat = u := by
    simp only [sv] at hv
    simpa using Int.ofNat.inj hv
  refine ⟨m, i, hr, hi, ?_, hv'⟩
  rcases Nat.eq_zero_or_pos m with h0 | h0
  · rw [h0, Nat.zero_mul] at hv'; omega
  · exact h0

theorem place_bounds {m : Nat} {i : Int} {w p : Nat} (hm : 0 < m) (hi : -1074 ≤ i) (hv : m * 2 ^ (i + 1074).toNat = w * 2 ^ p) (hp : p + 1 = 1074) (h1 : 1 ≤ w) (h2 : w ≤ 4194304) :
    i + m.log2 ≤ 21 ∧ -2 < i + m.log2 := by
  have a1 := Nat.log2_self_le (n := m) (by omega)
  have a2 := Nat.lt_log2_self (n := m)
  constructor
  · have hle : m * 2 ^ (i + 1074).toNat ≤ 2 ^ (22 + p) := by
      rw [hv, Nat.pow_add]
      exact Nat.mul_le_mul_right _ h2
    have := log_le hm hi hle
    omega
  · have h3 : 2 ^ p < 2 ^ (m.log2 + 1 + (i + 1074).toNat) := by
      have h4 : m * 2 ^ (i + 1074).toNat < 2 ^ (m.log2 + 1) * 2 ^ (i + 1074).toNat := Nat.mul_lt_mul_of_pos_right a2 (Nat.two_pow_pos _)
      rw [← Nat.pow_add, hv] at h4
      have h5 := Nat.mul_le_mul_right (2 ^ p) h1
      omega
    have := (Nat.pow_lt_pow_iff_right (by omega : 1 < 2)).1 h3
    omega

/-- The scaled comparison, in the quotient's own digits. -/
theorem scale_ge {m n I J more r e p w h q : Nat} (hm : m * 2 ^ I = w * 2 ^ p) (hn : n * 2 ^ J = h * 2 ^ p) (he : r + I + e = more + J) (hq : h * q ≤ w * 2 ^ e) : n * (q * 2 ^ r) ≤ m * 2 ^ more := by
  have h1 : n * (q * 2 ^ r) * 2 ^ J ≤ m * 2 ^ more * 2 ^ J := by
    have e1 : n * (q * 2 ^ r) * 2 ^ J = h * q * (2 ^ p * 2 ^ r) := by
      calc n * (q * 2 ^ r) * 2 ^ J = (n * 2 ^ J) * q * 2 ^ r := by simp only [Nat.mul_assoc, Nat.mul_comm, Nat.mul_left_comm]
        _ = h * q * (2 ^ p * 2 ^ r) := by rw [hn]; simp only [Nat.mul_assoc, Nat.mul_comm, Nat.mul_left_comm]
    have e2 : m * 2 ^ more * 2 ^ J = w * 2 ^ e * (2 ^ p * 2 ^ r) := by
      calc m * 2 ^ more * 2 ^ J = m * 2 ^ (more + J) := by rw [Nat.mul_assoc, ← Nat.pow_add]
        _ = (m * 2 ^ I) * 2 ^ e * 2 ^ r := by rw [← he, Nat.pow_add, Nat.pow_add]; simp only [Nat.mul_assoc, Nat.mul_comm, Nat.mul_left_comm]
        _ = w * 2 ^ e * (2 ^ p * 2 ^ r) := by rw [hm]; simp only [Nat.mul_assoc, Nat.mul_comm, Nat.mul_left_comm]
    rw [e1, e2]
    exact Nat.mul_le_mul_right _ hq
  exact Nat.le_of_mul_le_mul_right h1 (Nat.two_pow_pos _)

theorem scale_le {m n I J more r e p w h q : Nat} (hm : m * 2 ^ I = w * 2 ^ p) (hn : n * 2 ^ J = h * 2 ^ p) (he : r + I + e = more + J) (hq : w * 2 ^ e ≤ h * q) : m * 2 ^ more ≤ n * (q * 2 ^ r) := by
  have h1 : m * 2 ^ more * 2 ^ J ≤ n * (q * 2 ^ r) * 2 ^ J := by
    have e1 : n * (q * 2 ^ r) * 2 ^ J = h * q * (2 ^ p * 2 ^ r) := by
      calc n * (q * 2 ^ r) * 2 ^ J = (n * 2 ^ J) * q * 2 ^ r := by simp only [Nat.mul_assoc, Nat.mul_comm, Nat.mul_left_comm]
        _ = h * q * (2 ^ p * 2 ^ r) := by rw [hn]; simp only [Nat.mul_assoc, Nat.mul_comm, Nat.mul_left_comm]
    have e2 : m * 2 ^ more * 2 ^ J = w * 2 ^ e * (2 ^ p * 2 ^ r) := by
      calc m * 2 ^ more * 2 ^ J = m * 2 ^ (more + J) := by rw [Nat.mul_assoc, ← Nat.pow_add]
        _ = (m * 2 ^ I) * 2 ^ e * 2 ^ r := by rw [← he, Nat.pow_add, Nat.pow_add]; simp only [Nat.mul_assoc, Nat.mul_comm, Nat.mul_left_comm]
        _ = w * 2 ^ e * (2 ^ p * 2 ^ r) := by rw [hm]; simp only [Nat.mul_assoc, Nat.mul_comm, Nat.mul_left_comm]
    rw [e1, e2]
    exact Nat.mul_le_mul_right _ hq
  exact Nat.le_of_mul_le_mul_right h1 (Nat.two_pow_pos _)

theorem quo_pos {x y : Nat} {W H : Int} (hx : Is x W 1) (hy : Is y H 1) (hW : 0 < W) (hH : 0 < H) (bW : W ≤ 4194304) (bH : H ≤ 4194304) :
    ∃ r, floatBits .quo .f64 x y = some r ∧ FloatKind.f64.format.order r 4607182418800017408 = some (compare W H) := by
  obtain ⟨p, hp⟩ : ∃ p, p + 1 = 1074 := ⟨1073, rfl⟩
  obtain ⟨m, i, hrx, hi, hm, hvm⟩ := pos_read hx hW p hp
  obtain ⟨n, j, hry, hj, hn, hvn⟩ := pos_read hy hH p hp
  obtain ⟨w, rfl⟩ := Int.eq_ofNat_of_zero_le (by omega : 0 ≤ W)
  obtain ⟨h, rfl⟩ := Int.eq_ofNat_of_zero_le (by omega : 0 ≤ H)
  rw [Int.toNat_natCast] at hvm hvn
  obtain ⟨a1, a2⟩ := place_bounds hm hi hvm hp (by omega) (by omega)
  obtain ⟨b1, b2⟩ := place_bounds hn hj hvn hp (by omega) (by omega)
  obtain ⟨more, mag, hmore, lm, ln, hmag, hlog, hdiv, hge, hle⟩ := quo_parts hrx hry hm hn
  refine ⟨_, hdiv, ?_⟩
  have h1 : fin 4607182418800017408 (1 * ((2 ^ (p + 1) : Nat) : Int)) := is_one.at (p + 1) (by omega)
  have place0 : 0 ≤ i - j - more - 1 + 1074 := by omega
  have hs : i - j - more - 1 + mag.log2 ≤ 1000 := by omega
  -- from below
  have lower (q e : Nat) (hq : q < 9007199254740992) (he : e ≤ 22) (hh : h * q ≤ w * 2 ^ e) : ∃ v : Nat, fin (double.write (.number (false ^^ false) mag (i - j - more - 1))) (sv (false ^^ false) v) ∧ q * 2 ^ (p + 1 - e) ≤ v := by
    obtain ⟨r, hr⟩ : ∃ r : Nat, (r : Int) + 1 = (p + 1 - e : Nat) - (i - j - more - 1 + 1074) := ⟨((p + 1 - e : Nat) - (i - j - more - 1 + 1074) - 1 : Int).toNat, by omega⟩
    have k1 := hge _ (scale_ge hvm hvn (r := r) (by omega) hh)
    apply write_ge _ _ _ _ _ hmag hs (by omega) hq place0
    have e1 : p + 1 - e = r + 1 + (i - j - more - 1 + 1074).toNat := by omega
    rw [e1, Nat.pow_add, ← Nat.mul_assoc]
    apply Nat.mul_le_mul_right
    rw [Nat.pow_succ, ← Nat.mul_assoc, Nat.mul_comm]
    exact k1
  have upper (q e : Nat) (hq : q < 9007199254740992) (he : e ≤ 22) (hh : w * 2 ^ e ≤ h * q) : ∃ v : Nat, fin (double.write (.number (false ^^ false) mag (i - j - more - 1))) (sv (false ^^ false) v) ∧ v ≤ q * 2 ^ (p + 1 - e) := by
    obtain ⟨r, hr⟩ : ∃ r : Nat, (r : Int) + 1 = (p + 1 - e : Nat) - (i - j - more - 1 + 1074) := ⟨((p + 1 - e : Nat) - (i - j - more - 1 + 1074) - 1 : Int).toNat, by omega⟩
    have k1 := hle _ (scale_le hvm hvn (r := r) (by omega) hh)
    apply write_le _ _ _ _ _ hmag hs hq place0
    have e1 : p + 1 - e = r + 1 + (i - j - more - 1 + 1074).toNat := by omega
    rw [e1, Nat.pow_add, ← Nat.mul_assoc]
    apply Nat.mul_le_mul_right
    rw [Nat.pow_succ, ← Nat.mul_assoc, Nat.mul_comm]
    exact k1
  have ord (v : Nat) (hv : fin (double.write (.number (false ^^ false) mag (i - j - more - 1))) (sv (false ^^ false) v)) :
      FloatKind.f64.format.order (double.write (.number (false ^^ false) mag (i - j - more - 1))) 4607182418800017408 = some (compare (v : Int) (1 * ((2 ^ (p + 1) : Nat) : Int))) := fin_order hv h1
  have e22 : 2 ^ (p + 1) = 2 ^ (p + 1 - 22) * 4194304 := by
    have : p + 1 = (p + 1 - 22) + 22 := by omega
    conv => lhs; rw [this, Nat.pow_add]
  have hpos : 0 < 2 ^ (p + 1 - 22) := Nat.two_pow_pos _
  rcases Nat.lt_trichotomy w h with hwh | hwh | hwh
  · obtain ⟨v, hv, hvb⟩ := upper 4194303 22 (by decide) (by decide) (by omega)
    rw [ord v hv, cmp_lt (a := (w : Int)) (by omega), cmp_lt]
    rw [e22]
    generalize 2 ^ (p + 1 - 22) = u at *
    omega
  · subst hwh
    obtain ⟨v, hv, hvb⟩ := upper 1 0 (by decide) (by decide) (by omega)
    obtain ⟨v', hv', hvb'⟩ := lower 1 0 (by decide) (by decide) (by omega)
    have := fin_fun hv hv'
    have hvv : v = v' := sv_inj _ this
    subst hvv
    rw [ord v hv, cmp_eq]
    have : (v : Int) = 1 * ((2 ^ (p + 1) : Nat) : Int) := by
      rw [Nat.sub_zero] at hvb hvb'
      omega
    rw [this, cmp_eq]
  · obtain ⟨v, hv, hvb⟩ := lower 4194305 22 (by decide) (by decide) (by omega)
    rw [ord v hv, cmp_gt (a := (w : Int)) (by omega), cmp_gt]
    rw [e22]
    generalize 2 ^ (p + 1 - 22) = u at *
    omega
end Go.Dy
