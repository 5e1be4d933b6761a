/- The product of two affine matrices does what the first one does, and then what the second one does: the words are exact. Conditions: the entries and the point are halves of whole numbers of at most 2048. -/
import Derived.Test.YtolmmgemahohoaaMatE
import Derived.Test.YtolmmgemahohoaaLowerW
namespace Go.Proofs.Ytolmmgemahohoaa
open Go.ChangeShapes Go.WideShapes Go.ChangeAt Go.RowKit Go.Dy

theorem mul_le {a b : Int} {A B : Nat} (ha : a.natAbs ≤ A) (hb : b.natAbs ≤ B) : (a * b).natAbs ≤ A * B := by
  rw [Int.natAbs_mul]; exact Nat.mul_le_mul ha hb

theorem tf_of {m : Nat → Nat} {x y : Nat} {X Y A B C D E F : Int} {k l : Nat} (hx : Is x X k) (hy : Is y Y k) (h0 : Is (m 0) A l) (h3 : Is (m 3) C l) (h6 : Is (m 6) E (k + l)) (h1 : Is (m 1) B l) (h4 : Is (m 4) D l) (h7 : Is (m 7) F (k + l))
    (hk : k + l ≤ 1000) (bX : X.natAbs ≤ 67108864) (bY : Y.natAbs ≤ 67108864) (bA : A.natAbs ≤ 16777216) (bB : B.natAbs ≤ 16777216) (bC : C.natAbs ≤ 16777216) (bD : D.natAbs ≤ 16777216) (bE : E.natAbs ≤ 1125899906842624) (bF : F.natAbs ≤ 1125899906842624) :
    ∃ u1 u2 u3 p v1 v2 v3 q, TF m x y u1 u2 u3 p v1 v2 v3 q ∧ Is p (X * A + Y * C + E) (k + l) ∧ Is q (X * B + Y * D + F) (k + l) := by
  have b1 := mul_le bX bA
  have b2 := mul_le bY bC
  have b3 := mul_le bX bB
  have b4 := mul_le bY bD
  obtain ⟨u1, e1, i1⟩ := hx.mul h0 hk (by omega)
  obtain ⟨u2, e2, i2⟩ := hy.mul h3 hk (by omega)
  obtain ⟨u3, e3, i3⟩ := i1.add i2 (by omega)
  obtain ⟨p, e4, i4⟩ := i3.add h6 (by omega)
  obtain ⟨v1, e5, i5⟩ := hx.mul h1 hk (by omega)
  obtain ⟨v2, e6, i6⟩ := hy.mul h4 hk (by omega)
  obtain ⟨v3, e7, i7⟩ := i5.add i6 (by omega)
  obtain ⟨q, e8, i8⟩ := i7.add h7 (by omega)
  exact ⟨u1, u2, u3, p, v1, v2, v3, q, ⟨e1, e2, e3, e4, e5, e6, e7, e8⟩, i4, i8⟩

/-- The words of a product's sums, as the operations give them. -/
def prW (m n : Nat → Nat) (i j k : Nat) : Nat := (floatBits .mul .f64 (m (i * 3 + k)) (n (k * 3 + j))).getD 0
def sumW (m n : Nat → Nat) (i j : Nat) : Nat → Nat
  | 0 => 0
  | k + 1 => (floatBits .add .f64 (sumW m n i j k) (prW m n i j k)).getD 0
def sumI (A B : Nat → Int) (i j : Nat) : Nat → Int
  | 0 => 0
  | k + 1 => sumI A B i j k + A (i * 3 + k) * B (k * 3 + j)

theorem prW_is {m n : Nat → Nat} {A B : Nat → Int} (hA : ∀ c, c < 9 → Is (m c) (A c) 1 ∧ (A c).natAbs ≤ 2048) (hB : ∀ c, c < 9 → Is (n c) (B c) 1 ∧ (B c).natAbs ≤ 2048) (i j k : Nat) (hi : i < 3) (hj : j < 3) (hk : k < 3) :
    floatBits .mul .f64 (m (i * 3 + k)) (n (k * 3 + j)) = some (prW m n i j k) ∧ Is (prW m n i j k) (A (i * 3 + k) * B (k * 3 + j)) 2 := by
  obtain ⟨a1, a2⟩ := hA (i * 3 + k) (by omega)
  obtain ⟨b1, b2⟩ := hB (k * 3 + j) (by omega)
  obtain ⟨r, e, h⟩ := a1.mul b1 (by omega) (by have := mul_le a2 b2; omega)
  unfold prW
  rw [e]
  exact ⟨rfl, h⟩

theorem sumW_is {m n : Nat → Nat} {A B : Nat → Int} (hA : ∀ c, c < 9 → Is (m c) (A c) 1 ∧ (A c).natAbs ≤ 2048) (hB : ∀ c, c < 9 → Is (n c) (B c) 1 ∧ (B c).natAbs ≤ 2048) (i j : Nat) (hi : i < 3) (hj : j < 3) :
    ∀ k, k ≤ 3 → Is (sumW m n i j k) (sumI A B i j k) 2 ∧ (sumI A B i j k).natAbs ≤ 4194304 * k ∧ (∀ q, q < k → floatBits .add .f64 (sumW m n i j q) (prW m n i j q) = some (sumW m n i j (q + 1))) := by
  intro k
  induction k with
  | zero => exact fun _ => ⟨is_zero 2 (by omega), by simp [sumI], fun q hq => by omega⟩
  | succ k ih =>
    intro hk
    obtain ⟨h1, h2, h3⟩ := ih (by omega)
    obtain ⟨-, p2⟩ := prW_is hA hB i j k hi hj (by omega)
    have bp := mul_le (hA (i * 3 + k) (by omega)).2 (hB (k * 3 + j) (by omega)).2
    obtain ⟨r, e, h⟩ := h1.add p2 (by omega)
    have er : sumW m n i j (k + 1) = r := by show (floatBits .add .f64 (sumW m n i j k) (prW m n i j k)).getD 0 = r; rw [e]; rfl
    refine ⟨by rw [er]; exact h, by show (sumI A B i j k + A (i * 3 + k) * B (k * 3 + j)).natAbs ≤ _; omega, fun q hq => ?_⟩
    by_cases hqk : q = k
    · subst hqk; rw [er]; exact e
    · exact h3 q (by omega)

theorem sums_of {m n : Nat → Nat} {A B : Nat → Int} (hA : ∀ c, c < 9 → Is (m c) (A c) 1 ∧ (A c).natAbs ≤ 2048) (hB : ∀ c, c < 9 → Is (n c) (B c) 1 ∧ (B c).natAbs ≤ 2048) : Sums m n (sumW m n) (prW m n) :=
  ⟨fun _ _ => rfl, fun i j k hi hj hk => (prW_is hA hB i j k hi hj hk).1, fun i j k hi hj hk => (sumW_is hA hB i j hi hj 3 (by omega)).2.2 k hk⟩

def affI (a0 a1 a2 a3 a4 a5 : Int) (c : Nat) : Int := match c with | 0 => a0 | 1 => a1 | 3 => a2 | 4 => a3 | 6 => a4 | 7 => a5 | 8 => 2 | _ => 0

theorem aff_is {a0 a1 a2 a3 a4 a5 : Nat} {A0 A1 A2 A3 A4 A5 : Int} (h0 : Is a0 A0 1) (h1 : Is a1 A1 1) (h2 : Is a2 A2 1) (h3 : Is a3 A3 1) (h4 : Is a4 A4 1) (h5 : Is a5 A5 1)
    (b0 : A0.natAbs ≤ 2048) (b1 : A1.natAbs ≤ 2048) (b2 : A2.natAbs ≤ 2048) (b3 : A3.natAbs ≤ 2048) (b4 : A4.natAbs ≤ 2048) (b5 : A5.natAbs ≤ 2048) :
    ∀ c, c < 9 → Is (aff a0 a1 a2 a3 a4 a5 c) (affI A0 A1 A2 A3 A4 A5 c) 1 ∧ (affI A0 A1 A2 A3 A4 A5 c).natAbs ≤ 2048 := by
  intro c hc
  have z := is_zero 1 (by omega)
  have o := is_one.finer (by omega)
  match c, hc with
  | 0, _ => exact ⟨h0, b0⟩
  | 1, _ => exact ⟨h1, b1⟩
  | 2, _ => exact ⟨z, by show (0 : Int).natAbs ≤ 2048; decide⟩
  | 3, _ => exact ⟨h2, b2⟩
  | 4, _ => exact ⟨h3, b3⟩
  | 5, _ => exact ⟨z, by show (0 : Int).natAbs ≤ 2048; decide⟩
  | 6, _ => exact ⟨h4, b4⟩
  | 7, _ => exact ⟨h5, b5⟩
  | 8, _ => exact ⟨o, by show (2 : Int).natAbs ≤ 2048; decide⟩

/-- Six halves. -/
structure Six (a : Nat → Nat) (A : Nat → Int) : Prop where
  h : ∀ c, c < 6 → Is (a c) (A c) 1 ∧ (A c).natAbs ≤ 2048
abbrev affW (a : Nat → Nat) : Nat → Nat := aff (a 0) (a 1) (a 2) (a 3) (a 4) (a 5)
abbrev affZ (a : Nat → Int) : Nat → Int := affI (a 0) (a 1) (a 2) (a 3) (a 4) (a 5)
theorem Six.aff {a : Nat → Nat} {A : Nat → Int} (h : Six a A) : ∀ c, c < 9 → Is (affW a c) (affZ A c) 1 ∧ (affZ A c).natAbs ≤ 2048 :=
  aff_is (h.h 0 (by omega)).1 (h.h 1 (by omega)).1 (h.h 2 (by omega)).1 (h.h 3 (by omega)).1 (h.h 4 (by omega)).1 (h.h 5 (by omega)).1
    (h.h 0 (by omega)).2 (h.h 1 (by omega)).2 (h.h 2 (by omega)).2 (h.h 3 (by omega)).2 (h.h 4 (by omega)).2 (h.h 5 (by omega)).2

/-- What the law needs. -/
structure ML (a b : Nat → Nat) (x y p1 q1 p2 q2 r s : Nat) : Prop where
  t1 : ∃ u1 u2 u3 v1 v2 v3, TF (affW a) x y u1 u2 u3 p1 v1 v2 v3 q1
  t2 : ∃ u1 u2 u3 v1 v2 v3, TF (affW b) p1 q1 u1 u2 u3 p2 v1 v2 v3 q2
  su : Sums (affW a) (affW b) (sumW (affW a) (affW b)) (prW (affW a) (affW b))
  t3 : ∃ u1 u2 u3 v1 v2 v3, TF (fun c => sumW (affW a) (affW b) (c / 3) (c % 3) 3) x y u1 u2 u3 r v1 v2 v3 s
  ep : FloatKind.f64.format.order p2 r = some .eq
  eq : FloatKind.f64.format.order q2 s = some .eq

theorem is_twice {x : Nat} {n : Int} {k : Nat} (h : Is x n k) (hk : k + 2 ≤ 1000) : Is x (n * 4) (k + 2) := by
  have := (h.finer (by omega)).finer (by omega)
  rwa [Int.mul_assoc] at this

theorem first_of {a : Nat → Nat} {A : Nat → Int} {x y : Nat} {X Y : Int} (ha : Six a A) (hx : Is x X 1) (hy : Is y Y 1) (bX : X.natAbs ≤ 2048) (bY : Y.natAbs ≤ 2048) :
    ∃ u1 u2 u3 p v1 v2 v3 q, TF (affW a) x y u1 u2 u3 p v1 v2 v3 q ∧ Is p (X * A 0 + Y * A 2 + A 4 * 2) 2 ∧ Is q (X * A 1 + Y * A 3 + A 5 * 2) 2 ∧
      (X * A 0 + Y * A 2 + A 4 * 2).natAbs ≤ 16777216 ∧ (X * A 1 + Y * A 3 + A 5 * 2).natAbs ≤ 16777216 := by
  obtain ⟨i0, b0⟩ := ha.h 0 (by omega)
  obtain ⟨i1, b1⟩ := ha.h 1 (by omega)
  obtain ⟨i2, b2⟩ := ha.h 2 (by omega)
  obtain ⟨i3, b3⟩ := ha.h 3 (by omega)
  obtain ⟨i4, b4⟩ := ha.h 4 (by omega)
  obtain ⟨i5, b5⟩ := ha.h 5 (by omega)
  have m1 := mul_le bX b0
  have m2 := mul_le bY b2
  have m3 := mul_le bX b1
  have m4 := mul_le bY b3
  obtain ⟨u1, u2, u3, p1, v1, v2, v3, q1, T1, ip1, iq1⟩ := tf_of (m := affW a) hx hy i0 i2 (i4.finer (by omega)) i1 i3 (i5.finer (by omega))
    (by omega) (by omega) (by omega) (by omega) (by omega) (by omega) (by omega) (by omega) (by omega)
  exact ⟨u1, u2, u3, p1, v1, v2, v3, q1, T1, ip1, iq1, by omega, by omega⟩

theorem second_of {b : Nat → Nat} {B : Nat → Int} {x y : Nat} {X Y : Int} (hb : Six b B) (hx : Is x X 2) (hy : Is y Y 2) (bX : X.natAbs ≤ 16777216) (bY : Y.natAbs ≤ 16777216) :
    ∃ u1 u2 u3 p v1 v2 v3 q, TF (affW b) x y u1 u2 u3 p v1 v2 v3 q ∧ Is p (X * B 0 + Y * B 2 + B 4 * 4) 3 ∧ Is q (X * B 1 + Y * B 3 + B 5 * 4) 3 := by
  obtain ⟨i0, b0⟩ := hb.h 0 (by omega)
  obtain ⟨i1, b1⟩ := hb.h 1 (by omega)
  obtain ⟨i2, b2⟩ := hb.h 2 (by omega)
  obtain ⟨i3, b3⟩ := hb.h 3 (by omega)
  obtain ⟨i4, b4⟩ := hb.h 4 (by omega)
  obtain ⟨i5, b5⟩ := hb.h 5 (by omega)
  exact tf_of (m := affW b) (k := 2) (l := 1) hx hy i0 i2 (is_twice i4 (by omega)) i1 i3 (is_twice i5 (by omega))
    (by omega) (by omega) (by omega) (by omega) (by omega) (by omega) (by omega) (by omega) (by omega)

theorem third_of {a b : Nat → Nat} {A B : Nat → Int} {x y : Nat} {X Y : Int} (ha : Six a A) (hb : Six b B) (hx : Is x X 1) (hy : Is y Y 1) (bX : X.natAbs ≤ 2048) (bY : Y.natAbs ≤ 2048) :
    ∃ u1 u2 u3 p v1 v2 v3 q, TF (fun c => sumW (affW a) (affW b) (c / 3) (c % 3) 3) x y u1 u2 u3 p v1 v2 v3 q ∧
      Is p (X * sumI (affZ A) (affZ B) 0 0 3 + Y * sumI (affZ A) (affZ B) 1 0 3 + sumI (affZ A) (affZ B) 2 0 3 * 2) 3 ∧
      Is q (X * sumI (affZ A) (affZ B) 0 1 3 + Y * sumI (affZ A) (affZ B) 1 1 3 + sumI (affZ A) (affZ B) 2 1 3 * 2) 3 := by
  have sw (i j : Nat) (hi : i < 3) (hj : j < 3) : Is (sumW (affW a) (affW b) i j 3) (sumI (affZ A) (affZ B) i j 3) 2 ∧ (sumI (affZ A) (affZ B) i j 3).natAbs ≤ 12582912 :=
    ⟨(sumW_is ha.aff hb.aff i j hi hj 3 (by omega)).1, (sumW_is ha.aff hb.aff i j hi hj 3 (by omega)).2.1⟩
  obtain ⟨i0, b0⟩ := sw 0 0 (by omega) (by omega)
  obtain ⟨i1, b1⟩ := sw 0 1 (by omega) (by omega)
  obtain ⟨i2, b2⟩ := sw 1 0 (by omega) (by omega)
  obtain ⟨i3, b3⟩ := sw 1 1 (by omega) (by omega)
  obtain ⟨i4, b4⟩ := sw 2 0 (by omega) (by omega)
  obtain ⟨i5, b5⟩ := sw 2 1 (by omega) (by omega)
  clear sw
  generalize sumI (affZ A) (affZ B) 0 0 3 = s0 at *
  generalize sumI (affZ A) (affZ B) 0 1 3 = s1 at *
  generalize sumI (affZ A) (affZ B) 1 0 3 = s2 at *
  generalize sumI (affZ A) (affZ B) 1 1 3 = s3 at *
  generalize sumI (affZ A) (affZ B) 2 0 3 = s4 at *
  generalize sumI (affZ A) (affZ B) 2 1 3 = s5 at *
  exact tf_of (m := fun c => sumW (affW a) (affW b) (c / 3) (c % 3) 3) (k := 1) (l := 2) hx hy i0 i2 (i4.finer (by omega)) i1 i3 (i5.finer (by omega))
    (by omega) (by omega) (by omega) (by omega) (by omega) (by omega) (by omega) (by omega) (by omega)

theorem ints0 (A B : Nat → Int) (X Y : Int) : (X * A 0 + Y * A 2 + A 4 * 2) * B 0 + (X * A 1 + Y * A 3 + A 5 * 2) * B 2 + B 4 * 4 =
    X * sumI (affZ A) (affZ B) 0 0 3 + Y * sumI (affZ A) (affZ B) 1 0 3 + sumI (affZ A) (affZ B) 2 0 3 * 2 := by
  simp only [sumI, affZ, affI]
  generalize A 0 = a0; generalize A 1 = a1; generalize A 2 = a2; generalize A 3 = a3; generalize A 4 = a4; generalize A 5 = a5
  generalize B 0 = b0; generalize B 2 = b2; generalize B 4 = b4
  grind
theorem ints1 (A B : Nat → Int) (X Y : Int) : (X * A 0 + Y * A 2 + A 4 * 2) * B 1 + (X * A 1 + Y * A 3 + A 5 * 2) * B 3 + B 5 * 4 =
    X * sumI (affZ A) (affZ B) 0 1 3 + Y * sumI (affZ A) (affZ B) 1 1 3 + sumI (affZ A) (affZ B) 2 1 3 * 2 := by
  simp only [sumI, affZ, affI]
  generalize A 0 = a0; generalize A 1 = a1; generalize A 2 = a2; generalize A 3 = a3; generalize A 4 = a4; generalize A 5 = a5
  generalize B 1 = b1; generalize B 3 = b3; generalize B 5 = b5
  grind

theorem ml_of {a b : Nat → Nat} {A B : Nat → Int} {x y : Nat} {X Y : Int} (ha : Six a A) (hb : Six b B) (hx : Is x X 1) (hy : Is y Y 1) (bX : X.natAbs ≤ 2048) (bY : Y.natAbs ≤ 2048) :
    ∃ p1 q1 p2 q2 r s, ML a b x y p1 q1 p2 q2 r s := by
  obtain ⟨u1, u2, u3, p1, v1, v2, v3, q1, T1, ip1, iq1, bp, bq⟩ := first_of ha hx hy bX bY
  obtain ⟨u1', u2', u3', p2, v1', v2', v3', q2, T2, ip2, iq2⟩ := second_of hb ip1 iq1 bp bq
  obtain ⟨u1'', u2'', u3'', r, v1'', v2'', v3'', s, T3, ir, is⟩ := third_of ha hb hx hy bX bY
  exact ⟨p1, q1, p2, q2, r, s, ⟨_, _, _, _, _, _, T1⟩, ⟨_, _, _, _, _, _, T2⟩, sums_of ha.aff hb.aff, ⟨_, _, _, _, _, _, T3⟩, order_eq ip2 ir (ints0 A B X Y), order_eq iq2 is (ints1 A B X Y)⟩

/-- The unit: its product with itself. -/
def unitW : Nat → Nat := fun c => match c with | 0 => 4607182418800017408 | 3 => 4607182418800017408 | _ => 0
def unitZ : Nat → Int := fun c => match c with | 0 => 2 | 3 => 2 | _ => 0
theorem unit_six : Six unitW unitZ := ⟨fun c hc => by
  have z := is_zero 1 (by omega)
  have o := is_one.finer (by omega)
  match c, hc with
  | 0, _ => exact ⟨o, by decide⟩
  | 1, _ => exact ⟨z, by decide⟩
  | 2, _ => exact ⟨z, by decide⟩
  | 3, _ => exact ⟨o, by decide⟩
  | 4, _ => exact ⟨z, by decide⟩
  | 5, _ => exact ⟨z, by decide⟩⟩
theorem unit_same : ∀ c, c < 9 → FloatKind.f64.format.order (sumW (affW unitW) (affW unitW) (c / 3) (c % 3) 3) (affW unitW c) = some .eq := by
  intro c hc
  have h1 := (sumW_is unit_six.aff unit_six.aff (c / 3) (c % 3) (by omega) (by omega) 3 (by omega)).1
  have h2 := ((unit_six.aff c hc).1).finer (by omega)
  refine order_eq h1 h2 ?_
  clear h1 h2
  revert c
  decide +kernel
end Go.Proofs.Ytolmmgemahohoaa
