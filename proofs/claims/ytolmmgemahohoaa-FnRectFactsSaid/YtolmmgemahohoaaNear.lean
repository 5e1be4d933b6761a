/- The function laws.near returns a bool, and where it is true every float handed to it is half a whole number of at most 2^20. Conditions: at most eight floats. -/
import Derived.Test.YtolmmgemahohoaaRows
import Derived.Test.YtolmmgemahohoaaHalf
import Derived.WalkKit
import Derived.WalkLawsBesides
import Derived.WalkSpells
import Derived.ProofKit
import Derived.Below
import Derived.Lib.Hide
import Derived.Outline
import Derived.BigQuiet
import Derived.Deep.QuietTactic
namespace Go.Proofs.Ytolmmgemahohoaa
open Go.ChangeShapes Go.WideShapes Go.ChangeAt Go.RowKit Go.Dy

/-- Half a whole number, not great. -/
def Half (x : Nat) : Prop := ∃ n : Int, Is x n 1 ∧ n.natAbs ≤ 2097152

def NearPost (xs : List Nat) (e : Ending) : Prop := ∃ r : Bool, e = .returned (.bool r) ∧ (r = true → ∀ x ∈ xs, Half x)

/-- The runs that a test at nought asks for. -/
def Quo (x r : Nat) : Prop := ∀ w, (binOp .quo 26 (.float .f64 4607182418800017408) (.float .f64 x)).run Try.prog w = .ok (.float .f64 r) w
def Mul (x r : Nat) : Prop := ∀ w, (binOp .mul 26 (.float .f64 4611686018427387904) (.float .f64 x)).run Try.prog w = .ok (.float .f64 r) w
def Cut (r : Nat) (n : Int) : Prop := ∀ w, (convert 26 3 (.float .f64 r)).run Try.prog w = .ok (.int .i64 n) w

theorem tail (x : Nat) (a1 : FloatKind.f64.format.order x x = some .eq) :
    (FloatKind.f64.format.order x 13920626448202203136 == some .lt) = true ∨
    ((FloatKind.f64.format.order x 13920626448202203136 == some .lt) = false ∧ (FloatKind.f64.format.order x 4697254411347427328 == some .gt) = true) ∨
    ((FloatKind.f64.format.order x 13920626448202203136 == some .lt) = false ∧ (FloatKind.f64.format.order x 4697254411347427328 == some .gt) = false ∧
      ∃ r n, Mul x r ∧ Cut r n ∧ ((FloatKind.f64.format.order (floatOfInt .f64 n) r != some .eq) = true ∨ ((FloatKind.f64.format.order (floatOfInt .f64 n) r != some .eq) = false ∧ Half x))) := by
  by_cases b2 : FloatKind.f64.format.order x 13920626448202203136 = some .lt
  · exact .inl (by rw [b2]; rfl)
  · by_cases b3 : FloatKind.f64.format.order x 4697254411347427328 = some .gt
    · exact .inr (.inl ⟨by simpa using b2, by rw [b3]; rfl⟩)
    · refine .inr (.inr ⟨by simpa using b2, by simpa using b3, ?_⟩)
      obtain ⟨p, hp⟩ : ∃ p, p = 1074 := ⟨_, rfl⟩
      obtain ⟨z, hz, hzb⟩ := bound_read a1 b2 b3
      have hzp := hzb p hp
      obtain ⟨r, hr, hrz⟩ := fin_double hz p hp hzp
      obtain ⟨n, hn1, hn2⟩ := fin_toInt hrz p hp (by rw [Int.natAbs_mul]; show z.natAbs * 2 ≤ _; omega)
      refine ⟨r, n, fun w => run_float_arith w _ _ _ _ _ _ hr, fun w => run_convert_float_int w _ _ _ _ _ _ (by kernel_rfl) (by kernel_rfl) hn1, ?_⟩
      by_cases he : FloatKind.f64.format.order (floatOfInt .f64 n) r = some .eq
      · exact .inr ⟨by rw [he]; rfl, n, near_is hz p hp hzp hrz hn2 he⟩
      · exact .inl (by simpa using he)

theorem nought (x : Nat) : (FloatKind.f64.format.order x 0 == some .eq) = false ∨
    ((FloatKind.f64.format.order x 0 == some .eq) = true ∧ ∃ r, Quo x r ∧ ((FloatKind.f64.format.order r 0 == some .lt) = true ∨ (FloatKind.f64.format.order r 0 == some .lt) = false)) := by
  by_cases b : FloatKind.f64.format.order x 0 = some .eq
  · obtain ⟨r, hr⟩ := quo_zero b
    refine .inr ⟨by rw [b]; rfl, r, fun w => run_float_arith w _ _ _ _ _ _ hr, ?_⟩
    cases (FloatKind.f64.format.order r 0 == some .lt)
    · exact .inr rfl
    · exact .inl rfl
  · exact .inl (by simpa using b)

set_option maxHeartbeats 400000 in
theorem near_any (b off n cap : Nat) (xs : List Nat) (w : World) (hn : n = xs.length) (hlen : xs.length ≤ 8)
    (hc : ∀ i, i < n → w.cell? ⟨b, off + i, none⟩ = some (.float .f64 (xs.getD i 0))) :
    Calls Try.prog 15 #[.slice (some ⟨b, off, none⟩) n cap] w fun e w' => NearPost xs e ∧ w = w' := by
  go_enter Try.func15, Try.ntmps15
  go_wp2
  go_loop [7] (fun i => ∃ k : Nat, k ≤ xs.length ∧ i = .int .i64 k ∧ ∀ x ∈ xs.take k, Half x) (fun i => xs.length - (intOf i).toNat)
  case atStart => exact ⟨0, Nat.zero_le _, rfl, by simp⟩
  case round =>
    obtain ⟨k, hk, rfl, hseen⟩ := hrel
    by_cases hlt : k < xs.length
    · have hcell := hc k (by omega)
      have HS : Hid (∀ x, x = xs.getD k 0 → Half x → ∀ y ∈ xs.take (k + 1), Half y) := by
        intro x hx hh y hy
        rw [List.take_succ_eq_append_getElem hlt, List.mem_append] at hy
        rcases hy with hy | hy
        · exact hseen y hy
        · rw [List.mem_singleton] at hy
          rw [hy, show xs[k] = x by rw [hx]; simp [hlt]]
          exact hh
      clear hseen hc
      have HX : Hid (∃ x, xs.getD k 0 = x) := ⟨_, rfl⟩
      obtain ⟨x, hx⟩ := HX.out
      rw [hx] at hcell
      have HX2 := Lib.hid hx
      clear hx HX
      by_cases a1 : FloatKind.f64.format.order x x = some .eq
      · have t1 : (FloatKind.f64.format.order x x != some .eq) = false := by rw [a1]; rfl
        have T := tail x a1
        clear a1
        rcases nought x with t2 | ⟨t2, r0, q0, t3 | t3⟩
        rotate_left
        · unfold Quo at q0
          clear T
          go_wp2
          go_ret
          exact ⟨⟨false, rfl, fun h => by cases h⟩, rfl⟩
        all_goals
          try unfold Quo at q0
          rcases T with t4 | ⟨t4, t5⟩ | ⟨t4, t5, r, n, q1, q2, t6 | ⟨t6, hh⟩⟩
          · go_wp2
            go_ret
            exact ⟨⟨false, rfl, fun h => by cases h⟩, rfl⟩
          · go_wp2
            go_ret
            exact ⟨⟨false, rfl, fun h => by cases h⟩, rfl⟩
          · unfold Mul at q1
            unfold Cut at q2
            go_wp2
            go_ret
            exact ⟨⟨false, rfl, fun h => by cases h⟩, rfl⟩
          · unfold Mul at q1
            unfold Cut at q2
            have HH := Lib.hid hh
            clear hh
            go_wp2
            go_round
            case rel => exact ⟨k + 1, by omega, by go_num, HS.out x HX2.out.symm HH.out⟩
            case measure => simp [intOf]; omega
      · have t1 : (FloatKind.f64.format.order x x != some .eq) = true := by simpa using a1
        clear a1
        go_wp2
        go_ret
        exact ⟨⟨false, rfl, fun h => by cases h⟩, rfl⟩
    · have hall : xs.take k = xs := List.take_of_length_le (by omega)
      rw [hall] at hseen
      have HS := Lib.hid hseen
      clear hseen
      go_wp2
      go_ret
      exact ⟨⟨true, rfl, fun _ => HS.out⟩, rfl⟩
end Go.Proofs.Ytolmmgemahohoaa
