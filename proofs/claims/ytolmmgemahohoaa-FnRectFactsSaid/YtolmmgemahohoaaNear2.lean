/- The function laws.near lets no negative nought by. Conditions: at most eight floats. -/
import Derived.Test.YtolmmgemahohoaaPlain
import Derived.Test.YtolmmgemahohoaaAsp
namespace Go.Proofs.Ytolmmgemahohoaa
open Go.ChangeShapes Go.WideShapes Go.ChangeAt Go.RowKit Go.Dy

def Half2 (x : Nat) : Prop := Half x ∧ NZ x
def NearPost2 (xs : List Nat) (e : Ending) : Prop := ∃ r : Bool, e = .returned (.bool r) ∧ (r = true → ∀ x ∈ xs, Half2 x)

theorem nought2 (x : Nat) : ((FloatKind.f64.format.order x 0 == some .eq) = false ∧ NZ x) ∨
    ((FloatKind.f64.format.order x 0 == some .eq) = true ∧ ∃ r, Quo x r ∧ ((FloatKind.f64.format.order r 0 == some .lt) = true ∨ ((FloatKind.f64.format.order r 0 == some .lt) = false ∧ NZ x))) := by
  by_cases b : FloatKind.f64.format.order x 0 = some .eq
  · obtain ⟨r, hr⟩ := quo_zero b
    refine .inr ⟨by rw [b]; rfl, r, fun w => run_float_arith w _ _ _ _ _ _ hr, ?_⟩
    cases hlt : (FloatKind.f64.format.order r 0 == some .lt)
    · refine .inr ⟨rfl, fun e he => ?_⟩
      have h1 : Ieee.double.div 4607182418800017408 x = some r := hr
      unfold Ieee.Format.div at h1
      rw [one_read, he] at h1
      simp only [Ieee.Datum.quotient] at h1
      rw [if_pos trivial, if_neg (by decide)] at h1
      have h2 : Ieee.double.write (.infinity (false ^^ true)) = r := by simpa using h1
      have h3 : Ieee.double.write (.infinity (false ^^ true)) = 18442240474082181120 := by decide
      rw [h3] at h2
      subst h2
      revert hlt
      decide
    · exact .inl rfl
  · refine .inl ⟨by simpa using b, fun e he => b ?_⟩
    show Ieee.double.order x 0 = some .eq
    unfold Ieee.Format.order
    rw [he, zero_read]
    simp only [Ieee.Datum.order]
    rw [signed_sv, signed_sv]
    simp [sv]

set_option maxHeartbeats 400000 in
theorem near2_any (b off n cap : Nat) (xs : List Nat) (w : World) (hn : n = xs.length) (hlen : xs.length ≤ 8)
    (hc : ∀ i, i < n → w.cell? ⟨b, off + i, none⟩ = some (.float .f64 (xs.getD i 0))) :
    Calls Try.prog 15 #[.slice (some ⟨b, off, none⟩) n cap] w fun e w' => NearPost2 xs e ∧ w = w' := by
  go_enter Try.func15, Try.ntmps15
  go_wp2
  go_loop [7] (fun i => ∃ k : Nat, k ≤ xs.length ∧ i = .int .i64 k ∧ ∀ x ∈ xs.take k, Half2 x) (fun i => xs.length - (intOf i).toNat)
  case atStart => exact ⟨0, Nat.zero_le _, rfl, by simp⟩
  case round =>
    obtain ⟨k, hk, rfl, hseen⟩ := hrel
    by_cases hlt : k < xs.length
    · have hcell := hc k (by omega)
      have HS : Hid (∀ x, x = xs.getD k 0 → Half2 x → ∀ y ∈ xs.take (k + 1), Half2 y) := by
        intro x hx hh y hy
        rw [List.take_succ_eq_append_getElem hlt, List.mem_append] at hy
        rcases hy with hy | hy
        · exact hseen y hy
        · rw [List.mem_singleton] at hy
          rw [hy, show xs[k] = x by rw [hx]; simp [hlt]]
          exact hh
      clear hseen hc
      have HX : Hid (∃ x, xs.getD k 0 = x) := ⟨_, rfl⟩
      obtain ⟨x, hx⟩ := HX.out
      rw [hx] at hcell
      have HX2 := Lib.hid hx
      clear hx HX
      by_cases a1 : FloatKind.f64.format.order x x = some .eq
      · have t1 : (FloatKind.f64.format.order x x != some .eq) = false := by rw [a1]; rfl
        have T := tail x a1
        clear a1
        rcases nought2 x with ⟨t2, nz⟩ | ⟨t2, r0, q0, t3 | ⟨t3, nz⟩⟩
        rotate_left
        · unfold Quo at q0
          clear T
          go_wp2
          go_ret
          exact ⟨⟨false, rfl, fun h => by cases h⟩, rfl⟩
        all_goals
          try unfold Quo at q0
          rcases T with t4 | ⟨t4, t5⟩ | ⟨t4, t5, r, n, q1, q2, t6 | ⟨t6, hh⟩⟩
          · go_wp2
            go_ret
            exact ⟨⟨false, rfl, fun h => by cases h⟩, rfl⟩
          · go_wp2
            go_ret
            exact ⟨⟨false, rfl, fun h => by cases h⟩, rfl⟩
          · unfold Mul at q1
            unfold Cut at q2
            go_wp2
            go_ret
            exact ⟨⟨false, rfl, fun h => by cases h⟩, rfl⟩
          · unfold Mul at q1
            unfold Cut at q2
            have HH := Lib.hid (show Half2 x from ⟨hh, nz⟩)
            clear hh nz
            go_wp2
            go_round
            case rel => exact ⟨k + 1, by omega, by go_num, HS.out x HX2.out.symm HH.out⟩
            case measure => simp [intOf]; omega
      · have t1 : (FloatKind.f64.format.order x x != some .eq) = true := by simpa using a1
        clear a1
        go_wp2
        go_ret
        exact ⟨⟨false, rfl, fun h => by cases h⟩, rfl⟩
    · have hall : xs.take k = xs := List.take_of_length_le (by omega)
      rw [hall] at hseen
      have HS := Lib.hid hseen
      clear hseen
      go_wp2
      go_ret
      exact ⟨⟨true, rfl, fun _ => HS.out⟩, rfl⟩
end Go.Proofs.Ytolmmgemahohoaa
