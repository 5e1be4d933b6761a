/- The function laws.plain lets no negative nought by. Conditions: none. -/
import Derived.Test.YtolmmgemahohoaaNear2
namespace Go.Proofs.Ytolmmgemahohoaa
open Go.ChangeShapes Go.WideShapes Go.ChangeAt Go.RowKit Go.Dy

def IsRect2 (a b c d : Nat) (n1 n2 n3 n4 : Int) : Prop := IsRect a b c d n1 n2 n3 n4 ∧ NZ a ∧ NZ b ∧ NZ c ∧ NZ d
def PlainPost2 (a b c d : Nat) (e : Ending) : Prop := ∃ r : Bool, e = .returned (.bool r) ∧ (r = true → ∃ n1 n2 n3 n4, IsRect2 a b c d n1 n2 n3 n4)

set_option maxHeartbeats 400000 in
theorem plain2_any (a b c d : Nat) (w : World) :
    Calls Try.prog 13 #[.agg #[.float .f64 a, .float .f64 b, .float .f64 c, .float .f64 d]] w fun e w' => PlainPost2 a b c d e ∧ Below w.heap.size w w' := by
  go_enter Try.func13, Try.ntmps13
  go_wp2_with fail
  refine (near2_any (w.heap.size + 1) 0 4 4 [a, b, c, d] _ rfl (by simp) ?_).mono ?_
  · intro i hi
    match i, hi with
    | 0, _ => go_simp
    | 1, _ => go_simp
    | 2, _ => go_simp
    | 3, _ => go_simp
  rintro e w' ⟨⟨r, rfl, hr⟩, rfl⟩
  cases r with
  | false =>
    clear hr
    go_wp2
    go_ret
    exact ⟨⟨false, rfl, fun h => by cases h⟩, ((Below.refl _ _).alloc (Nat.le_refl _) _).alloc (by simp) _⟩
  | true =>
    obtain ⟨⟨n1, h1, g1⟩, z1⟩ := hr rfl a (by simp)
    obtain ⟨⟨n2, h2, g2⟩, z2⟩ := hr rfl b (by simp)
    obtain ⟨⟨n3, h3, g3⟩, z3⟩ := hr rfl c (by simp)
    obtain ⟨⟨n4, h4, g4⟩, z4⟩ := hr rfl d (by simp)
    clear hr
    have e1 := Is.leB h1 h3
    have e2 := Is.leB h2 h4
    by_cases c1 : n1 ≤ n3
    · by_cases c2 : n2 ≤ n4
      · rw [decide_eq_true c1] at e1
        rw [decide_eq_true c2] at e2
        have HR : Hid (IsRect2 a b c d n1 n2 n3 n4) := ⟨⟨h1, h2, h3, h4, g1, g2, g3, g4, c1, c2⟩, z1, z2, z3, z4⟩
        clear z1 z2 z3 z4 h1 h2 h3 h4 g1 g2 g3 g4 c1 c2
        go_wp2
        go_ret
        exact ⟨⟨true, rfl, fun _ => ⟨_, _, _, _, HR.out⟩⟩, ((Below.refl _ _).alloc (Nat.le_refl _) _).alloc (by simp) _⟩
      · rw [decide_eq_true c1] at e1
        rw [decide_eq_false c2] at e2
        clear z1 z2 z3 z4 h1 h2 h3 h4 g1 g2 g3 g4 c1 c2
        go_wp2
        go_ret
        exact ⟨⟨false, rfl, fun h => by cases h⟩, ((Below.refl _ _).alloc (Nat.le_refl _) _).alloc (by simp) _⟩
    · rw [decide_eq_false c1] at e1
      clear z1 z2 z3 z4 h1 h2 h3 h4 g1 g2 g3 g4 c1 e2
      go_wp2
      go_ret
      exact ⟨⟨false, rfl, fun h => by cases h⟩, ((Below.refl _ _).alloc (Nat.le_refl _) _).alloc (by simp) _⟩
end Go.Proofs.Ytolmmgemahohoaa
