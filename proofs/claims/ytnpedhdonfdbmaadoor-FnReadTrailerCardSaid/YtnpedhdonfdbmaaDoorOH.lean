/- What spec's White, Delimiter, Regular and plain answer. Conditions: none. -/
import Derived.Test.YtnpedhdonfdbmaaDoorOG
namespace Go.Proofs.YtnpedhdonfdbmaaDoor
open Go.ChangeShapes Go.WideShapes Go.ChangeAt Go.RowKit Go.Sort

def whB (c : Int) : Bool := c == 0 || c == 9 || c == 10 || c == 12 || c == 13 || c == 32
def dlB (c : Int) : Bool := c == 40 || c == 41 || c == 60 || c == 62 || c == 91 || c == 93 || c == 123 || c == 125 || c == 47 || c == 37
def plB (c : Int) : Bool := decide (32 ≤ c) && decide (c ≤ 126)
def rgB (c : Int) : Bool := !whB c && !dlB c
theorem ret_bool {a b : Bool} (h : a = b) : Ending.returned (.bool a) = .returned (.bool b) := by rw [h]

theorem white_any (n : Int) (w : World) : Calls Tryd.prog 28 #[.int .u8 n] w fun e w' => e = .returned (.bool (whB n)) ∧ w' = w := by
  go_enter Tryd.func28, Tryd.ntmps28
  go_wp2
  all_goals
    go_ret
    exact ⟨ret_bool (by simp [whB, *]), rfl⟩
theorem delim_any (n : Int) (w : World) : Calls Tryd.prog 50 #[.int .u8 n] w fun e w' => e = .returned (.bool (dlB n)) ∧ w' = w := by
  go_enter Tryd.func50, Tryd.ntmps50
  go_wp2
  all_goals
    go_ret
    exact ⟨ret_bool (by simp [dlB, *]), rfl⟩
theorem plain_any (n : Int) (w : World) : Calls Tryd.prog 29 #[.int .u8 n] w fun e w' => e = .returned (.bool (plB n)) ∧ w' = w := by
  by_cases h : 32 ≤ n
  · have d : decide (32 ≤ n) = true := by simpa using h
    have hp : plB n = decide (n ≤ 126) := by simp [plB, d]
    rw [hp]
    clear hp h
    go_enter Tryd.func29, Tryd.ntmps29
    go_wp2
    go_ret
    exact ⟨rfl, rfl⟩
  · have d : decide (32 ≤ n) = false := by simpa using h
    have hp : plB n = false := by simp [plB, d]
    rw [hp]
    clear hp h
    go_enter Tryd.func29, Tryd.ntmps29
    go_wp2
    go_ret
    exact ⟨rfl, rfl⟩
theorem regular_any (n : Int) (w : World) : Calls Tryd.prog 32 #[.int .u8 n] w fun e w' => e = .returned (.bool (rgB n)) ∧ w' = w := by
  have h1 := fun w => white_any n w
  have h2 := fun w => delim_any n w
  unfold rgB
  generalize whB n = a at *
  generalize dlB n = b at *
  cases a
  · go_enter Tryd.func32, Tryd.ntmps32
    go_wp2_with (first
      | (go_at_call 28; refine Calls.mono (by with_reducible exact h1 _) ?_; rintro e w1 ⟨rfl, rfl⟩)
      | (go_at_call 50; refine Calls.mono (by with_reducible exact h2 _) ?_; rintro e w1 ⟨rfl, rfl⟩))
    go_ret
    exact ⟨ret_bool (by simp), rfl⟩
  · go_enter Tryd.func32, Tryd.ntmps32
    go_wp2_with (go_at_call 28; refine Calls.mono (by with_reducible exact h1 _) ?_; rintro e w1 ⟨rfl, rfl⟩)
    go_ret
    exact ⟨ret_bool (by simp), rfl⟩

end Go.Proofs.YtnpedhdonfdbmaaDoor
