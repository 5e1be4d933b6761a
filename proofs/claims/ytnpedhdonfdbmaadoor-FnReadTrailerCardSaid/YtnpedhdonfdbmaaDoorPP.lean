/- The law FnReadTrailer answers true of whatever arguments. Conditions: none. -/
import Derived.Test.YtnpedhdonfdbmaaDoorPI
namespace Go.Proofs.YtnpedhdonfdbmaaDoor
open Go.ChangeShapes Go.WideShapes Go.ChangeAt Go.RowKit Go.Sort

set_option maxRecDepth 100000 in
set_option maxHeartbeats 1000000 in
theorem law_tr (sz rt nf : Int) (strict : Bool) (w : World) :
    Calls Tryd.prog 5 #[.int .i64 sz, .int .i64 rt, .int .i64 nf, .bool strict] w fun e w' => e = .returned (.bool true) ∧ Below w.heap.size w w' := by
  by_cases h1 : sz < 1
  · have d1 : decide (sz < 1) = true := by simp; omega
    clear h1
    go_enter Tryd.func5, Tryd.ntmps5
    go_wp2
    go_ret
    exact ⟨rfl, Below.refl _ _⟩
  have d1 : decide (sz < 1) = false := by simp; omega
  by_cases h2 : 1048576 < sz
  · have d2 : decide (1048576 < sz) = true := by simp; omega
    clear h1 h2
    go_enter Tryd.func5, Tryd.ntmps5
    go_wp2
    go_ret
    exact ⟨rfl, Below.refl _ _⟩
  have d2 : decide (1048576 < sz) = false := by simp; omega
  by_cases h3 : rt < 1
  · have d3 : decide (rt < 1) = true := by simp; omega
    clear h1 h2 h3
    go_enter Tryd.func5, Tryd.ntmps5
    go_wp2
    go_ret
    exact ⟨rfl, Below.refl _ _⟩
  have d3 : decide (rt < 1) = false := by simp; omega
  by_cases h4 : 1048576 < rt
  · have d4 : decide (1048576 < rt) = true := by simp; omega
    clear h1 h2 h3 h4
    go_enter Tryd.func5, Tryd.ntmps5
    go_wp2
    go_ret
    exact ⟨rfl, Below.refl _ _⟩
  have d4 : decide (1048576 < rt) = false := by simp; omega
  by_cases h5 : nf < 0
  · have d5 : decide (nf < 0) = true := by simp; omega
    clear h1 h2 h3 h4 h5
    go_enter Tryd.func5, Tryd.ntmps5
    go_wp2
    go_ret
    exact ⟨rfl, Below.refl _ _⟩
  have d5 : decide (nf < 0) = false := by simp; omega
  by_cases h6 : 1048576 < nf
  · have d6 : decide (1048576 < nf) = true := by simp; omega
    clear h1 h2 h3 h4 h5 h6
    go_enter Tryd.func5, Tryd.ntmps5
    go_wp2
    go_ret
    exact ⟨rfl, Below.refl _ _⟩
  exact law_core sz rt nf strict (by omega) (by omega) (by omega) (by omega) (by omega) (by omega) w

end Go.Proofs.YtnpedhdonfdbmaaDoor
