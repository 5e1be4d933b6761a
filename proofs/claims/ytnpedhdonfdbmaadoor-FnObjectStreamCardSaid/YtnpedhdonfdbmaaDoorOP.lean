/- The law FnObjectStream answers true of whatever arguments. Conditions: the errors of package strconv are there. -/
import Derived.Test.YtnpedhdonfdbmaaDoorON
namespace Go.Proofs.YtnpedhdonfdbmaaDoor
open Go.ChangeShapes Go.WideShapes Go.ChangeAt Go.RowKit Go.Sort

set_option maxRecDepth 100000 in
set_option maxHeartbeats 1000000 in
theorem law_os (c : Int) (hd rs : ByteArray) (T3 T4 : TypeId) (p3 p4 : Value) (w : World) (h3 : w.cell? ⟨3, 0, none⟩ = some (.iface T3 p3)) (h4 : w.cell? ⟨4, 0, none⟩ = some (.iface T4 p4)) :
    Calls Tryd.prog 4 #[.int .i64 c, .string hd, .string rs] w fun e w' => e = .returned (.bool true) ∧ Below w.heap.size w w' := by
  by_cases h1 : 2147483647 < hd.size
  · have d1 : decide (2147483647 < (hd.size : Int)) = true := by simp; omega
    clear h1 h3 h4
    go_enter Tryd.func4, Tryd.ntmps4
    go_wp2
    go_ret
    exact ⟨rfl, Below.refl _ _⟩
  have d1 : decide (2147483647 < (hd.size : Int)) = false := by simp; omega
  by_cases h2 : 2147483647 < rs.size
  · have d2 : decide (2147483647 < (rs.size : Int)) = true := by simp; omega
    clear h1 h2 h3 h4
    go_enter Tryd.func4, Tryd.ntmps4
    go_wp2
    go_ret
    exact ⟨rfl, Below.refl _ _⟩
  have d2 : decide (2147483647 < (rs.size : Int)) = false := by simp; omega
  by_cases h5 : c < 1
  · have d3 : decide (c < 1) = true := by simp; omega
    clear h1 h2 h3 h4 h5
    go_enter Tryd.func4, Tryd.ntmps4
    go_wp2
    go_ret
    exact ⟨rfl, Below.refl _ _⟩
  have d3 : decide (c < 1) = false := by simp; omega
  by_cases h6 : 1000 < c
  · have d4 : decide (1000 < c) = true := by simp; omega
    clear h1 h2 h3 h4 h5 h6
    go_enter Tryd.func4, Tryd.ntmps4
    go_wp2
    go_ret
    exact ⟨rfl, Below.refl _ _⟩
  have d4 : decide (1000 < c) = false := by simp; omega
  by_cases h7 : 4096 < hd.size + rs.size
  · have d5 : decide (4096 < (hd.size : Int) + (rs.size : Int)) = true := by simp; omega
    have d6 : (hd.size : Int) + (rs.size : Int) ≤ 4294967294 := by omega
    clear h1 h2 h3 h4 h5 h6 h7
    go_enter Tryd.func4, Tryd.ntmps4
    go_wp2
    go_ret
    exact ⟨rfl, Below.refl _ _⟩
  clear d1 d2 d3 d4
  obtain ⟨n, rfl⟩ : ∃ n : Nat, c = n := ⟨c.toNat, by omega⟩
  exact os_core hd rs n (by omega) (by omega) (by omega) T3 T4 p3 p4 w h3 h4

end Go.Proofs.YtnpedhdonfdbmaaDoor
