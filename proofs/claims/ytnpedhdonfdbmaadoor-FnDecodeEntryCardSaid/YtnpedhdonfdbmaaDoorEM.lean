/- The law FnDecodeEntry answers true. Conditions: the table of powers of ten reads as it is laid. -/
import Derived.Test.YtnpedhdonfdbmaaDoorEL
import Derived.Test.YtnpedhdonfdbmaaDoorEYn
import Derived.Test.YtnpedhdonfdbmaaDoorEYf
namespace Go.Proofs.YtnpedhdonfdbmaaDoor
open Go.ChangeShapes Go.WideShapes Go.ChangeAt Go.RowKit Go.Sort

set_option maxRecDepth 100000 in
set_option maxHeartbeats 1000000 in
theorem law_entry (o n : Int) (fr : Bool) (w : World) (htab : Lib.TabIs Tryd.prog w "internal/strconv.uint64pow10" .u64 Lib.pow10Tab) :
    Calls Tryd.prog 3 #[.int .i64 o, .int .i64 n, .bool fr] w fun e w' => e = .returned (.bool true) ∧ Below w.heap.size w w' := by
  by_cases ho : o < 0
  · have g1 : decide (o < 0) = true := by simp; omega
    clear htab ho
    go_enter Tryd.func3, Tryd.ntmps3
    go_wp2
    go_ret
    exact ⟨rfl, Below.refl _ _⟩
  have g1 : decide (o < 0) = false := by simp; omega
  by_cases ho2 : 9999999999 < o
  · have g2 : decide (9999999999 < o) = true := by simp; omega
    clear htab ho ho2
    go_enter Tryd.func3, Tryd.ntmps3
    go_wp2
    go_ret
    exact ⟨rfl, Below.refl _ _⟩
  have g2 : decide (9999999999 < o) = false := by simp; omega
  by_cases hn : n < 0
  · have g3 : decide (n < 0) = true := by simp; omega
    clear htab ho ho2 hn
    go_enter Tryd.func3, Tryd.ntmps3
    go_wp2
    go_ret
    exact ⟨rfl, Below.refl _ _⟩
  have g3 : decide (n < 0) = false := by simp; omega
  by_cases hn2 : 65535 < n
  · have g4 : decide (65535 < n) = true := by simp; omega
    clear htab ho ho2 hn hn2
    go_enter Tryd.func3, Tryd.ntmps3
    go_wp2
    go_ret
    exact ⟨rfl, Below.refl _ _⟩
  clear g1 g2 g3
  obtain ⟨o', rfl⟩ : ∃ o' : Nat, o = o' := ⟨o.toNat, by omega⟩
  obtain ⟨n', rfl⟩ : ∃ n' : Nat, n = n' := ⟨n.toNat, by omega⟩
  cases fr
  · exact law_core o' n' false ⟨#[110]⟩ (.inr ⟨rfl, rfl⟩) w (by omega) (by omega) (entryText_n o' n' w (by omega) (by omega) htab)
  · exact law_core o' n' true ⟨#[102]⟩ (.inl ⟨rfl, rfl⟩) w (by omega) (by omega) (entryText_f o' n' w (by omega) (by omega) htab)

end Go.Proofs.YtnpedhdonfdbmaaDoor
