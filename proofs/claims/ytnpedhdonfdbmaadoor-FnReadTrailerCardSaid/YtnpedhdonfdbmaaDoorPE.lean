/- What impl.tell of a reference, impl.refOf, impl.number and spec.Equal answer. Conditions: none but the cells. -/
import Derived.Test.YtnpedhdonfdbmaaDoorPD
namespace Go.Proofs.YtnpedhdonfdbmaaDoor
open Go.ChangeShapes Go.WideShapes Go.ChangeAt Go.RowKit Go.Sort

attribute [local go_sem] run_store_float

theorem as110n (v : Value) (w : World) : (Instr.typeAssert (.iface 109 v) 104 110 true).run Tryd.prog w = .ok (.tuple #[.bool false, .bool false]) w := by kernel_rfl
theorem as107n (v : Value) (w : World) : (Instr.typeAssert (.iface 109 v) 104 107 true).run Tryd.prog w = .ok (.tuple #[.int .i64 0, .bool false]) w := by kernel_rfl
theorem as111n (v : Value) (w : World) : (Instr.typeAssert (.iface 109 v) 104 111 true).run Tryd.prog w = .ok (.tuple #[.float .f64 0, .bool false]) w := by kernel_rfl
theorem as112n (v : Value) (w : World) : (Instr.typeAssert (.iface 109 v) 104 112 true).run Tryd.prog w = .ok (.tuple #[.string ⟨#[]⟩, .bool false]) w := by kernel_rfl
theorem as113n (v : Value) (w : World) : (Instr.typeAssert (.iface 109 v) 104 113 true).run Tryd.prog w = .ok (.tuple #[.string ⟨#[]⟩, .bool false]) w := by kernel_rfl
theorem as114n (v : Value) (w : World) : (Instr.typeAssert (.iface 109 v) 104 114 true).run Tryd.prog w = .ok (.tuple #[.string ⟨#[]⟩, .bool false]) w := by kernel_rfl

set_option maxHeartbeats 1000000 in
set_option maxRecDepth 100000 in
theorem tell_ref (n : Int) (w : World) : Calls Tryd.prog 25 #[.iface 109 (.agg #[.int .i64 n, .int .i64 0])] w fun e w' => e = .returned (.tuple #[.agg #[.int .i64 9, .int .i64 n, .int .i64 0, .float .f64 0, .string ⟨#[]⟩, .slice none 0 0, .slice none 0 0], .bool true]) ∧ (w.alloc (.cells #[.int .i64 9, .int .i64 n, .int .i64 0, .float .f64 0, .string ⟨#[]⟩, .slice none 0 0, .slice none 0 0] 36)).alloc (.cells #[.int .i64 n, .int .i64 0] 109) = w' := by
  have a1 := as110n
  have a2 := as107n
  have a3 := as111n
  have a4 := as112n
  have a5 := as113n
  have a6 := as114n
  have a7 := as109
  go_enter Tryd.func25, Tryd.ntmps25
  go_wp2_with (fail)
  exact bodyPost_ret (v := .tuple #[.agg #[.int .i64 9, .int .i64 n, .int .i64 0, .float .f64 0, .string ⟨#[]⟩, .slice none 0 0, .slice none 0 0], .bool true]) (by simp [results, Tryd.results25, go_sem]) rfl ⟨rfl, rfl⟩

/-- A reference as plain data, or nothing. -/
def rfO (n : Int) : Value := .agg #[.int .i64 (if n = 0 then 0 else 9), .int .i64 n, .int .i64 0, .float .f64 0, .string ⟨#[]⟩, .slice none 0 0, .slice none 0 0]

set_option maxHeartbeats 1000000 in
set_option maxRecDepth 100000 in
theorem refOf_none (w : World) : Calls Tryd.prog 23 #[.pointer none] w fun e w' => e = .returned (rfO 0) ∧ Below w.heap.size w w' := by
  show Calls Tryd.prog 23 #[.pointer none] w fun e w' => e = .returned (.agg #[.int .i64 0, .int .i64 0, .int .i64 0, .float .f64 0, .string ⟨#[]⟩, .slice none 0 0, .slice none 0 0]) ∧ Below w.heap.size w w'
  go_enter Tryd.func23, Tryd.ntmps23
  go_wp2_with (fail)
  exact bodyPost_ret (v := .agg #[.int .i64 0, .int .i64 0, .int .i64 0, .float .f64 0, .string ⟨#[]⟩, .slice none 0 0, .slice none 0 0]) (by simp [results, Tryd.results23, go_sem]) rfl ⟨rfl, below_al (Below.refl _ _) _⟩

set_option maxHeartbeats 1000000 in
set_option maxRecDepth 100000 in
theorem refOf_some (I : Nat) (n : Int) (hn : 0 < n) (w : World) (h0 : w.cell? ⟨I, 0, none⟩ = some (.int .i64 n)) (h1 : w.cell? ⟨I, 1, none⟩ = some (.int .i64 0)) :
    Calls Tryd.prog 23 #[.pointer (some ⟨I, 0, none⟩)] w fun e w' => e = .returned (rfO n) ∧ Below w.heap.size w w' := by
  have e : rfO n = .agg #[.int .i64 9, .int .i64 n, .int .i64 0, .float .f64 0, .string ⟨#[]⟩, .slice none 0 0, .slice none 0 0] := by
    unfold rfO; rw [if_neg (by omega)]
  rw [e]
  have ht := fun w => tell_ref n w
  have lI := block_lt_of_cell h0
  clear hn e
  go_enter Tryd.func23, Tryd.ntmps23
  go_wp2_with (go_at_call 25; refine Calls.mono (by with_reducible exact ht _) ?_; rintro e w1 ⟨rfl, rfl⟩)
  exact bodyPost_ret (v := .agg #[.int .i64 9, .int .i64 n, .int .i64 0, .float .f64 0, .string ⟨#[]⟩, .slice none 0 0, .slice none 0 0]) (by simp [results, Tryd.results23, go_sem]) rfl ⟨rfl, below_al (below_al (below_al (below_al (Below.refl _ _) _) _) _) _⟩

theorem number_some (S : Nat) (n : Int) (w : World) (h0 : w.cell? ⟨S, 0, none⟩ = some (.int .i64 n)) :
    Calls Tryd.prog 24 #[.pointer (some ⟨S, 0, none⟩)] w fun e w' => e = .returned (.tuple #[.int .i64 n, .bool true]) ∧ w' = w := by
  go_enter Tryd.func24, Tryd.ntmps24
  go_wp2_with (fail)
  go_ret2
  exact ⟨rfl, rfl⟩

theorem neq33 (w : World) : (binOp BinOp.neq 33 (.float .f64 0) (.float .f64 0)).run Tryd.prog w = .ok (.bool false) w := by kernel_rfl

set_option maxHeartbeats 1000000 in
set_option maxRecDepth 100000 in
theorem equal_same (k n : Int) (w : World) : Calls Tryd.prog 12 #[.agg #[.int .i64 k, .int .i64 n, .int .i64 0, .float .f64 0, .string ⟨#[]⟩, .slice none 0 0, .slice none 0 0], .agg #[.int .i64 k, .int .i64 n, .int .i64 0, .float .f64 0, .string ⟨#[]⟩, .slice none 0 0, .slice none 0 0]] w fun e w' => e = .returned (.bool true) ∧ Below w.heap.size w w' := by
  have h33 := neq33
  have z1 : (k != k) = false := by simp
  have z2 : (n != n) = false := by simp
  go_enter Tryd.func12, Tryd.ntmps12
  go_wp2_with (fail)
  go_loop [61] (fun v => v = .int .i64 0) (fun _ => 0)
  case atStart => rfl
  case round =>
    subst hrel
    go_wp2_with (fail)
    go_loop [79] (fun v => v = .int .i64 0) (fun _ => 0)
    case atStart => rfl
    case round =>
      subst hrel
      go_wp2_with (fail)
      go_ret
      exact ⟨rfl, below_al (below_al (Below.refl _ _) _) _⟩

end Go.Proofs.YtnpedhdonfdbmaaDoor
