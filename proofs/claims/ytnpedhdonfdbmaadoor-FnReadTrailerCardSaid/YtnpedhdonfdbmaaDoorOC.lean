/- What the package's look-ups in a dictionary, and its limits, answer. Conditions: the key is there. -/
import Derived.Test.YtnpedhdonfdbmaaDoorOA
import Derived.Deep.RegionHeld3
namespace Go.Proofs.YtnpedhdonfdbmaaDoor
open Go.ChangeShapes Go.WideShapes Go.ChangeAt Go.RowKit Go.Sort

theorem as107 (v : Value) (w : World) : (Instr.typeAssert (.iface 107 v) 104 107 true).run Tryd.prog w = .ok (.tuple #[v, .bool true]) w := by kernel_rfl
theorem as109 (v : Value) (w : World) : (Instr.typeAssert (.iface 109 v) 104 109 true).run Tryd.prog w = .ok (.tuple #[v, .bool true]) w := by kernel_rfl

theorem find_hit (w : World) (B : Nat) (es : Array MapEntry) (c i : Nat) (k : ByteArray) (v : Value) (hb : w.heap[B]? = some (.map es c)) (hf : Instr.findNow .string (.string k) es.toList 0 = some (some (i, v))) :
    Calls Tryd.prog 67 #[.map (some B), .string k] w fun e w' => e = .returned (.tuple #[v, .bool true]) ∧ w = w' := by
  have hl := run_look w B es c i k v hb hf
  clear hb hf
  go_enter Tryd.func67, Tryd.ntmps67
  go_wp2
  go_ret2
  exact ⟨rfl, rfl⟩

set_option maxRecDepth 100000 in
theorem int_entry (w : World) (B : Nat) (es : Array MapEntry) (c i : Nat) (k : ByteArray) (n : Int) (hb : w.heap[B]? = some (.map es c)) (hf : Instr.findNow .string (.string k) es.toList 0 = some (some (i, .iface 107 (.int .i64 n)))) :
    Calls Tryd.prog 66 #[.map (some B), .string k] w fun e w' => e = .returned (.pointer (some ⟨w.heap.size, 0, none⟩)) ∧ w.alloc (.cells #[.int .i64 n] 3) = w' := by
  have hl := find_hit w B es c i k _ hb hf
  have ht := as107
  clear hb hf
  go_enter Tryd.func66, Tryd.ntmps66
  go_wp2_with (go_at_call 67; refine Calls.mono (by with_reducible exact hl) ?_; rintro e w1 ⟨rfl, rfl⟩)
  go_ret
  exact ⟨rfl, rfl⟩

theorem first_any (w : World) (B : Nat) (es : Array MapEntry) (c i : Nat) (n : Int) (hb : w.heap[B]? = some (.map es c)) (hf : Instr.findNow .string (.string ⟨#[70, 105, 114, 115, 116]⟩) es.toList 0 = some (some (i, .iface 107 (.int .i64 n)))) :
    Calls Tryd.prog 51 #[.map (some B)] w fun e w' => e = .returned (.pointer (some ⟨w.heap.size, 0, none⟩)) ∧ w.alloc (.cells #[.int .i64 n] 3) = w' := by
  have hl := int_entry w B es c i _ n hb hf
  clear hb hf
  go_enter Tryd.func51, Tryd.ntmps51
  go_wp2_with (go_at_call 66; refine Calls.mono (by with_reducible exact hl) ?_; rintro e w1 ⟨rfl, rfl⟩)
  go_ret
  exact ⟨rfl, rfl⟩

theorem n_any (w : World) (B : Nat) (es : Array MapEntry) (c i : Nat) (n : Int) (hb : w.heap[B]? = some (.map es c)) (hf : Instr.findNow .string (.string ⟨#[78]⟩) es.toList 0 = some (some (i, .iface 107 (.int .i64 n)))) :
    Calls Tryd.prog 52 #[.map (some B)] w fun e w' => e = .returned (.pointer (some ⟨w.heap.size, 0, none⟩)) ∧ w.alloc (.cells #[.int .i64 n] 3) = w' := by
  have hl := int_entry w B es c i _ n hb hf
  clear hb hf
  go_enter Tryd.func52, Tryd.ntmps52
  go_wp2_with (go_at_call 66; refine Calls.mono (by with_reducible exact hl) ?_; rintro e w1 ⟨rfl, rfl⟩)
  go_ret
  exact ⟨rfl, rfl⟩

theorem limits0 (w : World) : Calls Tryd.prog 54 #[] w fun e w' => e = .returned (.agg #[.int .i64 536870912, .int .i64 536870912, .int .i64 104857600, .int .i64 536870912, .int .i64 10000000, .int .i64 1000000, .int .i64 16777216, .int .i64 10000000, .int .i64 100]) ∧ w.alloc (.cells #[.int .i64 536870912, .int .i64 536870912, .int .i64 104857600, .int .i64 536870912, .int .i64 10000000, .int .i64 1000000, .int .i64 16777216, .int .i64 10000000, .int .i64 100] 101) = w' := by
  go_enter Tryd.func54, Tryd.ntmps54
  go_wp2
  simp [bodyPost, results, Tryd.results54, go_sem]

set_option maxRecDepth 100000 in
theorem limits1 (w : World) : Calls Tryd.prog 36 #[] w fun e w' => e = .returned (.agg #[.int .i64 536870912, .int .i64 536870912, .int .i64 104857600, .int .i64 536870912, .int .i64 65536, .int .i64 65536, .int .i64 16777216, .int .i64 65536, .int .i64 100]) ∧ Below w.heap.size w w' := by
  have hl := fun w => limits0 w
  go_enter Tryd.func36, Tryd.ntmps36
  go_wp2_with (go_at_call 54; refine Calls.mono (by with_reducible exact hl _) ?_; rintro e w1 ⟨rfl, rfl⟩)
  simp [bodyPost, results, Tryd.results36, go_sem]
  exact (((Below.refl _ _).alloc (Nat.le_refl _) _).alloc (by simp) _).alloc (by simp; omega) _

end Go.Proofs.YtnpedhdonfdbmaaDoor
