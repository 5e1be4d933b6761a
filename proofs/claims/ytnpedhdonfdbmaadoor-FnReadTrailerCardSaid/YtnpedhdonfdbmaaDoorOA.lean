/- What impl.object answers of an integer, of a name and of a reference. Conditions: none. -/
import Derived.Test.YtnpedhdonfdbmaaDoorEX
import Derived.MapKept
namespace Go.Proofs.YtnpedhdonfdbmaaDoor
open Go.ChangeShapes Go.WideShapes Go.ChangeAt Go.RowKit Go.Sort

/-- An object as plain data. -/
def OB (kind int gen : Int) (text : ByteArray) : Value := .agg #[.int .i64 kind, .int .i64 int, .int .i64 gen, .float .f64 0, .string text, .slice none 0 0, .slice none 0 0]

theorem object_int (n : Int) (w : World) : Calls Tryd.prog 37 #[.agg #[.int .i64 2, .int .i64 n, .int .i64 0, .float .f64 0, .string ⟨#[]⟩, .slice none 0 0, .slice none 0 0]] w fun e w' => e = .returned (.tuple #[.iface 107 (.int .i64 n), .bool true]) ∧ Below w.heap.size w w' := by
  have hB : Hid (Below w.heap.size w (w.alloc (.cells #[.int .i64 2, .int .i64 n, .int .i64 0, .float .f64 0, .string ⟨#[]⟩, .slice none 0 0, .slice none 0 0] 36))) := (Below.refl _ _).alloc (Nat.le_refl _) _
  go_enter Tryd.func37, Tryd.ntmps37
  go_wp2
  go_ret2
  exact ⟨rfl, hB.out⟩

theorem object_name (s : ByteArray) (w : World) : Calls Tryd.prog 37 #[.agg #[.int .i64 6, .int .i64 0, .int .i64 0, .float .f64 0, .string s, .slice none 0 0, .slice none 0 0]] w fun e w' => e = .returned (.tuple #[.iface 114 (.string s), .bool true]) ∧ Below w.heap.size w w' := by
  have hB : Hid (Below w.heap.size w (w.alloc (.cells #[.int .i64 6, .int .i64 0, .int .i64 0, .float .f64 0, .string s, .slice none 0 0, .slice none 0 0] 36))) := (Below.refl _ _).alloc (Nat.le_refl _) _
  go_enter Tryd.func37, Tryd.ntmps37
  go_wp2
  go_ret2
  exact ⟨rfl, hB.out⟩

theorem newref_any (n g : Int) (w : World) : Calls Tryd.prog 55 #[.int .i64 n, .int .i64 g] w fun e w' => e = .returned (.pointer (some ⟨w.heap.size, 0, none⟩)) ∧ w' = w.alloc (.cells #[.int .i64 n, .int .i64 g] 109) := by
  go_enter Tryd.func55, Tryd.ntmps55
  go_wp2
  go_ret
  exact ⟨rfl, rfl⟩

theorem object_ref (n : Int) (w : World) : Calls Tryd.prog 37 #[.agg #[.int .i64 9, .int .i64 n, .int .i64 0, .float .f64 0, .string ⟨#[]⟩, .slice none 0 0, .slice none 0 0]] w fun e w' => e = .returned (.tuple #[.iface 109 (.agg #[.int .i64 n, .int .i64 0]), .bool true]) ∧ Below w.heap.size w w' := by
  have hB : Hid (Below w.heap.size w ((w.alloc (.cells #[.int .i64 9, .int .i64 n, .int .i64 0, .float .f64 0, .string ⟨#[]⟩, .slice none 0 0, .slice none 0 0] 36)).alloc (.cells #[.int .i64 n, .int .i64 0] 109))) := ((Below.refl _ _).alloc (Nat.le_refl _) _).alloc (by simp) _
  go_enter Tryd.func37, Tryd.ntmps37
  go_wp2_with (go_at_call 55; refine Calls.mono (by with_reducible exact newref_any _ _ _) ?_; rintro e w1 ⟨rfl, rfl⟩)
  go_ret2
  exact ⟨rfl, hB.out⟩

/-- The world with this map in block B. -/
def setMap (w : World) (B : Nat) (es : Array MapEntry) (c : Nat) : World := { w with heap := w.heap.setIfInBounds B (.map es c) }
theorem setMap_heap {w : World} {B : Nat} (es : Array MapEntry) (c : Nat) (h : B < w.heap.size) : (setMap w B es c).heap[B]? = some (.map es c) := by
  simp [setMap, h]
theorem setMap_size (w : World) (B : Nat) (es : Array MapEntry) (c : Nat) : (setMap w B es c).heap.size = w.heap.size := by simp [setMap]
theorem setMap_below {N : Nat} {w0 w : World} (b : Below N w0 w) {B : Nat} (hB : N ≤ B) (es : Array MapEntry) (c : Nat) : Below N w0 (setMap w B es c) :=
  ⟨b.os, b.tape, b.output, by rw [setMap_size]; exact b.size, fun k hk => by
    have hne : B ≠ k := by omega
    have : (setMap w B es c).heap[k]? = w.heap[k]? := by simp [setMap, hne]
    rw [this]; exact b.block k hk⟩

theorem run_upd (w : World) (B : Nat) (es : Array MapEntry) (c : Nat) (k : ByteArray) (v : Value) (hb : w.heap[B]? = some (.map es c)) (hf : Instr.findNow .string (.string k) es.toList 0 = some none) :
    (Instr.mapUpdate 63 (.map (some B)) (.string k) v).run Tryd.prog w = .ok () (setMap w B (es.push { key := .string k, val := v, born := c }) (c + 1)) := by
  have hu : Tryd.prog.underlying 63 = some (.map 9 104) := Tryd.underlying63
  have h9 : Tryd.prog.underlying 9 = some .string := Tryd.underlying9
  have h1 := MapKept.run_checkKey (P := Tryd.prog) (w := w) (kt := 9) (d := .string) (k := .string k) h9 trivial false 9999
  have h2 := MapKept.run_findKey (P := Tryd.prog) (w := w) (kt := 9) (d := .string) (k := .string k) h9 hf
  unfold Instr.mapUpdate
  simp [run_underlying hu, Result.andThen, MapKept.run_getObj_map hb, h1, h2, MapKept.run_setObj_map _ hb, setMap]

theorem run_look (w : World) (B : Nat) (es : Array MapEntry) (c i : Nat) (k : ByteArray) (v : Value) (hb : w.heap[B]? = some (.map es c)) (hf : Instr.findNow .string (.string k) es.toList 0 = some (some (i, v))) :
    (Instr.lookup 63 (.map (some B)) (.string k) true).run Tryd.prog w = .ok (.tuple #[v, .bool true]) w := by
  have hu : Tryd.prog.underlying 63 = some (.map 9 104) := Tryd.underlying63
  have h9 : Tryd.prog.underlying 9 = some .string := Tryd.underlying9
  have h1 := MapKept.run_checkKey (P := Tryd.prog) (w := w) (kt := 9) (d := .string) (k := .string k) h9 trivial es.isEmpty 9999
  have h2 := MapKept.run_findKey (P := Tryd.prog) (w := w) (kt := 9) (d := .string) (k := .string k) h9 hf
  unfold Instr.lookup
  simp [run_underlying hu, Result.andThen, MapKept.run_getObj_map hb, h1, h2]

end Go.Proofs.YtnpedhdonfdbmaaDoor
