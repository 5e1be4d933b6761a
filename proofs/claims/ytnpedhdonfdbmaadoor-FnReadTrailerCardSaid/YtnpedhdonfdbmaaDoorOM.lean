/- The law FnObjectStream answers true. Conditions: the errors of package strconv are there. -/
import Derived.Test.YtnpedhdonfdbmaaDoorOL
import Derived.Test.YtnpedhdonfdbmaaDoorOB
import Derived.Laws.IdiomStrings
namespace Go.Proofs.YtnpedhdonfdbmaaDoor
open Go.ChangeShapes Go.WideShapes Go.ChangeAt Go.RowKit Go.Sort

theorem run_store_float (P : Program) (w : World) (a : Addr) (m : Mode) (k : FloatKind) (b : Nat) : (store a (.float k b) m).run P w = stored P w a (.float k b) m := run_store P w a _ m rfl
attribute [local go_sem] run_store_float

theorem int_obj (n : Int) (w : World) : Calls Tryd.prog 9 #[.int .i64 n] w fun e w' => e = .returned (.agg #[.int .i64 2, .int .i64 n, .int .i64 0, .float .f64 0, .string ⟨#[]⟩, .slice none 0 0, .slice none 0 0]) ∧
    w.alloc (.cells #[.int .i64 2, .int .i64 n, .int .i64 0, .float .f64 0, .string ⟨#[]⟩, .slice none 0 0, .slice none 0 0] 36) = w' := by
  go_enter Tryd.func9, Tryd.ntmps9
  go_wp2
  simp [bodyPost, results, Tryd.results9, go_sem]

/-- '[]byte(s)': the bytes lie in a new block. -/
theorem bytes_of (s : ByteArray) (w : World) : ∃ cap w0, (convert 9 38 (.string s)).run Tryd.prog w = .ok (.slice (some ⟨w.heap.size, 0, none⟩) s.size cap) w0 ∧ w.heap.size < w0.heap.size ∧ Below w.heap.size w w0 ∧
    NewsAt w.heap.size (s.data.toList.map fun b => .int .u8 b.toNat) w0 := by
  refine ⟨_, _, run_bytes_of_string w 9 38 5 s Tryd.underlying9 Tryd.underlying38 Tryd.underlying5, by simp, ?_, ?_⟩
  · exact ((below_drewN (Below.refl w.heap.size w) 1).alloc (Nat.le_refl _) _)
  · intro i u hu
    have h := heap_alloc_new w.drew (.cells (bytesRow s (grownCap w s.size 0 5)) 5 ((bytesRow s (grownCap w s.size 0 5)).size, (bytesRow s (grownCap w s.size 0 5)).size + 1))
    have hc := cell_of_row _ w.heap.size i (bytesRow s (grownCap w s.size 0 5)) 5 _ h
    rw [Addr.add_mid, Nat.zero_add, hc]
    have hi' : i < s.data.size := by
      have := (List.getElem?_eq_some_iff.1 hu).1
      simpa using this
    unfold bytesRow
    rw [Array.getElem?_append_left (by simpa using hi'), Array.getElem?_map, Array.getElem?_eq_getElem hi']
    rw [List.getElem?_map, List.getElem?_eq_getElem (by simpa using hi')] at hu
    simpa using hu

theorem find0 (k : ByteArray) (v : Value) (r : List MapEntry) (n i : Nat) (hk : (k == k) = true) : Instr.findNow .string (.string k) (ME k v n :: r) i = some (some (i, v)) := by
  simp [Instr.findNow, ME, Instr.sameNow, hk]
theorem find1 (k k' : ByteArray) (v : Value) (r : List MapEntry) (n i : Nat) (h : (k == k') = false) : Instr.findNow .string (.string k) (ME k' v n :: r) i = Instr.findNow .string (.string k) r (i + 1) := by
  simp [Instr.findNow, ME, Instr.sameNow, h]

def objEs (f c : Int) : Array MapEntry := #[ME ⟨#[70, 105, 114, 115, 116]⟩ (.iface 107 (.int .i64 f)) 0, ME ⟨#[78]⟩ (.iface 107 (.int .i64 c)) 1, ME ⟨#[84, 121, 112, 101]⟩ (.iface 114 (.string ⟨#[79, 98, 106, 83, 116, 109]⟩)) 2]
def objOc (f c : Int) : Array Value := #[.int .i64 2, .int .i64 f, .int .i64 0, .float .f64 0, .string ⟨#[]⟩, .slice none 0 0, .slice none 0 0, .int .i64 2, .int .i64 c, .int .i64 0, .float .f64 0, .string ⟨#[]⟩, .slice none 0 0, .slice none 0 0, .int .i64 6, .int .i64 0, .int .i64 0, .float .f64 0, .string ⟨#[79, 98, 106, 83, 116, 109]⟩, .slice none 0 0, .slice none 0 0]
theorem obj_first (f c : Int) : Instr.findNow .string (.string ⟨#[70, 105, 114, 115, 116]⟩) (objEs f c).toList 0 = some (some (0, .iface 107 (.int .i64 f))) := find0 _ _ _ _ _ (by decide)
theorem obj_n (f c : Int) : Instr.findNow .string (.string ⟨#[78]⟩) (objEs f c).toList 0 = some (some (1, .iface 107 (.int .i64 c))) := (find1 _ _ _ _ _ _ (by decide)).trans (find0 _ _ _ _ _ (by decide))

/-- impl.dict of the three keys. -/
theorem obj_dict (f c : Int) (kb cb : Nat) (w : World) (hk0 : w.cell? ⟨kb, 0, none⟩ = some (.string ⟨#[70, 105, 114, 115, 116]⟩)) (hk1 : w.cell? ⟨kb, 1, none⟩ = some (.string ⟨#[78]⟩)) (hk2 : w.cell? ⟨kb, 2, none⟩ = some (.string ⟨#[84, 121, 112, 101]⟩))
    (hc : ∀ j, j < 21 → w.cell? ⟨cb, j, none⟩ = some ((objOc f c).getD j undef)) : DictTo w (.slice (some ⟨kb, 0, none⟩) 3 3) (.slice (some ⟨cb, 0, none⟩) 3 3) (objEs f c) 3 := by
  intro w' b
  have lk := block_lt_of_cell hk0
  have lc := block_lt_of_cell (hc 0 (by decide))
  have hh := below_cells b
  refine dict3 _ _ _ (.iface 107 (.int .i64 f)) (.iface 107 (.int .i64 c)) (.iface 114 (.string ⟨#[79, 98, 106, 83, 116, 109]⟩)) (fun j => (objOc f c).getD j undef) kb cb 3 3 w' ((hh _ _ lk).trans hk0) ((hh _ _ lk).trans hk1) ((hh _ _ lk).trans hk2) (fun j hj => (hh _ _ lc).trans (hc j hj))
    (fun w => object_int f w) (fun w => object_int c w) (fun w => object_name _ w) (by decide) (by decide) (by decide)

end Go.Proofs.YtnpedhdonfdbmaaDoor
