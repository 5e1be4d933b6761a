/- Small facts for spec.EntryText. Conditions: the table of powers of ten reads as it is laid. -/
import Derived.Test.YtnpedhdonfdbmaaDoorEW
import Derived.Deep.RegionWith
namespace Go.Proofs.YtnpedhdonfdbmaaDoor
open Go.ChangeShapes Go.WideShapes Go.ChangeAt Go.RowKit Go.Sort

theorem below_cells {w w' : World} (h : Below w.heap.size w w') : ∀ b o, b < w.heap.size → w'.cell? ⟨b, o, none⟩ = w.cell? ⟨b, o, none⟩ := fun b o hb => below_cell h (a := ⟨b, o, none⟩) hb
theorem tab_below {w w' : World} (h : Below w.heap.size w w') (htab : Lib.TabIs Tryd.prog w "internal/strconv.uint64pow10" .u64 Lib.pow10Tab) : Lib.TabIs Tryd.prog w' "internal/strconv.uint64pow10" .u64 Lib.pow10Tab := by
  have hg : Tryd.prog.globalNamed "internal/strconv.uint64pow10" = some 9 := by kernel_rfl
  have h3 := htab
  unfold Lib.TabIs World.var? at h3
  rw [hg] at h3
  simp only [Option.bind_some] at h3
  have hlt : 9 < w.heap.size := by
    cases hh : w.heap[9]? with
    | none => rw [hh] at h3; cases h3
    | some o => exact (Array.getElem?_eq_some_iff.1 hh).1
  exact var?_below h hg hlt htab

theorem call_kept {f : FuncId} {args : Array Value} {v : Value} {w w' : World} (b : Below w.heap.size w w') (h : Calls Tryd.prog f args w' fun e w'' => e = .returned v ∧ Below w'.heap.size w' w'') :
    Calls Tryd.prog f args w' fun e w'' => e = .returned v ∧ (∀ b o, b < w'.heap.size → w''.cell? ⟨b, o, none⟩ = w'.cell? ⟨b, o, none⟩) ∧ Below w.heap.size w w'' ∧ w'.heap.size ≤ w''.heap.size :=
  h.mono fun _ _ ⟨h1, h2⟩ => ⟨h1, below_cells h2, b.trans (h2.mono b.size), h2.size⟩

def lineS (o n : Nat) (k : ByteArray) : ByteArray := PS 10 o ++ ⟨#[32]⟩ ++ PS 5 n ++ ⟨#[32]⟩ ++ k ++ ⟨#[32, 13]⟩

end Go.Proofs.YtnpedhdonfdbmaaDoor
