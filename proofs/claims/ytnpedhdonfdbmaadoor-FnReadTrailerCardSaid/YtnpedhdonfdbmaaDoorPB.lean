/- What the readers of a trailer's entries leave. Conditions: which keys are there is told ahead. -/
import Derived.Test.YtnpedhdonfdbmaaDoorPA
import Derived.Test.YtnpedhdonfdbmaaDoorOF
namespace Go.Proofs.YtnpedhdonfdbmaaDoor
open Go.ChangeShapes Go.WideShapes Go.ChangeAt Go.RowKit Go.Sort

theorem Bt.trans {b c : Nat} {x y z : World} (h : Bt b c x y) (k : Bt b c y z) : Bt b c x z :=
  ⟨k.os.trans h.os, k.tape.trans h.tape, k.output.trans h.output, Nat.le_trans h.size k.size, fun i hi h1 h2 => (k.block i (Nat.lt_of_lt_of_le hi h.size) h1 h2).trans (h.block i hi h1 h2)⟩

set_option maxRecDepth 100000 in
theorem ref_hit (w : World) (B : Nat) (es : Array MapEntry) (c i : Nat) (k : ByteArray) (n : Int) (hb : w.heap[B]? = some (.map es c)) (hf : Instr.findNow .string (.string k) es.toList 0 = some (some (i, .iface 109 (.agg #[.int .i64 n, .int .i64 0])))) :
    Calls Tryd.prog 57 #[.map (some B), .string k] w fun e w' => e = .returned (.pointer (some ⟨w.heap.size, 0, none⟩)) ∧ w.alloc (.cells #[.int .i64 n, .int .i64 0] 109) = w' := by
  have hl := find_hit w B es c i k _ hb hf
  have ht := as109
  clear hb hf
  go_enter Tryd.func57, Tryd.ntmps57
  go_wp2_with (go_at_call 67; refine Calls.mono (by with_reducible exact hl) ?_; rintro e w1 ⟨rfl, rfl⟩)
  go_ret
  exact ⟨rfl, rfl⟩
theorem ref_miss (w : World) (B : Nat) (es : Array MapEntry) (c : Nat) (k : ByteArray) (hb : w.heap[B]? = some (.map es c)) (hm : Miss es c k) :
    Calls Tryd.prog 57 #[.map (some B), .string k] w fun e w' => e = .returned (.pointer none) ∧ Below w.heap.size w w' := by
  have hl := find_miss w B es c k hb hm
  clear hb hm
  go_enter Tryd.func57, Tryd.ntmps57
  go_wp2_with (go_at_call 67; refine Calls.mono (by with_reducible exact hl) ?_; rintro e w1 ⟨rfl, hb⟩)
  go_ret
  exact ⟨rfl, hb⟩
theorem arr_miss (w : World) (B : Nat) (es : Array MapEntry) (c : Nat) (k : ByteArray) (hb : w.heap[B]? = some (.map es c)) (hm : Miss es c k) :
    Calls Tryd.prog 69 #[.map (some B), .string k] w fun e w' => e = .returned (.slice none 0 0) ∧ Below w.heap.size w w' := by
  have hl := find_miss w B es c k hb hm
  clear hb hm
  go_enter Tryd.func69, Tryd.ntmps69
  go_wp2_with (go_at_call 67; refine Calls.mono (by with_reducible exact hl) ?_; rintro e w1 ⟨rfl, hb⟩)
  go_ret
  exact ⟨rfl, hb⟩
theorem size_any (w : World) (B : Nat) (es : Array MapEntry) (c i : Nat) (n : Int) (hb : w.heap[B]? = some (.map es c)) (hf : Instr.findNow .string (.string ⟨#[83, 105, 122, 101]⟩) es.toList 0 = some (some (i, .iface 107 (.int .i64 n)))) :
    Calls Tryd.prog 68 #[.map (some B)] w fun e w' => e = .returned (.pointer (some ⟨w.heap.size, 0, none⟩)) ∧ w.alloc (.cells #[.int .i64 n] 3) = w' := by
  have hl := int_entry w B es c i _ n hb hf
  clear hb hf
  go_enter Tryd.func68, Tryd.ntmps68
  go_wp2_with (go_at_call 66; refine Calls.mono (by with_reducible exact hl) ?_; rintro e w1 ⟨rfl, rfl⟩)
  go_ret
  exact ⟨rfl, rfl⟩

/-- The table that a trailer is read into: Size, Root, Encrypt, ID, Info. -/
structure TS (X : Nat) (vS vR vI : Value) (w : World) : Prop where
  c1 : w.cell? ⟨X, 1, none⟩ = some vS
  c3 : w.cell? ⟨X, 3, none⟩ = some vR
  c5 : w.cell? ⟨X, 5, none⟩ = some (.pointer none)
  c6 : w.cell? ⟨X, 6, none⟩ = some (.slice none 0 0)
  c7 : w.cell? ⟨X, 7, none⟩ = some vI
  f1 : w.frozen? ⟨X, 1, none⟩ = false
  f3 : w.frozen? ⟨X, 3, none⟩ = false
  f7 : w.frozen? ⟨X, 7, none⟩ = false
theorem TS.lt {X : Nat} {vS vR vI : Value} {w : World} (h : TS X vS vR vI w) : X < w.heap.size := block_lt_of_cell h.c1
theorem TS.below {X : Nat} {vS vR vI : Value} {w w' : World} (h : TS X vS vR vI w) (b : Below w.heap.size w w') : TS X vS vR vI w' := by
  have l := h.lt
  have hc := below_cells b
  have hf := fun o => World.frozen?_of_block (a := ⟨X, o, none⟩) (b.block X l)
  exact ⟨(hc _ _ l).trans h.c1, (hc _ _ l).trans h.c3, (hc _ _ l).trans h.c5, (hc _ _ l).trans h.c6, (hc _ _ l).trans h.c7, (hf _).trans h.f1, (hf _).trans h.f3, (hf _).trans h.f7⟩
theorem TS.set1 {X : Nat} {vS vR vI : Value} {w : World} (h : TS X vS vR vI w) (v : Value) : TS X v vR vI (w.setCell ⟨X, 1, none⟩ v) := by
  obtain ⟨c1, c3, c5, c6, c7, f1, f3, f7⟩ := h
  constructor <;> go_simp <;> assumption
theorem TS.set3 {X : Nat} {vS vR vI : Value} {w : World} (h : TS X vS vR vI w) (v : Value) : TS X vS v vI (w.setCell ⟨X, 3, none⟩ v) := by
  obtain ⟨c1, c3, c5, c6, c7, f1, f3, f7⟩ := h
  constructor <;> go_simp <;> assumption
theorem TS.set7 {X : Nat} {vS vR vI : Value} {w : World} (h : TS X vS vR vI w) (v : Value) : TS X vS vR v (w.setCell ⟨X, 7, none⟩ v) := by
  obtain ⟨c1, c3, c5, c6, c7, f1, f3, f7⟩ := h
  constructor <;> go_simp <;> assumption

set_option maxRecDepth 100000 in
theorem psize (w : World) (B X : Nat) (es : Array MapEntry) (c i : Nat) (n : Int) (vS vR vI : Value) (hb : w.heap[B]? = some (.map es c)) (hf : Instr.findNow .string (.string ⟨#[83, 105, 122, 101]⟩) es.toList 0 = some (some (i, .iface 107 (.int .i64 n)))) (hT : TS X vS vR vI w) :
    Calls Tryd.prog 58 #[.pointer (some ⟨X, 0, none⟩), .map (some B)] w fun e w' => e = .returned .nilIface ∧ ∃ S, w.heap.size ≤ S ∧ w'.cell? ⟨S, 0, none⟩ = some (.int .i64 n) ∧ TS X (.pointer (some ⟨S, 0, none⟩)) vR vI w' ∧ Bt X X w w' := by
  have hl := size_any w B es c i n hb hf
  have lX := hT.lt
  have h2 := hT.below (below_al (Below.refl _ _) (.cells #[.int .i64 n] 3))
  have HT0 := Lib.hid hT
  obtain ⟨c1, c3, c5, c6, c7, f1, f3, f7⟩ := h2
  have hne : ¬ X = w.heap.size := by omega
  clear hb hf hT
  go_enter Tryd.func58, Tryd.ntmps58
  go_wp2_with (go_at_call 68; refine Calls.mono (by with_reducible exact hl) ?_; rintro e w1 ⟨rfl, rfl⟩)
  go_ret
  exact ⟨rfl, w.heap.size, Nat.le_refl _, by go_simp, (HT0.out.set1 _).below (below_al (Below.refl _ _) _), (Bt.refl.setb _ 1).trans (Bt.of (below_al (Below.refl _ _) _))⟩

set_option maxRecDepth 100000 in
theorem proot (w : World) (B X : Nat) (es : Array MapEntry) (c i : Nat) (n : Int) (vS vR vI : Value) (hb : w.heap[B]? = some (.map es c)) (hf : Instr.findNow .string (.string ⟨#[82, 111, 111, 116]⟩) es.toList 0 = some (some (i, .iface 109 (.agg #[.int .i64 n, .int .i64 0])))) (hT : TS X vS vR vI w) :
    Calls Tryd.prog 59 #[.pointer (some ⟨X, 0, none⟩), .map (some B)] w fun e w' => e = .returned .nilIface ∧ ∃ S, w.heap.size ≤ S ∧ w'.cell? ⟨S, 0, none⟩ = some (.int .i64 n) ∧ w'.cell? ⟨S, 1, none⟩ = some (.int .i64 0) ∧ TS X vS (.pointer (some ⟨S, 0, none⟩)) vI w' ∧ Bt X X w w' := by
  have hl := ref_hit w B es c i _ n hb hf
  have lX := hT.lt
  have h2 := hT.below (below_al (Below.refl _ _) (.cells #[.int .i64 n, .int .i64 0] 109))
  have HT0 := Lib.hid hT
  obtain ⟨c1, c3, c5, c6, c7, f1, f3, f7⟩ := h2
  have hne : ¬ X = w.heap.size := by omega
  clear hb hf hT
  go_enter Tryd.func59, Tryd.ntmps59
  go_wp2_with (go_at_call 57; refine Calls.mono (by with_reducible exact hl) ?_; rintro e w1 ⟨rfl, rfl⟩)
  go_ret
  exact ⟨rfl, w.heap.size, Nat.le_refl _, by go_simp, by go_simp, (HT0.out.set3 _).below (below_al (Below.refl _ _) _), (Bt.refl.setb _ 3).trans (Bt.of (below_al (Below.refl _ _) _))⟩

set_option maxRecDepth 100000 in
theorem pinfo (w : World) (B X : Nat) (es : Array MapEntry) (c i : Nat) (n : Int) (vS vR vI : Value) (hb : w.heap[B]? = some (.map es c)) (hf : Instr.findNow .string (.string ⟨#[73, 110, 102, 111]⟩) es.toList 0 = some (some (i, .iface 109 (.agg #[.int .i64 n, .int .i64 0])))) (hT : TS X vS vR vI w) :
    Calls Tryd.prog 60 #[.pointer (some ⟨X, 0, none⟩), .map (some B)] w fun e w' => e = .returned .nilIface ∧ ∃ S, w.heap.size ≤ S ∧ w'.cell? ⟨S, 0, none⟩ = some (.int .i64 n) ∧ w'.cell? ⟨S, 1, none⟩ = some (.int .i64 0) ∧ TS X vS vR (.pointer (some ⟨S, 0, none⟩)) w' ∧ Bt X X w w' := by
  have hl := ref_hit w B es c i _ n hb hf
  have lX := hT.lt
  have h2 := hT.below (below_al (Below.refl _ _) (.cells #[.int .i64 n, .int .i64 0] 109))
  have HT0 := Lib.hid hT
  obtain ⟨c1, c3, c5, c6, c7, f1, f3, f7⟩ := h2
  have hne : ¬ X = w.heap.size := by omega
  clear hb hf hT
  go_enter Tryd.func60, Tryd.ntmps60
  go_wp2_with (go_at_call 57; refine Calls.mono (by with_reducible exact hl) ?_; rintro e w1 ⟨rfl, rfl⟩)
  go_ret
  exact ⟨rfl, w.heap.size, Nat.le_refl _, by go_simp, by go_simp, (HT0.out.set7 _).below (below_al (Below.refl _ _) _), (Bt.refl.setb _ 7).trans (Bt.of (below_al (Below.refl _ _) _))⟩

theorem pinfo_no (w : World) (B X : Nat) (es : Array MapEntry) (c : Nat) (hb : w.heap[B]? = some (.map es c)) (hm : Miss es c ⟨#[73, 110, 102, 111]⟩) :
    Calls Tryd.prog 60 #[.pointer (some ⟨X, 0, none⟩), .map (some B)] w fun e w' => e = .returned .nilIface ∧ Below w.heap.size w w' := by
  have hl := ref_miss w B es c _ hb hm
  clear hb hm
  go_enter Tryd.func60, Tryd.ntmps60
  go_wp2_with (go_at_call 57; refine Calls.mono (by with_reducible exact hl) ?_; rintro e w1 ⟨rfl, hb⟩)
  go_ret
  exact ⟨rfl, hb⟩

theorem pid (w : World) (B X : Nat) (es : Array MapEntry) (c : Nat) (hb : w.heap[B]? = some (.map es c)) (hm : Miss es c ⟨#[73, 68]⟩) (vS vR vI : Value) (hT : TS X vS vR vI w) :
    Calls Tryd.prog 61 #[.pointer (some ⟨X, 0, none⟩), .map (some B)] w fun e w' => e = .returned .nilIface ∧ Below w.heap.size w w' := by
  have hl := arr_miss w B es c _ hb hm
  have HT := Lib.hid hT
  clear hb hm hT
  go_enter Tryd.func61, Tryd.ntmps61
  go_wp2_with (go_at_call 69; refine Calls.mono (by with_reducible exact hl) ?_; rintro e w1 ⟨rfl, hb⟩
               have c5 := (HT.out.below hb).c5)
  go_ret
  exact ⟨rfl, hb⟩

end Go.Proofs.YtnpedhdonfdbmaaDoor
