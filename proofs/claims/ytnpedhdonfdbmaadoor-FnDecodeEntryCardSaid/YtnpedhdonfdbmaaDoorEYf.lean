/- What spec.EntryText answers of an entry. Conditions: the table of powers of ten reads as it is laid. -/
import Derived.Test.YtnpedhdonfdbmaaDoorEX
namespace Go.Proofs.YtnpedhdonfdbmaaDoor
open Go.ChangeShapes Go.WideShapes Go.ChangeAt Go.RowKit Go.Sort

set_option maxRecDepth 100000 in
set_option maxHeartbeats 40000000 in
theorem entryText_f (o n : Nat) (w : World) (ho : o < 10 ^ 10) (hn : n < 10 ^ 5) (htab : Lib.TabIs Tryd.prog w "internal/strconv.uint64pow10" .u64 Lib.pow10Tab) :
    Calls Tryd.prog 6 #[.agg #[.int .i64 0, .bool true, .bool false, .int .i64 o, .int .i64 n, .bool false, .bool false, .int .i64 0, .int .i64 0], .int .i64 0] w fun e w' => e = .returned (.string (lineS o n ⟨#[102]⟩)) ∧ Below w.heap.size w w' := by
  have hsA := PS_size ho (by decide)
  have hsB := PS_size hn (by decide)
  have c1 : (w.alloc (.cells #[.int .i64 0, .bool true, .bool false, .int .i64 o, .int .i64 n, .bool false, .bool false, .int .i64 0, .int .i64 0] 24)).cell? ⟨w.heap.size, 1, none⟩ = some (.bool true) := by go_simp
  have c3 : (w.alloc (.cells #[.int .i64 0, .bool true, .bool false, .int .i64 o, .int .i64 n, .bool false, .bool false, .int .i64 0, .int .i64 0] 24)).cell? ⟨w.heap.size, 3, none⟩ = some (.int .i64 o) := by go_simp
  have c4 : (w.alloc (.cells #[.int .i64 0, .bool true, .bool false, .int .i64 o, .int .i64 n, .bool false, .bool false, .int .i64 0, .int .i64 0] 24)).cell? ⟨w.heap.size, 4, none⟩ = some (.int .i64 n) := by go_simp
  have hN : w.heap.size < (w.alloc (.cells #[.int .i64 0, .bool true, .bool false, .int .i64 o, .int .i64 n, .bool false, .bool false, .int .i64 0, .int .i64 0] 24)).heap.size := by simp
  have h0 : Below w.heap.size w (w.alloc (.cells #[.int .i64 0, .bool true, .bool false, .int .i64 o, .int .i64 n, .bool false, .bool false, .int .i64 0, .int .i64 0] 24)) := (Below.refl _ _).alloc (Nat.le_refl _) _
  obtain ⟨w0, hw0⟩ : ∃ w0, w.alloc (.cells #[.int .i64 0, .bool true, .bool false, .int .i64 o, .int .i64 n, .bool false, .bool false, .int .i64 0, .int .i64 0] 24) = w0 := ⟨_, rfl⟩
  rw [hw0] at c1 c3 c4 hN h0
  have ht0 := tab_below h0 htab
  have hA := fun (w' : World) (b : Below w0.heap.size w0 w') => call_kept b (padded_any o 10 w' ho (by decide) (by decide) (by omega) (tab_below b ht0))
  have hB := fun (w' : World) (b : Below w0.heap.size w0 w') => call_kept b (padded_any n 5 w' hn (by decide) (by decide) (by omega) (tab_below b ht0))
  obtain ⟨L, hL⟩ : ∃ L, lineS o n ⟨#[102]⟩ = L := ⟨_, rfl⟩
  have HL : Hid (lineS o n ⟨#[102]⟩ = L) := hL
  rw [hL]
  clear hL htab ht0
  obtain ⟨A, hAA⟩ : ∃ A, PS 10 o = A := ⟨_, rfl⟩
  obtain ⟨B, hBB⟩ : ∃ B, PS 5 n = B := ⟨_, rfl⟩
  have HL2 : Hid (A ++ ⟨#[32]⟩ ++ B ++ ⟨#[32]⟩ ++ ⟨#[102]⟩ ++ ⟨#[32, 13]⟩ = L) := by
    have := HL.out; unfold lineS at this; rw [hAA, hBB] at this; exact this
  simp only [hAA] at hsA hA
  simp only [hBB] at hsB hB
  have H0 : Hid (Below w.heap.size w w0) := h0
  have HA : Hid (∀ w', Below w0.heap.size w0 w' → Calls Tryd.prog 13 #[.int .i64 o, .int .i64 10] w' fun e w'' => e = .returned (.string A) ∧ (∀ b o, b < w'.heap.size → w''.cell? ⟨b, o, none⟩ = w'.cell? ⟨b, o, none⟩) ∧ Below w0.heap.size w0 w'' ∧ w'.heap.size ≤ w''.heap.size) := hA
  have HB : Hid (∀ w', Below w0.heap.size w0 w' → Calls Tryd.prog 13 #[.int .i64 n, .int .i64 5] w' fun e w'' => e = .returned (.string B) ∧ (∀ b o, b < w'.heap.size → w''.cell? ⟨b, o, none⟩ = w'.cell? ⟨b, o, none⟩) ∧ Below w0.heap.size w0 w'' ∧ w'.heap.size ≤ w''.heap.size) := hB
  clear hA hB hAA hBB HL ho hn h0
  go_enter Tryd.func6, Tryd.ntmps6
  go_wp2_with (fail)
  clear hw0
  have n0 : ¬ w.heap.size = w0.heap.size := by omega
  go_region_with (first
    | (go_at_call_of 13 (Value.int IntKind.i64 10); refine Calls.mono (HA.out _ ?_) ?_
       · (repeat (first | assumption | exact Below.refl _ _ | refine Below.drew ?_ | refine below_drewN ?_ _ | refine Below.alloc ?_ (by first | omega | (simp; omega) | simp) _))
       rintro e wkA ⟨rfl, hkA, hbA, hsA⟩
       have hlA := hbA.size
       have c3A := (below_cell hbA (a := ⟨w.heap.size, 3, none⟩) hN).trans c3
       have c4A := (below_cell hbA (a := ⟨w.heap.size, 4, none⟩) hN).trans c4
       try simp at hsA
       try (have q1A := hkA w0.heap.size 0 (by first | omega | (simp; done) | (simp; omega)); try simp at q1A)
       try (have q2A := hkA wkB.heap.size 0 (by first | omega | (simp; done) | (simp; omega)); try simp at q2A)
       have n1A : w.heap.size < wkA.heap.size := by omega
       have n2A : ¬ w.heap.size = wkA.heap.size := by omega
       clear hkA)
    | (go_at_call_of 13 (Value.int IntKind.i64 5); refine Calls.mono (HB.out _ ?_) ?_
       · (repeat (first | assumption | exact Below.refl _ _ | refine Below.drew ?_ | refine below_drewN ?_ _ | refine Below.alloc ?_ (by first | omega | (simp; omega) | simp) _))
       rintro e wkB ⟨rfl, hkB, hbB, hsB⟩
       have hlB := hbB.size
       have c3B := (below_cell hbB (a := ⟨w.heap.size, 3, none⟩) hN).trans c3
       have c4B := (below_cell hbB (a := ⟨w.heap.size, 4, none⟩) hN).trans c4
       try simp at hsB
       try (have q1B := hkB w0.heap.size 0 (by first | omega | (simp; done) | (simp; omega)); try simp at q1B)
       try (have q2B := hkB wkA.heap.size 0 (by first | omega | (simp; done) | (simp; omega)); try simp at q2B)
       have n1B : w.heap.size < wkB.heap.size := by omega
       have n2B : ¬ w.heap.size = wkB.heap.size := by omega
       clear hkB))
  all_goals (
    go_wp2
    go_ret
    refine ⟨by first | rfl | (rw [← HL2.out]; rfl), H0.out.trans (Below.mono ?_ H0.out.size)⟩
    (repeat (first | assumption | exact Below.refl _ _ | refine Below.drew ?_ | refine below_drewN ?_ _ | refine Below.alloc ?_ (by first | omega | (simp; omega) | simp) _)))

end Go.Proofs.YtnpedhdonfdbmaaDoor
