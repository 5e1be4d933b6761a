/- What impl.dict answers of two and of three keys that are unlike each other. Conditions: each value is an object. -/
import Derived.Test.YtnpedhdonfdbmaaDoorOA
namespace Go.Proofs.YtnpedhdonfdbmaaDoor
open Go.ChangeShapes Go.WideShapes Go.ChangeAt Go.RowKit Go.Sort

def ME (k : ByteArray) (v : Value) (n : Nat) : MapEntry := { key := .string k, val := v, born := n }
theorem find_none (es : Array MapEntry) (k : ByteArray) (h : ∀ x ∈ es.toList, ∃ s, x.key = .string s ∧ (k == s) = false) : Instr.findNow .string (.string k) es.toList 0 = some none := by
  have : ∀ (l : List MapEntry) (i : Nat), (∀ x ∈ l, ∃ s, x.key = .string s ∧ (k == s) = false) → Instr.findNow .string (.string k) l i = some none := by
    intro l
    induction l with
    | nil => intro i _; rfl
    | cons e t ih =>
      intro i h
      obtain ⟨s, h1, h2⟩ := h e (.head _)
      simp [Instr.findNow, h1, Instr.sameNow, h2, ih (i + 1) (fun x hx => h x (.tail _ hx))]
  exact this _ _ h

set_option maxHeartbeats 4000000 in
set_option maxRecDepth 100000 in
theorem dict3 (k0 k1 k2 : ByteArray) (v0 v1 v2 : Value) (oc : Nat → Value) (kb cb kc cc : Nat) (w : World)
    (hk0 : w.cell? ⟨kb, 0, none⟩ = some (.string k0))     (hk1 : w.cell? ⟨kb, 1, none⟩ = some (.string k1))     (hk2 : w.cell? ⟨kb, 2, none⟩ = some (.string k2)) 
    (hc : ∀ f, f < 21 → w.cell? ⟨cb, f, none⟩ = some (oc f))
    (ho0 : ∀ w', Calls Tryd.prog 37 #[.agg #[oc 0, oc 1, oc 2, oc 3, oc 4, oc 5, oc 6]] w' fun e w'' => e = .returned (.tuple #[v0, .bool true]) ∧ Below w'.heap.size w' w'')
    (ho1 : ∀ w', Calls Tryd.prog 37 #[.agg #[oc 7, oc 8, oc 9, oc 10, oc 11, oc 12, oc 13]] w' fun e w'' => e = .returned (.tuple #[v1, .bool true]) ∧ Below w'.heap.size w' w'')
    (ho2 : ∀ w', Calls Tryd.prog 37 #[.agg #[oc 14, oc 15, oc 16, oc 17, oc 18, oc 19, oc 20]] w' fun e w'' => e = .returned (.tuple #[v2, .bool true]) ∧ Below w'.heap.size w' w'')
    (hd10 : (k1 == k0) = false)     (hd20 : (k2 == k0) = false)     (hd21 : (k2 == k1) = false)  :
    Calls Tryd.prog 19 #[.slice (some ⟨kb, 0, none⟩) 3 kc, .slice (some ⟨cb, 0, none⟩) 3 cc] w fun e w' => e = .returned (.tuple #[.map (some w.heap.size), .bool true]) ∧ w'.heap[w.heap.size]? = some (.map #[ME k0 v0 0, ME k1 v1 1, ME k2 v2 2] 3) ∧ Below w.heap.size w w' := by
  have hkb : kb < w.heap.size := block_lt_of_cell hk0
  have hcb : cb < w.heap.size := block_lt_of_cell (hc 0 (by decide))
  have hmm := @run_makeMap Tryd.prog
  have HO0 : Hid (∀ w', Calls Tryd.prog 37 #[.agg #[oc 0, oc 1, oc 2, oc 3, oc 4, oc 5, oc 6]] w' fun e w'' => e = .returned (.tuple #[v0, .bool true]) ∧ Below w'.heap.size w' w'') := ho0
  have HO1 : Hid (∀ w', Calls Tryd.prog 37 #[.agg #[oc 7, oc 8, oc 9, oc 10, oc 11, oc 12, oc 13]] w' fun e w'' => e = .returned (.tuple #[v1, .bool true]) ∧ Below w'.heap.size w' w'') := ho1
  have HO2 : Hid (∀ w', Calls Tryd.prog 37 #[.agg #[oc 14, oc 15, oc 16, oc 17, oc 18, oc 19, oc 20]] w' fun e w'' => e = .returned (.tuple #[v2, .bool true]) ∧ Below w'.heap.size w' w'') := ho2
  have HF0 : Hid (Instr.findNow .string (.string k0) (#[] : Array MapEntry).toList 0 = some none) := find_none _ _ (by simp)
  have HF1 : Hid (Instr.findNow .string (.string k1) (#[ME k0 v0 0] : Array MapEntry).toList 0 = some none) := find_none _ _ (by simp [ME, hd10])
  have HF2 : Hid (Instr.findNow .string (.string k2) (#[ME k0 v0 0, ME k1 v1 1] : Array MapEntry).toList 0 = some none) := find_none _ _ (by simp [ME, hd20, hd21])
  have HK0 : Hid (w.cell? ⟨kb, 0, none⟩ = some (.string k0)) := hk0
  have HK1 : Hid (w.cell? ⟨kb, 1, none⟩ = some (.string k1)) := hk1
  have HK2 : Hid (w.cell? ⟨kb, 2, none⟩ = some (.string k2)) := hk2
  have HC : Hid (∀ f, f < 21 → w.cell? ⟨cb, f, none⟩ = some (oc f)) := hc
  have HN : Hid (kb < w.heap.size ∧ cb < w.heap.size) := ⟨hkb, hcb⟩
  clear hc hkb hcb ho0 hk0 ho1 hk1 ho2 hk2 hd10 hd20 hd21
  go_enter Tryd.func19, Tryd.ntmps19
  go_wp2_with (fail)
  go_loopw [19] (fun iv wr => ∃ i : Nat, iv = .int .i64 i ∧ i ≤ 3 ∧ Hid (wr.heap[w.heap.size]? = some (.map ((#[ME k0 v0 0, ME k1 v1 1, ME k2 v2 2] : Array MapEntry).extract 0 i) i) ∧ Below w.heap.size w wr)) (fun iv _ => 3 - (intOf iv).toNat)
  case atStart => exact ⟨0, rfl, Nat.zero_le _, heap_alloc_new w _, (Below.refl _ _).alloc (Nat.le_refl _) _⟩
  case round =>
    obtain ⟨i, rfl, hi, HM⟩ := hrel
    rcases (show i = 0 ∨ i = 1 ∨ i = 2 ∨ i = 3 by omega) with rfl | rfl | rfl | rfl
    · have hm : Hid (wr.heap[w.heap.size]? = some (.map #[] 0) ∧ Below w.heap.size w wr) := HM.out
      have hk := (below_cell hm.out.2 (a := ⟨kb, 0, none⟩) HN.out.1).trans HK0.out
      have c0 := (below_cell hm.out.2 (a := ⟨cb, 0, none⟩) HN.out.2).trans (HC.out 0 (by decide))
      have c1 := (below_cell hm.out.2 (a := ⟨cb, 1, none⟩) HN.out.2).trans (HC.out 1 (by decide))
      have c2 := (below_cell hm.out.2 (a := ⟨cb, 2, none⟩) HN.out.2).trans (HC.out 2 (by decide))
      have c3 := (below_cell hm.out.2 (a := ⟨cb, 3, none⟩) HN.out.2).trans (HC.out 3 (by decide))
      have c4 := (below_cell hm.out.2 (a := ⟨cb, 4, none⟩) HN.out.2).trans (HC.out 4 (by decide))
      have c5 := (below_cell hm.out.2 (a := ⟨cb, 5, none⟩) HN.out.2).trans (HC.out 5 (by decide))
      have c6 := (below_cell hm.out.2 (a := ⟨cb, 6, none⟩) HN.out.2).trans (HC.out 6 (by decide))
      clear HM
      go_wp2_with (first
        | (go_at_call 37; refine Calls.mono (by with_reducible exact HO0.out _) ?_; rintro e w2 ⟨rfl, hb2⟩
           have hs2 := hb2.size
           have h2 : w2.heap[w.heap.size]? = some (.map #[] 0) := (hb2.block _ (by have := (Array.getElem?_eq_some_iff.1 hm.out.1).1; omega)).trans hm.out.1
           have hup := run_upd w2 w.heap.size #[] 0 k0 v0 h2 HF0.out
           have H3 : Hid ((setMap w2 w.heap.size ((#[] : Array MapEntry).push { key := .string k0, val := v0, born := 0 }) (0 + 1)).heap[w.heap.size]? = some (.map #[ME k0 v0 0] 1) ∧ Below w.heap.size w (setMap w2 w.heap.size ((#[] : Array MapEntry).push { key := .string k0, val := v0, born := 0 }) (0 + 1))) :=
             ⟨setMap_heap _ _ (Array.getElem?_eq_some_iff.1 h2).1, setMap_below (hm.out.2.trans (hb2.mono hm.out.2.size)) (Nat.le_refl _) _ _⟩
           clear hb2 h2))
      go_roundw
      case rel => exact ⟨1, rfl, by omega, H3.out⟩
      case measure => simp [intOf]
    · have hm : Hid (wr.heap[w.heap.size]? = some (.map #[ME k0 v0 0] 1) ∧ Below w.heap.size w wr) := HM.out
      have hk := (below_cell hm.out.2 (a := ⟨kb, 1, none⟩) HN.out.1).trans HK1.out
      have c0 := (below_cell hm.out.2 (a := ⟨cb, 7, none⟩) HN.out.2).trans (HC.out 7 (by decide))
      have c1 := (below_cell hm.out.2 (a := ⟨cb, 8, none⟩) HN.out.2).trans (HC.out 8 (by decide))
      have c2 := (below_cell hm.out.2 (a := ⟨cb, 9, none⟩) HN.out.2).trans (HC.out 9 (by decide))
      have c3 := (below_cell hm.out.2 (a := ⟨cb, 10, none⟩) HN.out.2).trans (HC.out 10 (by decide))
      have c4 := (below_cell hm.out.2 (a := ⟨cb, 11, none⟩) HN.out.2).trans (HC.out 11 (by decide))
      have c5 := (below_cell hm.out.2 (a := ⟨cb, 12, none⟩) HN.out.2).trans (HC.out 12 (by decide))
      have c6 := (below_cell hm.out.2 (a := ⟨cb, 13, none⟩) HN.out.2).trans (HC.out 13 (by decide))
      clear HM
      go_wp2_with (first
        | (go_at_call 37; refine Calls.mono (by with_reducible exact HO1.out _) ?_; rintro e w2 ⟨rfl, hb2⟩
           have hs2 := hb2.size
           have h2 : w2.heap[w.heap.size]? = some (.map #[ME k0 v0 0] 1) := (hb2.block _ (by have := (Array.getElem?_eq_some_iff.1 hm.out.1).1; omega)).trans hm.out.1
           have hup := run_upd w2 w.heap.size #[ME k0 v0 0] 1 k1 v1 h2 HF1.out
           have H3 : Hid ((setMap w2 w.heap.size ((#[ME k0 v0 0] : Array MapEntry).push { key := .string k1, val := v1, born := 1 }) (1 + 1)).heap[w.heap.size]? = some (.map #[ME k0 v0 0, ME k1 v1 1] 2) ∧ Below w.heap.size w (setMap w2 w.heap.size ((#[ME k0 v0 0] : Array MapEntry).push { key := .string k1, val := v1, born := 1 }) (1 + 1))) :=
             ⟨setMap_heap _ _ (Array.getElem?_eq_some_iff.1 h2).1, setMap_below (hm.out.2.trans (hb2.mono hm.out.2.size)) (Nat.le_refl _) _ _⟩
           clear hb2 h2))
      go_roundw
      case rel => exact ⟨2, rfl, by omega, H3.out⟩
      case measure => simp [intOf]
    · have hm : Hid (wr.heap[w.heap.size]? = some (.map #[ME k0 v0 0, ME k1 v1 1] 2) ∧ Below w.heap.size w wr) := HM.out
      have hk := (below_cell hm.out.2 (a := ⟨kb, 2, none⟩) HN.out.1).trans HK2.out
      have c0 := (below_cell hm.out.2 (a := ⟨cb, 14, none⟩) HN.out.2).trans (HC.out 14 (by decide))
      have c1 := (below_cell hm.out.2 (a := ⟨cb, 15, none⟩) HN.out.2).trans (HC.out 15 (by decide))
      have c2 := (below_cell hm.out.2 (a := ⟨cb, 16, none⟩) HN.out.2).trans (HC.out 16 (by decide))
      have c3 := (below_cell hm.out.2 (a := ⟨cb, 17, none⟩) HN.out.2).trans (HC.out 17 (by decide))
      have c4 := (below_cell hm.out.2 (a := ⟨cb, 18, none⟩) HN.out.2).trans (HC.out 18 (by decide))
      have c5 := (below_cell hm.out.2 (a := ⟨cb, 19, none⟩) HN.out.2).trans (HC.out 19 (by decide))
      have c6 := (below_cell hm.out.2 (a := ⟨cb, 20, none⟩) HN.out.2).trans (HC.out 20 (by decide))
      clear HM
      go_wp2_with (first
        | (go_at_call 37; refine Calls.mono (by with_reducible exact HO2.out _) ?_; rintro e w2 ⟨rfl, hb2⟩
           have hs2 := hb2.size
           have h2 : w2.heap[w.heap.size]? = some (.map #[ME k0 v0 0, ME k1 v1 1] 2) := (hb2.block _ (by have := (Array.getElem?_eq_some_iff.1 hm.out.1).1; omega)).trans hm.out.1
           have hup := run_upd w2 w.heap.size #[ME k0 v0 0, ME k1 v1 1] 2 k2 v2 h2 HF2.out
           have H3 : Hid ((setMap w2 w.heap.size ((#[ME k0 v0 0, ME k1 v1 1] : Array MapEntry).push { key := .string k2, val := v2, born := 2 }) (2 + 1)).heap[w.heap.size]? = some (.map #[ME k0 v0 0, ME k1 v1 1, ME k2 v2 2] 3) ∧ Below w.heap.size w (setMap w2 w.heap.size ((#[ME k0 v0 0, ME k1 v1 1] : Array MapEntry).push { key := .string k2, val := v2, born := 2 }) (2 + 1))) :=
             ⟨setMap_heap _ _ (Array.getElem?_eq_some_iff.1 h2).1, setMap_below (hm.out.2.trans (hb2.mono hm.out.2.size)) (Nat.le_refl _) _ _⟩
           clear hb2 h2))
      go_roundw
      case rel => exact ⟨3, rfl, by omega, H3.out⟩
      case measure => simp [intOf]
    · have hm : Hid (wr.heap[w.heap.size]? = some (.map #[ME k0 v0 0, ME k1 v1 1, ME k2 v2 2] 3) ∧ Below w.heap.size w wr) := HM.out
      clear HM
      go_wp2
      go_ret2
      exact ⟨rfl, hm.out.1, hm.out.2⟩

set_option maxHeartbeats 4000000 in
set_option maxRecDepth 100000 in
theorem dict2 (k0 k1 : ByteArray) (v0 v1 : Value) (oc : Nat → Value) (kb cb kc cc : Nat) (w : World)
    (hk0 : w.cell? ⟨kb, 0, none⟩ = some (.string k0))     (hk1 : w.cell? ⟨kb, 1, none⟩ = some (.string k1)) 
    (hc : ∀ f, f < 14 → w.cell? ⟨cb, f, none⟩ = some (oc f))
    (ho0 : ∀ w', Calls Tryd.prog 37 #[.agg #[oc 0, oc 1, oc 2, oc 3, oc 4, oc 5, oc 6]] w' fun e w'' => e = .returned (.tuple #[v0, .bool true]) ∧ Below w'.heap.size w' w'')
    (ho1 : ∀ w', Calls Tryd.prog 37 #[.agg #[oc 7, oc 8, oc 9, oc 10, oc 11, oc 12, oc 13]] w' fun e w'' => e = .returned (.tuple #[v1, .bool true]) ∧ Below w'.heap.size w' w'')
    (hd10 : (k1 == k0) = false)  :
    Calls Tryd.prog 19 #[.slice (some ⟨kb, 0, none⟩) 2 kc, .slice (some ⟨cb, 0, none⟩) 2 cc] w fun e w' => e = .returned (.tuple #[.map (some w.heap.size), .bool true]) ∧ w'.heap[w.heap.size]? = some (.map #[ME k0 v0 0, ME k1 v1 1] 2) ∧ Below w.heap.size w w' := by
  have hkb : kb < w.heap.size := block_lt_of_cell hk0
  have hcb : cb < w.heap.size := block_lt_of_cell (hc 0 (by decide))
  have hmm := @run_makeMap Tryd.prog
  have HO0 : Hid (∀ w', Calls Tryd.prog 37 #[.agg #[oc 0, oc 1, oc 2, oc 3, oc 4, oc 5, oc 6]] w' fun e w'' => e = .returned (.tuple #[v0, .bool true]) ∧ Below w'.heap.size w' w'') := ho0
  have HO1 : Hid (∀ w', Calls Tryd.prog 37 #[.agg #[oc 7, oc 8, oc 9, oc 10, oc 11, oc 12, oc 13]] w' fun e w'' => e = .returned (.tuple #[v1, .bool true]) ∧ Below w'.heap.size w' w'') := ho1
  have HF0 : Hid (Instr.findNow .string (.string k0) (#[] : Array MapEntry).toList 0 = some none) := find_none _ _ (by simp)
  have HF1 : Hid (Instr.findNow .string (.string k1) (#[ME k0 v0 0] : Array MapEntry).toList 0 = some none) := find_none _ _ (by simp [ME, hd10])
  have HK0 : Hid (w.cell? ⟨kb, 0, none⟩ = some (.string k0)) := hk0
  have HK1 : Hid (w.cell? ⟨kb, 1, none⟩ = some (.string k1)) := hk1
  have HC : Hid (∀ f, f < 14 → w.cell? ⟨cb, f, none⟩ = some (oc f)) := hc
  have HN : Hid (kb < w.heap.size ∧ cb < w.heap.size) := ⟨hkb, hcb⟩
  clear hc hkb hcb ho0 hk0 ho1 hk1 hd10
  go_enter Tryd.func19, Tryd.ntmps19
  go_wp2_with (fail)
  go_loopw [19] (fun iv wr => ∃ i : Nat, iv = .int .i64 i ∧ i ≤ 2 ∧ Hid (wr.heap[w.heap.size]? = some (.map ((#[ME k0 v0 0, ME k1 v1 1] : Array MapEntry).extract 0 i) i) ∧ Below w.heap.size w wr)) (fun iv _ => 2 - (intOf iv).toNat)
  case atStart => exact ⟨0, rfl, Nat.zero_le _, heap_alloc_new w _, (Below.refl _ _).alloc (Nat.le_refl _) _⟩
  case round =>
    obtain ⟨i, rfl, hi, HM⟩ := hrel
    rcases (show i = 0 ∨ i = 1 ∨ i = 2 by omega) with rfl | rfl | rfl
    · have hm : Hid (wr.heap[w.heap.size]? = some (.map #[] 0) ∧ Below w.heap.size w wr) := HM.out
      have hk := (below_cell hm.out.2 (a := ⟨kb, 0, none⟩) HN.out.1).trans HK0.out
      have c0 := (below_cell hm.out.2 (a := ⟨cb, 0, none⟩) HN.out.2).trans (HC.out 0 (by decide))
      have c1 := (below_cell hm.out.2 (a := ⟨cb, 1, none⟩) HN.out.2).trans (HC.out 1 (by decide))
      have c2 := (below_cell hm.out.2 (a := ⟨cb, 2, none⟩) HN.out.2).trans (HC.out 2 (by decide))
      have c3 := (below_cell hm.out.2 (a := ⟨cb, 3, none⟩) HN.out.2).trans (HC.out 3 (by decide))
      have c4 := (below_cell hm.out.2 (a := ⟨cb, 4, none⟩) HN.out.2).trans (HC.out 4 (by decide))
      have c5 := (below_cell hm.out.2 (a := ⟨cb, 5, none⟩) HN.out.2).trans (HC.out 5 (by decide))
      have c6 := (below_cell hm.out.2 (a := ⟨cb, 6, none⟩) HN.out.2).trans (HC.out 6 (by decide))
      clear HM
      go_wp2_with (first
        | (go_at_call 37; refine Calls.mono (by with_reducible exact HO0.out _) ?_; rintro e w2 ⟨rfl, hb2⟩
           have hs2 := hb2.size
           have h2 : w2.heap[w.heap.size]? = some (.map #[] 0) := (hb2.block _ (by have := (Array.getElem?_eq_some_iff.1 hm.out.1).1; omega)).trans hm.out.1
           have hup := run_upd w2 w.heap.size #[] 0 k0 v0 h2 HF0.out
           have H3 : Hid ((setMap w2 w.heap.size ((#[] : Array MapEntry).push { key := .string k0, val := v0, born := 0 }) (0 + 1)).heap[w.heap.size]? = some (.map #[ME k0 v0 0] 1) ∧ Below w.heap.size w (setMap w2 w.heap.size ((#[] : Array MapEntry).push { key := .string k0, val := v0, born := 0 }) (0 + 1))) :=
             ⟨setMap_heap _ _ (Array.getElem?_eq_some_iff.1 h2).1, setMap_below (hm.out.2.trans (hb2.mono hm.out.2.size)) (Nat.le_refl _) _ _⟩
           clear hb2 h2))
      go_roundw
      case rel => exact ⟨1, rfl, by omega, H3.out⟩
      case measure => simp [intOf]
    · have hm : Hid (wr.heap[w.heap.size]? = some (.map #[ME k0 v0 0] 1) ∧ Below w.heap.size w wr) := HM.out
      have hk := (below_cell hm.out.2 (a := ⟨kb, 1, none⟩) HN.out.1).trans HK1.out
      have c0 := (below_cell hm.out.2 (a := ⟨cb, 7, none⟩) HN.out.2).trans (HC.out 7 (by decide))
      have c1 := (below_cell hm.out.2 (a := ⟨cb, 8, none⟩) HN.out.2).trans (HC.out 8 (by decide))
      have c2 := (below_cell hm.out.2 (a := ⟨cb, 9, none⟩) HN.out.2).trans (HC.out 9 (by decide))
      have c3 := (below_cell hm.out.2 (a := ⟨cb, 10, none⟩) HN.out.2).trans (HC.out 10 (by decide))
      have c4 := (below_cell hm.out.2 (a := ⟨cb, 11, none⟩) HN.out.2).trans (HC.out 11 (by decide))
      have c5 := (below_cell hm.out.2 (a := ⟨cb, 12, none⟩) HN.out.2).trans (HC.out 12 (by decide))
      have c6 := (below_cell hm.out.2 (a := ⟨cb, 13, none⟩) HN.out.2).trans (HC.out 13 (by decide))
      clear HM
      go_wp2_with (first
        | (go_at_call 37; refine Calls.mono (by with_reducible exact HO1.out _) ?_; rintro e w2 ⟨rfl, hb2⟩
           have hs2 := hb2.size
           have h2 : w2.heap[w.heap.size]? = some (.map #[ME k0 v0 0] 1) := (hb2.block _ (by have := (Array.getElem?_eq_some_iff.1 hm.out.1).1; omega)).trans hm.out.1
           have hup := run_upd w2 w.heap.size #[ME k0 v0 0] 1 k1 v1 h2 HF1.out
           have H3 : Hid ((setMap w2 w.heap.size ((#[ME k0 v0 0] : Array MapEntry).push { key := .string k1, val := v1, born := 1 }) (1 + 1)).heap[w.heap.size]? = some (.map #[ME k0 v0 0, ME k1 v1 1] 2) ∧ Below w.heap.size w (setMap w2 w.heap.size ((#[ME k0 v0 0] : Array MapEntry).push { key := .string k1, val := v1, born := 1 }) (1 + 1))) :=
             ⟨setMap_heap _ _ (Array.getElem?_eq_some_iff.1 h2).1, setMap_below (hm.out.2.trans (hb2.mono hm.out.2.size)) (Nat.le_refl _) _ _⟩
           clear hb2 h2))
      go_roundw
      case rel => exact ⟨2, rfl, by omega, H3.out⟩
      case measure => simp [intOf]
    · have hm : Hid (wr.heap[w.heap.size]? = some (.map #[ME k0 v0 0, ME k1 v1 1] 2) ∧ Below w.heap.size w wr) := HM.out
      clear HM
      go_wp2
      go_ret2
      exact ⟨rfl, hm.out.1, hm.out.2⟩

end Go.Proofs.YtnpedhdonfdbmaaDoor
