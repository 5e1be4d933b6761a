/- What the reader of an object stream's dictionary answers. Conditions: First and N are there and within the limits. -/
import Derived.Test.YtnpedhdonfdbmaaDoorOC
namespace Go.Proofs.YtnpedhdonfdbmaaDoor
open Go.ChangeShapes Go.WideShapes Go.ChangeAt Go.RowKit Go.Sort

theorem below_al {w W : World} (b : Below w.heap.size w W) (o : Obj) : Below w.heap.size w (W.alloc o) := b.alloc b.size o
theorem below_dr {w W : World} (b : Below w.heap.size w W) : Below w.heap.size w W.drew := below_drewN b 1

theorem wpAnyH_imp {P : Program} {md : Region.Mode} {ops : Array Oper} {Q : Exit → Act → World → Prop} {S S' : World → Prop} (h : ∀ w, S' w → S w) : ∀ (fuel : Nat) (listed : Array Bool) (a : Act) (w : World), wpAnyH P md ops Q S' fuel listed a w → wpAnyH P md ops Q S fuel listed a w
  | 0, _, _, _, k => k
  | fuel + 1, _, _, _, k => ⟨k.1, fun i hi => wpOp_mono (fun a' w' h' => ⟨h _ h'.1, wpAnyH_imp h fuel _ a' w' h'.2⟩) (k.2 i hi)⟩

theorem wpAnyH_grow {P : Program} {md : Region.Mode} {ops : Array Oper} {Q : Exit → Act → World → Prop} {S S' : World → Prop} (h : ∀ w, S' w → S w) {fuel : Nat} {listed : Array Bool} {a : Act} {w : World} (hS : S' w) (k : S' w → wpAnyH P md ops Q S' fuel listed a w) : wpAnyH P md ops Q S fuel listed a w :=
  wpAnyH_imp h _ _ _ _ (k hS)

/-- A new block that holds an object stream's dictionary with these numbers. -/
def OsdQ (w : World) (n f : Int) (e : Ending) (w' : World) : Prop :=
  ∃ o, e = .returned (.tuple #[.pointer (some ⟨o, 0, none⟩), .nilIface]) ∧ w.heap.size ≤ o ∧ o < w'.heap.size ∧ w'.cell? ⟨o, 9, none⟩ = some (.slice none 0 0) ∧ w'.cell? ⟨o, 10, none⟩ = some (.int .i64 n) ∧ w'.cell? ⟨o, 11, none⟩ = some (.int .i64 f) ∧ Below w.heap.size w w'

set_option maxHeartbeats 4000000 in
set_option maxRecDepth 100000 in
theorem osd_any (w : World) (B S : Nat) (es : Array MapEntry) (c i j : Nat) (n f : Int) (cp : Option Addr) (cn cc : Nat) (hb : w.heap[B]? = some (.map es c))
    (hf : Instr.findNow .string (.string ⟨#[70, 105, 114, 115, 116]⟩) es.toList 0 = some (some (i, .iface 107 (.int .i64 f))))
    (hn : Instr.findNow .string (.string ⟨#[78]⟩) es.toList 0 = some (some (j, .iface 107 (.int .i64 n))))
    (h0 : w.cell? ⟨S, 0, none⟩ = some (.map (some B))) (h1 : w.cell? ⟨S, 1, none⟩ = some (.int .i64 0)) (h2 : w.cell? ⟨S, 2, none⟩ = some (.pointer none)) (h3 : w.cell? ⟨S, 3, none⟩ = some (.pointer none))
    (h4 : w.cell? ⟨S, 4, none⟩ = some (.slice none 0 0)) (h5 : w.cell? ⟨S, 5, none⟩ = some (.slice none 0 0)) (h6 : w.cell? ⟨S, 6, none⟩ = some (.slice cp cn cc)) (h7 : w.cell? ⟨S, 7, none⟩ = some (.bool false)) (h8 : w.cell? ⟨S, 8, none⟩ = some (.int .i64 0))
    (n1 : 1 ≤ n) (n2 : n ≤ 1000) (f1 : 0 ≤ f) (f2 : f ≤ 4096) :
    Calls Tryd.prog 35 #[.pointer (some ⟨S, 0, none⟩), .agg #[.int .i64 536870912, .int .i64 536870912, .int .i64 104857600, .int .i64 536870912, .int .i64 65536, .int .i64 65536, .int .i64 16777216, .int .i64 65536, .int .i64 100]] w (OsdQ w n f) := by
  have lB : B < w.heap.size := (Array.getElem?_eq_some_iff.1 hb).1
  have lS : S < w.heap.size := block_lt_of_cell h0
  have HF : Hid (∀ w', Below w.heap.size w w' → Calls Tryd.prog 51 #[.map (some B)] w' fun e w'' => e = .returned (.pointer (some ⟨w'.heap.size, 0, none⟩)) ∧ w'.alloc (.cells #[.int .i64 f] 3) = w'') := fun w' b => first_any w' B es c i f ((b.block B lB).trans hb) hf
  have HN : Hid (∀ w', Below w.heap.size w w' → Calls Tryd.prog 52 #[.map (some B)] w' fun e w'' => e = .returned (.pointer (some ⟨w'.heap.size, 0, none⟩)) ∧ w'.alloc (.cells #[.int .i64 n] 3) = w'') := fun w' b => n_any w' B es c j n ((b.block B lB).trans hb) hn
  have d1 : decide (n ≤ 0) = false := by simp; omega
  have d2 : decide (65536 < n) = false := by simp; omega
  have d3 : decide (f < 0) = false := by simp; omega
  have d4 : decide (16777216 < f) = false := by simp; omega
  clear hb hf hn n1 n2 f1 f2 lB
  go_enter Tryd.func35, Tryd.ntmps35
  go_wp2_with (first
    | (go_at_call 51; refine Calls.mono (by with_reducible exact HF.out _ ((Below.refl _ _).alloc (Nat.le_refl _) _)) ?_; rintro e w1 ⟨rfl, rfl⟩)
    | (go_at_call 52; refine Calls.mono (by with_reducible exact HN.out _ (((Below.refl _ _).alloc (Nat.le_refl _) _).alloc (by simp) _)) ?_; rintro e w1 ⟨rfl, rfl⟩))
  have HW : Hid (Below w.heap.size w (((w.alloc (.cells #[.int .i64 536870912, .int .i64 536870912, .int .i64 104857600, .int .i64 536870912, .int .i64 65536, .int .i64 65536, .int .i64 16777216, .int .i64 65536, .int .i64 100] 101)).alloc (.cells #[.int .i64 f] 3)).alloc (.cells #[.int .i64 n] 3))) := below_al (below_al (below_al (Below.refl _ _) _) _) _
  have hcW := below_cells HW.out
  have k0 := (hcW S 0 lS).trans h0
  have k1 := (hcW S 1 lS).trans h1
  have k2 := (hcW S 2 lS).trans h2
  have k3 := (hcW S 3 lS).trans h3
  have k4 := (hcW S 4 lS).trans h4
  have k5 := (hcW S 5 lS).trans h5
  have k6 := (hcW S 6 lS).trans h6
  have k7 := (hcW S 7 lS).trans h7
  have k8 := (hcW S 8 lS).trans h8
  have m1 : (((w.alloc (.cells #[.int .i64 536870912, .int .i64 536870912, .int .i64 104857600, .int .i64 536870912, .int .i64 65536, .int .i64 65536, .int .i64 16777216, .int .i64 65536, .int .i64 100] 101)).alloc (.cells #[.int .i64 f] 3)).alloc (.cells #[.int .i64 n] 3)).cell? ⟨w.heap.size, 1, none⟩ = some (.int .i64 536870912) := by go_simp
  have m5 : (((w.alloc (.cells #[.int .i64 536870912, .int .i64 536870912, .int .i64 104857600, .int .i64 536870912, .int .i64 65536, .int .i64 65536, .int .i64 16777216, .int .i64 65536, .int .i64 100] 101)).alloc (.cells #[.int .i64 f] 3)).alloc (.cells #[.int .i64 n] 3)).cell? ⟨w.heap.size, 5, none⟩ = some (.int .i64 65536) := by go_simp
  have m6 : (((w.alloc (.cells #[.int .i64 536870912, .int .i64 536870912, .int .i64 104857600, .int .i64 536870912, .int .i64 65536, .int .i64 65536, .int .i64 16777216, .int .i64 65536, .int .i64 100] 101)).alloc (.cells #[.int .i64 f] 3)).alloc (.cells #[.int .i64 n] 3)).cell? ⟨w.heap.size, 6, none⟩ = some (.int .i64 16777216) := by go_simp
  clear hcW h0 h1 h2 h3 h4 h5 h6 h7 h8
  generalize ((w.alloc (.cells #[.int .i64 536870912, .int .i64 536870912, .int .i64 104857600, .int .i64 536870912, .int .i64 65536, .int .i64 65536, .int .i64 16777216, .int .i64 65536, .int .i64 100] 101)).alloc (.cells #[.int .i64 f] 3)).alloc (.cells #[.int .i64 n] 3) = W at *
  have lSW : S < W.heap.size := block_lt_of_cell k0
  have lLW : w.heap.size < W.heap.size := block_lt_of_cell m5
  refine wp_region_held_drew (S := fun w' => w'.cell? ⟨S, 0, none⟩ = some (.map (some B)) ∧ w'.cell? ⟨w.heap.size, 5, none⟩ = some (.int .i64 65536)) (by kernel_rfl) ?_ (fun hHeld => ?_)
  · go_keep
  refine wpAnyH_take (i := 0) (oi := ⟨some 21, _, _, _, _, _⟩) (v := ?_) rfl (by kernel_rfl) (by kernel_rfl) (by kernel_rfl) (fun _ _ _ h => h) (Or.inl ⟨by rfl, ?_⟩) (by assumption) ?_
  rotate_left
  · intro w' hSw; (try dsimp only at hSw); go_simp
    try with_reducible rfl
  try simp only [Act.put, List.setIfInBounds_toArray, List.set_cons_zero, List.set_cons_succ]
  refine wpAnyH_take (i := 1) (oi := ⟨some 22, _, _, _, _, _⟩) (v := ?_) rfl (by kernel_rfl) (by kernel_rfl) (by kernel_rfl) (fun _ _ _ h => h) (Or.inl ⟨by rfl, ?_⟩) (by assumption) ?_
  rotate_left
  · intro w' hSw; (try dsimp only at hSw); go_simp
    try with_reducible rfl
  try simp only [Act.put, List.setIfInBounds_toArray, List.set_cons_zero, List.set_cons_succ]
  refine wpAnyH_take (i := 2) (oi := ⟨some 23, _, _, _, _, _⟩) (v := ?_) rfl (by kernel_rfl) (by kernel_rfl) (by kernel_rfl) (fun _ _ _ h => h) (Or.inl ⟨by rfl, ?_⟩) (by assumption) ?_
  rotate_left
  · intro w' hSw; (try dsimp only at hSw); go_simp
    try with_reducible rfl
  try simp only [Act.put, List.setIfInBounds_toArray, List.set_cons_zero, List.set_cons_succ]
  refine wpAnyH_take (i := 3) (oi := ⟨some 24, _, _, _, _, _⟩) (v := ?_) rfl (by kernel_rfl) (by kernel_rfl) (by kernel_rfl) (fun _ _ _ h => h) (Or.inl ⟨by rfl, ?_⟩) (by assumption) ?_
  rotate_left
  · intro w' hSw; (try dsimp only at hSw); go_simp
    try with_reducible rfl
  try simp only [Act.put, List.setIfInBounds_toArray, List.set_cons_zero, List.set_cons_succ]
  refine wpAnyH_ready (rs := [4]) (by kernel_rfl) (by simp) ?_
  refine AllReadyH.cons (o := ⟨some 25, _, _, _, _, _⟩) rfl (fun K hK => ?_) AllReadyH.nil
  go_simp
  (go_at_call 52; refine Calls.mono (by with_reducible exact HN.out _ (by repeat (first | exact HW.out | refine below_dr ?_ | refine below_al ?_ _))) ?_; rintro e w1 ⟨rfl, rfl⟩)
  go_wp2_with (fail)
  refine hK.out _ _ ?_ (fun hHeld => ?_)
  · first | (go_keep; done) | ((repeat' apply And.intro) <;> first | (go_simp; done) | exact (below_cells (w := W3) (by repeat (first | exact Below.refl _ _ | refine below_dr ?_ | refine below_al ?_ _)) _ _ (by assumption)).trans (by assumption))
  clear hK K
  try simp only [Act.put, List.setIfInBounds_toArray, List.set_cons_zero, List.set_cons_succ]
  refine wpAnyH_grow (S' := fun w' => w'.cell? ⟨S, 0, none⟩ = some (.map (some B)) ∧ w'.cell? ⟨w.heap.size, 5, none⟩ = some (.int .i64 65536) ∧ w'.cell? ⟨W.heap.size, 0, none⟩ = some (.int .i64 n)) (fun _ h => ⟨h.1, h.2.1⟩) ?_ (fun hHeld => ?_)
  · first | (go_keep; done) | ((repeat' apply And.intro) <;> first | (go_simp; done) | exact (below_cells (w := W3) (by repeat (first | exact Below.refl _ _ | refine below_dr ?_ | refine below_al ?_ _)) _ _ (by assumption)).trans (by assumption))
  refine wpAnyH_take (i := 5) (oi := ⟨some 26, _, _, _, _, _⟩) (v := ?_) rfl (by kernel_rfl) (by kernel_rfl) (by kernel_rfl) (fun _ _ _ h => h) (Or.inl ⟨by rfl, ?_⟩) (by assumption) ?_
  rotate_left
  · intro w' hSw; (try dsimp only at hSw); go_simp
    try with_reducible rfl
  try simp only [Act.put, List.setIfInBounds_toArray, List.set_cons_zero, List.set_cons_succ]
  refine wpAnyH_take (i := 6) (oi := ⟨some 27, _, _, _, _, _⟩) (v := ?_) rfl (by kernel_rfl) (by kernel_rfl) (by kernel_rfl) (fun _ _ _ h => h) (Or.inl ⟨by rfl, ?_⟩) (by assumption) ?_
  rotate_left
  · intro w' hSw; (try dsimp only at hSw); go_simp
    try with_reducible rfl
  try simp only [Act.put, List.setIfInBounds_toArray, List.set_cons_zero, List.set_cons_succ]
  refine wpAnyH_take (i := 7) (oi := ⟨some 28, _, _, _, _, _⟩) (v := ?_) rfl (by kernel_rfl) (by kernel_rfl) (by kernel_rfl) (fun _ _ _ h => h) (Or.inl ⟨by rfl, ?_⟩) (by assumption) ?_
  rotate_left
  · intro w' hSw; (try dsimp only at hSw); go_simp
    try with_reducible rfl
  try simp only [Act.put, List.setIfInBounds_toArray, List.set_cons_zero, List.set_cons_succ]
  refine wpAnyH_take (i := 8) (oi := ⟨some 29, _, _, _, _, _⟩) (v := ?_) rfl (by kernel_rfl) (by kernel_rfl) (by kernel_rfl) (fun _ _ _ h => h) (Or.inl ⟨by rfl, ?_⟩) (by assumption) ?_
  rotate_left
  · intro w' hSw; (try dsimp only at hSw); go_simp
    try with_reducible rfl
  try simp only [Act.put, List.setIfInBounds_toArray, List.set_cons_zero, List.set_cons_succ]
  refine wpAnyH_take (i := 9) (oi := ⟨some 30, _, _, _, _, _⟩) (v := ?_) rfl (by kernel_rfl) (by kernel_rfl) (by kernel_rfl) (fun _ _ _ h => h) (Or.inl ⟨by rfl, ?_⟩) (by assumption) ?_
  rotate_left
  · intro w' hSw; (try dsimp only at hSw); go_simp
    try with_reducible rfl
  try simp only [Act.put, List.setIfInBounds_toArray, List.set_cons_zero, List.set_cons_succ]
  refine wpAnyH_take (i := 10) (oi := ⟨some 31, _, _, _, _, _⟩) (v := ?_) rfl (by kernel_rfl) (by kernel_rfl) (by kernel_rfl) (fun _ _ _ h => h) (Or.inl ⟨by rfl, ?_⟩) (by assumption) ?_
  rotate_left
  · intro w' hSw; (try dsimp only at hSw); go_simp
    try with_reducible rfl
  try simp only [Act.put, List.setIfInBounds_toArray, List.set_cons_zero, List.set_cons_succ]
  refine wpAnyH_take (i := 11) (oi := ⟨some 32, _, _, _, _, _⟩) (v := ?_) rfl (by kernel_rfl) (by kernel_rfl) (by kernel_rfl) (fun _ _ _ h => h) (Or.inl ⟨by rfl, ?_⟩) (by assumption) ?_
  rotate_left
  · intro w' hSw; (try dsimp only at hSw); go_simp
    try with_reducible rfl
  try simp only [Act.put, List.setIfInBounds_toArray, List.set_cons_zero, List.set_cons_succ]
  refine wpAnyH_take (i := 12) (oi := ⟨some 33, _, _, _, _, _⟩) (v := ?_) rfl (by kernel_rfl) (by kernel_rfl) (by kernel_rfl) (fun _ _ _ h => h) (Or.inl ⟨by rfl, ?_⟩) (by assumption) ?_
  rotate_left
  · intro w' hSw; (try dsimp only at hSw); go_simp
    try with_reducible rfl
  try simp only [Act.put, List.setIfInBounds_toArray, List.set_cons_zero, List.set_cons_succ]
  refine wpAnyH_take (i := 16) (oi := ⟨some 37, _, _, _, _, _⟩) (v := ?_) rfl (by kernel_rfl) (by kernel_rfl) (by kernel_rfl) (fun _ _ _ h => h) (Or.inl ⟨by rfl, ?_⟩) (by assumption) ?_
  rotate_left
  · intro w' hSw; (try dsimp only at hSw); go_simp
    try with_reducible rfl
  try simp only [Act.put, List.setIfInBounds_toArray, List.set_cons_zero, List.set_cons_succ]
  refine wpAnyH_take (i := 17) (oi := ⟨some 38, _, _, _, _, _⟩) (v := ?_) rfl (by kernel_rfl) (by kernel_rfl) (by kernel_rfl) (fun _ _ _ h => h) (Or.inl ⟨by rfl, ?_⟩) (by assumption) ?_
  rotate_left
  · intro w' hSw; (try dsimp only at hSw); go_simp
    try with_reducible rfl
  try simp only [Act.put, List.setIfInBounds_toArray, List.set_cons_zero, List.set_cons_succ]
  refine wpAnyH_ready (rs := [13]) (by kernel_rfl) (by simp) ?_
  refine AllReadyH.cons (o := ⟨some 34, _, _, _, _, _⟩) rfl (fun K hK => ?_) AllReadyH.nil
  go_simp
  (go_at_call 52; refine Calls.mono (by with_reducible exact HN.out _ (by repeat (first | exact HW.out | refine below_dr ?_ | refine below_al ?_ _))) ?_; rintro e w1 ⟨rfl, rfl⟩)
  go_wp2_with (fail)
  refine hK.out _ _ ?_ (fun hHeld => ?_)
  · first | (go_keep; done) | ((repeat' apply And.intro) <;> first | (go_simp; done) | exact (below_cells (w := W3) (by repeat (first | exact Below.refl _ _ | refine below_dr ?_ | refine below_al ?_ _)) _ _ (by assumption)).trans (by assumption))
  clear hK K
  try simp only [Act.put, List.setIfInBounds_toArray, List.set_cons_zero, List.set_cons_succ]
  refine wpAnyH_grow (S' := fun w' => w'.cell? ⟨S, 0, none⟩ = some (.map (some B)) ∧ w'.cell? ⟨w.heap.size, 5, none⟩ = some (.int .i64 65536) ∧ w'.cell? ⟨W.heap.size, 0, none⟩ = some (.int .i64 n) ∧ w'.cell? ⟨W.heap.size + 1, 0, none⟩ = some (.int .i64 n)) (fun _ h => ⟨h.1, h.2.1, h.2.2.1⟩) ?_ (fun hHeld => ?_)
  · first | (go_keep; done) | ((repeat' apply And.intro) <;> first | (go_simp; done) | exact (below_cells (w := W3) (by repeat (first | exact Below.refl _ _ | refine below_dr ?_ | refine below_al ?_ _)) _ _ (by assumption)).trans (by assumption))
  refine wpAnyH_take (i := 14) (oi := ⟨some 35, _, _, _, _, _⟩) (v := ?_) rfl (by kernel_rfl) (by kernel_rfl) (by kernel_rfl) (fun _ _ _ h => h) (Or.inl ⟨by rfl, ?_⟩) (by assumption) ?_
  rotate_left
  · intro w' hSw; (try dsimp only at hSw); go_simp
    try with_reducible rfl
  try simp only [Act.put, List.setIfInBounds_toArray, List.set_cons_zero, List.set_cons_succ]
  refine wpAnyH_take (i := 15) (oi := ⟨some 36, _, _, _, _, _⟩) (v := ?_) rfl (by kernel_rfl) (by kernel_rfl) (by kernel_rfl) (fun _ _ _ h => h) (Or.inl ⟨by rfl, ?_⟩) (by assumption) ?_
  rotate_left
  · intro w' hSw; (try dsimp only at hSw); go_simp
    try with_reducible rfl
  try simp only [Act.put, List.setIfInBounds_toArray, List.set_cons_zero, List.set_cons_succ]
  refine wpAnyH_take (i := 18) (oi := ⟨some 39, _, _, _, _, _⟩) (v := ?_) rfl (by kernel_rfl) (by kernel_rfl) (by kernel_rfl) (fun _ _ _ h => h) (Or.inl ⟨by rfl, ?_⟩) (by assumption) ?_
  rotate_left
  · intro w' hSw; (try dsimp only at hSw); go_simp
    try with_reducible rfl
  try simp only [Act.put, List.setIfInBounds_toArray, List.set_cons_zero, List.set_cons_succ]
  refine wpAnyH_take (i := 19) (oi := ⟨some 40, _, _, _, _, _⟩) (v := ?_) rfl (by kernel_rfl) (by kernel_rfl) (by kernel_rfl) (fun _ _ _ h => h) (Or.inl ⟨by rfl, ?_⟩) (by assumption) ?_
  rotate_left
  · intro w' hSw; (try dsimp only at hSw); go_simp
    try with_reducible rfl
  try simp only [Act.put, List.setIfInBounds_toArray, List.set_cons_zero, List.set_cons_succ]
  refine wpAnyH_done (by kernel_rfl) ?_ _
  go_wp2_with (fail)
  have b2 : Below W.heap.size W (((W.alloc (.cells #[.int .i64 n] 3)).alloc (.cells #[.int .i64 n] 3)).drew) := by repeat (first | exact Below.refl _ _ | refine below_dr ?_ | refine below_al ?_ _)
  have HW2 : Hid (Below w.heap.size w (((W.alloc (.cells #[.int .i64 n] 3)).alloc (.cells #[.int .i64 n] 3)).drew)) := HW.out.trans (b2.mono HW.out.size)
  replace k0 := (below_cells b2 S 0 lSW).trans k0
  replace k1 := (below_cells b2 S 1 lSW).trans k1
  replace k2 := (below_cells b2 S 2 lSW).trans k2
  replace k3 := (below_cells b2 S 3 lSW).trans k3
  replace k4 := (below_cells b2 S 4 lSW).trans k4
  replace k5 := (below_cells b2 S 5 lSW).trans k5
  replace k6 := (below_cells b2 S 6 lSW).trans k6
  replace k7 := (below_cells b2 S 7 lSW).trans k7
  replace k8 := (below_cells b2 S 8 lSW).trans k8
  replace m1 := (below_cells b2 _ 1 lLW).trans m1
  replace m5 := (below_cells b2 _ 5 lLW).trans m5
  replace m6 := (below_cells b2 _ 6 lLW).trans m6
  replace lSW := Nat.lt_of_lt_of_le lSW b2.size
  replace lLW := Nat.lt_of_lt_of_le lLW b2.size
  clear b2
  generalize (((W.alloc (.cells #[.int .i64 n] 3)).alloc (.cells #[.int .i64 n] 3)).drew) = W2 at *
  refine wp_region_held_drew (S := fun w' => w'.cell? ⟨S, 0, none⟩ = some (.map (some B)) ∧ w'.cell? ⟨w.heap.size, 6, none⟩ = some (.int .i64 16777216)) (by kernel_rfl) ?_ (fun hHeld => ?_)
  · go_keep
  refine wpAnyH_take (i := 0) (oi := ⟨some 42, _, _, _, _, _⟩) (v := ?_) rfl (by kernel_rfl) (by kernel_rfl) (by kernel_rfl) (fun _ _ _ h => h) (Or.inl ⟨by rfl, ?_⟩) (by assumption) ?_
  rotate_left
  · intro w' hSw; (try dsimp only at hSw); go_simp
    try with_reducible rfl
  try simp only [Act.put, List.setIfInBounds_toArray, List.set_cons_zero, List.set_cons_succ]
  refine wpAnyH_take (i := 1) (oi := ⟨some 43, _, _, _, _, _⟩) (v := ?_) rfl (by kernel_rfl) (by kernel_rfl) (by kernel_rfl) (fun _ _ _ h => h) (Or.inl ⟨by rfl, ?_⟩) (by assumption) ?_
  rotate_left
  · intro w' hSw; (try dsimp only at hSw); go_simp
    try with_reducible rfl
  try simp only [Act.put, List.setIfInBounds_toArray, List.set_cons_zero, List.set_cons_succ]
  refine wpAnyH_take (i := 2) (oi := ⟨some 44, _, _, _, _, _⟩) (v := ?_) rfl (by kernel_rfl) (by kernel_rfl) (by kernel_rfl) (fun _ _ _ h => h) (Or.inl ⟨by rfl, ?_⟩) (by assumption) ?_
  rotate_left
  · intro w' hSw; (try dsimp only at hSw); go_simp
    try with_reducible rfl
  try simp only [Act.put, List.setIfInBounds_toArray, List.set_cons_zero, List.set_cons_succ]
  refine wpAnyH_take (i := 3) (oi := ⟨some 45, _, _, _, _, _⟩) (v := ?_) rfl (by kernel_rfl) (by kernel_rfl) (by kernel_rfl) (fun _ _ _ h => h) (Or.inl ⟨by rfl, ?_⟩) (by assumption) ?_
  rotate_left
  · intro w' hSw; (try dsimp only at hSw); go_simp
    try with_reducible rfl
  try simp only [Act.put, List.setIfInBounds_toArray, List.set_cons_zero, List.set_cons_succ]
  refine wpAnyH_ready (rs := [4]) (by kernel_rfl) (by simp) ?_
  refine AllReadyH.cons (o := ⟨some 46, _, _, _, _, _⟩) rfl (fun K hK => ?_) AllReadyH.nil
  go_simp
  (go_at_call 51; refine Calls.mono (by with_reducible exact HF.out _ (by repeat (first | exact HW2.out | refine below_dr ?_ | refine below_al ?_ _))) ?_; rintro e w1 ⟨rfl, rfl⟩)
  go_wp2_with (fail)
  refine hK.out _ _ ?_ (fun hHeld => ?_)
  · first | (go_keep; done) | ((repeat' apply And.intro) <;> first | (go_simp; done) | exact (below_cells (w := W3) (by repeat (first | exact Below.refl _ _ | refine below_dr ?_ | refine below_al ?_ _)) _ _ (by assumption)).trans (by assumption))
  clear hK K
  try simp only [Act.put, List.setIfInBounds_toArray, List.set_cons_zero, List.set_cons_succ]
  refine wpAnyH_grow (S' := fun w' => w'.cell? ⟨S, 0, none⟩ = some (.map (some B)) ∧ w'.cell? ⟨w.heap.size, 6, none⟩ = some (.int .i64 16777216) ∧ w'.cell? ⟨W2.heap.size, 0, none⟩ = some (.int .i64 f)) (fun _ h => ⟨h.1, h.2.1⟩) ?_ (fun hHeld => ?_)
  · first | (go_keep; done) | ((repeat' apply And.intro) <;> first | (go_simp; done) | exact (below_cells (w := W3) (by repeat (first | exact Below.refl _ _ | refine below_dr ?_ | refine below_al ?_ _)) _ _ (by assumption)).trans (by assumption))
  refine wpAnyH_take (i := 5) (oi := ⟨some 47, _, _, _, _, _⟩) (v := ?_) rfl (by kernel_rfl) (by kernel_rfl) (by kernel_rfl) (fun _ _ _ h => h) (Or.inl ⟨by rfl, ?_⟩) (by assumption) ?_
  rotate_left
  · intro w' hSw; (try dsimp only at hSw); go_simp
    try with_reducible rfl
  try simp only [Act.put, List.setIfInBounds_toArray, List.set_cons_zero, List.set_cons_succ]
  refine wpAnyH_take (i := 6) (oi := ⟨some 48, _, _, _, _, _⟩) (v := ?_) rfl (by kernel_rfl) (by kernel_rfl) (by kernel_rfl) (fun _ _ _ h => h) (Or.inl ⟨by rfl, ?_⟩) (by assumption) ?_
  rotate_left
  · intro w' hSw; (try dsimp only at hSw); go_simp
    try with_reducible rfl
  try simp only [Act.put, List.setIfInBounds_toArray, List.set_cons_zero, List.set_cons_succ]
  refine wpAnyH_take (i := 7) (oi := ⟨some 49, _, _, _, _, _⟩) (v := ?_) rfl (by kernel_rfl) (by kernel_rfl) (by kernel_rfl) (fun _ _ _ h => h) (Or.inl ⟨by rfl, ?_⟩) (by assumption) ?_
  rotate_left
  · intro w' hSw; (try dsimp only at hSw); go_simp
    try with_reducible rfl
  try simp only [Act.put, List.setIfInBounds_toArray, List.set_cons_zero, List.set_cons_succ]
  refine wpAnyH_take (i := 8) (oi := ⟨some 50, _, _, _, _, _⟩) (v := ?_) rfl (by kernel_rfl) (by kernel_rfl) (by kernel_rfl) (fun _ _ _ h => h) (Or.inl ⟨by rfl, ?_⟩) (by assumption) ?_
  rotate_left
  · intro w' hSw; (try dsimp only at hSw); go_simp
    try with_reducible rfl
  try simp only [Act.put, List.setIfInBounds_toArray, List.set_cons_zero, List.set_cons_succ]
  refine wpAnyH_take (i := 9) (oi := ⟨some 51, _, _, _, _, _⟩) (v := ?_) rfl (by kernel_rfl) (by kernel_rfl) (by kernel_rfl) (fun _ _ _ h => h) (Or.inl ⟨by rfl, ?_⟩) (by assumption) ?_
  rotate_left
  · intro w' hSw; (try dsimp only at hSw); go_simp
    try with_reducible rfl
  try simp only [Act.put, List.setIfInBounds_toArray, List.set_cons_zero, List.set_cons_succ]
  refine wpAnyH_take (i := 10) (oi := ⟨some 52, _, _, _, _, _⟩) (v := ?_) rfl (by kernel_rfl) (by kernel_rfl) (by kernel_rfl) (fun _ _ _ h => h) (Or.inl ⟨by rfl, ?_⟩) (by assumption) ?_
  rotate_left
  · intro w' hSw; (try dsimp only at hSw); go_simp
    try with_reducible rfl
  try simp only [Act.put, List.setIfInBounds_toArray, List.set_cons_zero, List.set_cons_succ]
  refine wpAnyH_take (i := 11) (oi := ⟨some 53, _, _, _, _, _⟩) (v := ?_) rfl (by kernel_rfl) (by kernel_rfl) (by kernel_rfl) (fun _ _ _ h => h) (Or.inl ⟨by rfl, ?_⟩) (by assumption) ?_
  rotate_left
  · intro w' hSw; (try dsimp only at hSw); go_simp
    try with_reducible rfl
  try simp only [Act.put, List.setIfInBounds_toArray, List.set_cons_zero, List.set_cons_succ]
  refine wpAnyH_take (i := 12) (oi := ⟨some 54, _, _, _, _, _⟩) (v := ?_) rfl (by kernel_rfl) (by kernel_rfl) (by kernel_rfl) (fun _ _ _ h => h) (Or.inl ⟨by rfl, ?_⟩) (by assumption) ?_
  rotate_left
  · intro w' hSw; (try dsimp only at hSw); go_simp
    try with_reducible rfl
  try simp only [Act.put, List.setIfInBounds_toArray, List.set_cons_zero, List.set_cons_succ]
  refine wpAnyH_take (i := 16) (oi := ⟨some 58, _, _, _, _, _⟩) (v := ?_) rfl (by kernel_rfl) (by kernel_rfl) (by kernel_rfl) (fun _ _ _ h => h) (Or.inl ⟨by rfl, ?_⟩) (by assumption) ?_
  rotate_left
  · intro w' hSw; (try dsimp only at hSw); go_simp
    try with_reducible rfl
  try simp only [Act.put, List.setIfInBounds_toArray, List.set_cons_zero, List.set_cons_succ]
  refine wpAnyH_take (i := 17) (oi := ⟨some 59, _, _, _, _, _⟩) (v := ?_) rfl (by kernel_rfl) (by kernel_rfl) (by kernel_rfl) (fun _ _ _ h => h) (Or.inl ⟨by rfl, ?_⟩) (by assumption) ?_
  rotate_left
  · intro w' hSw; (try dsimp only at hSw); go_simp
    try with_reducible rfl
  try simp only [Act.put, List.setIfInBounds_toArray, List.set_cons_zero, List.set_cons_succ]
  refine wpAnyH_ready (rs := [13]) (by kernel_rfl) (by simp) ?_
  refine AllReadyH.cons (o := ⟨some 55, _, _, _, _, _⟩) rfl (fun K hK => ?_) AllReadyH.nil
  go_simp
  (go_at_call 51; refine Calls.mono (by with_reducible exact HF.out _ (by repeat (first | exact HW2.out | refine below_dr ?_ | refine below_al ?_ _))) ?_; rintro e w1 ⟨rfl, rfl⟩)
  go_wp2_with (fail)
  refine hK.out _ _ ?_ (fun hHeld => ?_)
  · first | (go_keep; done) | ((repeat' apply And.intro) <;> first | (go_simp; done) | exact (below_cells (w := W3) (by repeat (first | exact Below.refl _ _ | refine below_dr ?_ | refine below_al ?_ _)) _ _ (by assumption)).trans (by assumption))
  clear hK K
  try simp only [Act.put, List.setIfInBounds_toArray, List.set_cons_zero, List.set_cons_succ]
  refine wpAnyH_grow (S' := fun w' => w'.cell? ⟨S, 0, none⟩ = some (.map (some B)) ∧ w'.cell? ⟨w.heap.size, 6, none⟩ = some (.int .i64 16777216) ∧ w'.cell? ⟨W2.heap.size, 0, none⟩ = some (.int .i64 f) ∧ w'.cell? ⟨W2.heap.size + 1, 0, none⟩ = some (.int .i64 f)) (fun _ h => ⟨h.1, h.2.1, h.2.2.1⟩) ?_ (fun hHeld => ?_)
  · first | (go_keep; done) | ((repeat' apply And.intro) <;> first | (go_simp; done) | exact (below_cells (w := W3) (by repeat (first | exact Below.refl _ _ | refine below_dr ?_ | refine below_al ?_ _)) _ _ (by assumption)).trans (by assumption))
  refine wpAnyH_take (i := 14) (oi := ⟨some 56, _, _, _, _, _⟩) (v := ?_) rfl (by kernel_rfl) (by kernel_rfl) (by kernel_rfl) (fun _ _ _ h => h) (Or.inl ⟨by rfl, ?_⟩) (by assumption) ?_
  rotate_left
  · intro w' hSw; (try dsimp only at hSw); go_simp
    try with_reducible rfl
  try simp only [Act.put, List.setIfInBounds_toArray, List.set_cons_zero, List.set_cons_succ]
  refine wpAnyH_take (i := 15) (oi := ⟨some 57, _, _, _, _, _⟩) (v := ?_) rfl (by kernel_rfl) (by kernel_rfl) (by kernel_rfl) (fun _ _ _ h => h) (Or.inl ⟨by rfl, ?_⟩) (by assumption) ?_
  rotate_left
  · intro w' hSw; (try dsimp only at hSw); go_simp
    try with_reducible rfl
  try simp only [Act.put, List.setIfInBounds_toArray, List.set_cons_zero, List.set_cons_succ]
  refine wpAnyH_take (i := 18) (oi := ⟨some 60, _, _, _, _, _⟩) (v := ?_) rfl (by kernel_rfl) (by kernel_rfl) (by kernel_rfl) (fun _ _ _ h => h) (Or.inl ⟨by rfl, ?_⟩) (by assumption) ?_
  rotate_left
  · intro w' hSw; (try dsimp only at hSw); go_simp
    try with_reducible rfl
  try simp only [Act.put, List.setIfInBounds_toArray, List.set_cons_zero, List.set_cons_succ]
  refine wpAnyH_take (i := 19) (oi := ⟨some 61, _, _, _, _, _⟩) (v := ?_) rfl (by kernel_rfl) (by kernel_rfl) (by kernel_rfl) (fun _ _ _ h => h) (Or.inl ⟨by rfl, ?_⟩) (by assumption) ?_
  rotate_left
  · intro w' hSw; (try dsimp only at hSw); go_simp
    try with_reducible rfl
  try simp only [Act.put, List.setIfInBounds_toArray, List.set_cons_zero, List.set_cons_succ]
  refine wpAnyH_done (by kernel_rfl) ?_ _
  go_wp2_with (fail)
  have b2 : Below W2.heap.size W2 (((W2.alloc (.cells #[.int .i64 f] 3)).alloc (.cells #[.int .i64 f] 3)).drew) := by repeat (first | exact Below.refl _ _ | refine below_dr ?_ | refine below_al ?_ _)
  have HW3 : Hid (Below w.heap.size w (((W2.alloc (.cells #[.int .i64 f] 3)).alloc (.cells #[.int .i64 f] 3)).drew)) := HW2.out.trans (b2.mono HW2.out.size)
  replace k0 := (below_cells b2 S 0 lSW).trans k0
  replace k1 := (below_cells b2 S 1 lSW).trans k1
  replace k2 := (below_cells b2 S 2 lSW).trans k2
  replace k3 := (below_cells b2 S 3 lSW).trans k3
  replace k4 := (below_cells b2 S 4 lSW).trans k4
  replace k5 := (below_cells b2 S 5 lSW).trans k5
  replace k6 := (below_cells b2 S 6 lSW).trans k6
  replace k7 := (below_cells b2 S 7 lSW).trans k7
  replace k8 := (below_cells b2 S 8 lSW).trans k8
  replace m1 := (below_cells b2 _ 1 lLW).trans m1
  replace m5 := (below_cells b2 _ 5 lLW).trans m5
  replace m6 := (below_cells b2 _ 6 lLW).trans m6
  replace lSW := Nat.lt_of_lt_of_le lSW b2.size
  replace lLW := Nat.lt_of_lt_of_le lLW b2.size
  clear b2
  generalize (((W2.alloc (.cells #[.int .i64 f] 3)).alloc (.cells #[.int .i64 f] 3)).drew) = W3 at *
  refine wp_region_held_drew (S := fun w' => w'.cell? ⟨S, 0, none⟩ = some (.map (some B)) ∧ w'.cell? ⟨S, 1, none⟩ = some (.int .i64 0) ∧ w'.cell? ⟨S, 2, none⟩ = some (.pointer none) ∧ w'.cell? ⟨S, 3, none⟩ = some (.pointer none) ∧ w'.cell? ⟨S, 4, none⟩ = some (.slice none 0 0) ∧ w'.cell? ⟨S, 5, none⟩ = some (.slice none 0 0) ∧ w'.cell? ⟨S, 6, none⟩ = some (.slice cp cn cc) ∧ w'.cell? ⟨S, 7, none⟩ = some (.bool false) ∧ w'.cell? ⟨S, 8, none⟩ = some (.int .i64 0) ∧ w'.cell? ⟨w.heap.size, 1, none⟩ = some (.int .i64 536870912)) (by kernel_rfl) ?_ (fun hHeld => ?_)
  · go_keep
  refine wpAnyH_take (i := 0) (oi := ⟨some 63, _, _, _, _, _⟩) (v := ?_) rfl (by kernel_rfl) (by kernel_rfl) (by kernel_rfl) (fun _ _ _ h => h) (Or.inl ⟨by rfl, ?_⟩) (by assumption) ?_
  rotate_left
  · intro w' hSw; (try dsimp only at hSw); go_simp
    try with_reducible rfl
  try simp only [Act.put, List.setIfInBounds_toArray, List.set_cons_zero, List.set_cons_succ]
  refine wpAnyH_take (i := 1) (oi := ⟨some 64, _, _, _, _, _⟩) (v := ?_) rfl (by kernel_rfl) (by kernel_rfl) (by kernel_rfl) (fun _ _ _ h => h) (Or.inl ⟨by rfl, ?_⟩) (by assumption) ?_
  rotate_left
  · intro w' hSw; (try dsimp only at hSw); go_simp
    try with_reducible rfl
  try simp only [Act.put, List.setIfInBounds_toArray, List.set_cons_zero, List.set_cons_succ]
  refine wpAnyH_take (i := 2) (oi := ⟨some 65, _, _, _, _, _⟩) (v := ?_) rfl (by kernel_rfl) (by kernel_rfl) (by kernel_rfl) (fun _ _ _ h => h) (Or.inl ⟨by rfl, ?_⟩) (by assumption) ?_
  rotate_left
  · intro w' hSw; (try dsimp only at hSw); go_simp
    try with_reducible rfl
  try simp only [Act.put, List.setIfInBounds_toArray, List.set_cons_zero, List.set_cons_succ]
  refine wpAnyH_take (i := 3) (oi := ⟨some 66, _, _, _, _, _⟩) (v := ?_) rfl (by kernel_rfl) (by kernel_rfl) (by kernel_rfl) (fun _ _ _ h => h) (Or.inl ⟨by rfl, ?_⟩) (by assumption) ?_
  rotate_left
  · intro w' hSw; (try dsimp only at hSw); go_simp
    try with_reducible rfl
  try simp only [Act.put, List.setIfInBounds_toArray, List.set_cons_zero, List.set_cons_succ]
  refine wpAnyH_take (i := 4) (oi := ⟨some 67, _, _, _, _, _⟩) (v := ?_) rfl (by kernel_rfl) (by kernel_rfl) (by kernel_rfl) (fun _ _ _ h => h) (Or.inl ⟨by rfl, ?_⟩) (by assumption) ?_
  rotate_left
  · intro w' hSw; (try dsimp only at hSw); go_simp
    try with_reducible rfl
  try simp only [Act.put, List.setIfInBounds_toArray, List.set_cons_zero, List.set_cons_succ]
  refine wpAnyH_take (i := 5) (oi := ⟨some 68, _, _, _, _, _⟩) (v := ?_) rfl (by kernel_rfl) (by kernel_rfl) (by kernel_rfl) (fun _ _ _ h => h) (Or.inl ⟨by rfl, ?_⟩) (by assumption) ?_
  rotate_left
  · intro w' hSw; (try dsimp only at hSw); go_simp
    try with_reducible rfl
  try simp only [Act.put, List.setIfInBounds_toArray, List.set_cons_zero, List.set_cons_succ]
  refine wpAnyH_take (i := 6) (oi := ⟨some 69, _, _, _, _, _⟩) (v := ?_) rfl (by kernel_rfl) (by kernel_rfl) (by kernel_rfl) (fun _ _ _ h => h) (Or.inl ⟨by rfl, ?_⟩) (by assumption) ?_
  rotate_left
  · intro w' hSw; (try dsimp only at hSw); go_simp
    try with_reducible rfl
  try simp only [Act.put, List.setIfInBounds_toArray, List.set_cons_zero, List.set_cons_succ]
  refine wpAnyH_take (i := 10) (oi := ⟨some 73, _, _, _, _, _⟩) (v := ?_) rfl (by kernel_rfl) (by kernel_rfl) (by kernel_rfl) (fun _ _ _ h => h) (Or.inl ⟨by rfl, ?_⟩) (by assumption) ?_
  rotate_left
  · intro w' hSw; (try dsimp only at hSw); go_simp
    try with_reducible rfl
  try simp only [Act.put, List.setIfInBounds_toArray, List.set_cons_zero, List.set_cons_succ]
  refine wpAnyH_take (i := 11) (oi := ⟨some 74, _, _, _, _, _⟩) (v := ?_) rfl (by kernel_rfl) (by kernel_rfl) (by kernel_rfl) (fun _ _ _ h => h) (Or.inl ⟨by rfl, ?_⟩) (by assumption) ?_
  rotate_left
  · intro w' hSw; (try dsimp only at hSw); go_simp
    try with_reducible rfl
  try simp only [Act.put, List.setIfInBounds_toArray, List.set_cons_zero, List.set_cons_succ]
  refine wpAnyH_take (i := 12) (oi := ⟨some 75, _, _, _, _, _⟩) (v := ?_) rfl (by kernel_rfl) (by kernel_rfl) (by kernel_rfl) (fun _ _ _ h => h) (Or.inl ⟨by rfl, ?_⟩) (by assumption) ?_
  rotate_left
  · intro w' hSw; (try dsimp only at hSw); go_simp
    try with_reducible rfl
  try simp only [Act.put, List.setIfInBounds_toArray, List.set_cons_zero, List.set_cons_succ]
  refine wpAnyH_take (i := 13) (oi := ⟨some 76, _, _, _, _, _⟩) (v := ?_) rfl (by kernel_rfl) (by kernel_rfl) (by kernel_rfl) (fun _ _ _ h => h) (Or.inl ⟨by rfl, ?_⟩) (by assumption) ?_
  rotate_left
  · intro w' hSw; (try dsimp only at hSw); go_simp
    try with_reducible rfl
  try simp only [Act.put, List.setIfInBounds_toArray, List.set_cons_zero, List.set_cons_succ]
  refine wpAnyH_take (i := 17) (oi := ⟨some 80, _, _, _, _, _⟩) (v := ?_) rfl (by kernel_rfl) (by kernel_rfl) (by kernel_rfl) (fun _ _ _ h => h) (Or.inl ⟨by rfl, ?_⟩) (by assumption) ?_
  rotate_left
  · intro w' hSw; (try dsimp only at hSw); go_simp
    try with_reducible rfl
  try simp only [Act.put, List.setIfInBounds_toArray, List.set_cons_zero, List.set_cons_succ]
  refine wpAnyH_take (i := 18) (oi := ⟨some 81, _, _, _, _, _⟩) (v := ?_) rfl (by kernel_rfl) (by kernel_rfl) (by kernel_rfl) (fun _ _ _ h => h) (Or.inl ⟨by rfl, ?_⟩) (by assumption) ?_
  rotate_left
  · intro w' hSw; (try dsimp only at hSw); go_simp
    try with_reducible rfl
  try simp only [Act.put, List.setIfInBounds_toArray, List.set_cons_zero, List.set_cons_succ]
  refine wpAnyH_ready (rs := [7, 20]) (by kernel_rfl) (by simp) ?_
  refine AllReadyH.cons (o := ⟨some 70, _, _, _, _, _⟩) rfl (fun K hK => ?_) (AllReadyH.cons (o := ⟨some 6, _, _, _, _, _⟩) rfl (fun K hK => ?_) AllReadyH.nil)
  · go_simp
    (go_at_call 52; refine Calls.mono (by with_reducible exact HN.out _ (by repeat (first | exact HW3.out | refine below_dr ?_ | refine below_al ?_ _))) ?_; rintro e w1 ⟨rfl, rfl⟩)
    go_wp2_with (fail)
    refine hK.out _ _ ?_ (fun hHeld => ?_)
    · first | (go_keep; done) | ((repeat' apply And.intro) <;> first | (go_simp; done) | exact (below_cells (w := W3) (by repeat (first | exact Below.refl _ _ | refine below_dr ?_ | refine below_al ?_ _)) _ _ (by assumption)).trans (by assumption))
    clear hK K
    try simp only [Act.put, List.setIfInBounds_toArray, List.set_cons_zero, List.set_cons_succ]
    refine wpAnyH_grow (S' := fun w' => w'.cell? ⟨S, 0, none⟩ = some (.map (some B)) ∧ w'.cell? ⟨S, 1, none⟩ = some (.int .i64 0) ∧ w'.cell? ⟨S, 2, none⟩ = some (.pointer none) ∧ w'.cell? ⟨S, 3, none⟩ = some (.pointer none) ∧ w'.cell? ⟨S, 4, none⟩ = some (.slice none 0 0) ∧ w'.cell? ⟨S, 5, none⟩ = some (.slice none 0 0) ∧ w'.cell? ⟨S, 6, none⟩ = some (.slice cp cn cc) ∧ w'.cell? ⟨S, 7, none⟩ = some (.bool false) ∧ w'.cell? ⟨S, 8, none⟩ = some (.int .i64 0) ∧ w'.cell? ⟨w.heap.size, 1, none⟩ = some (.int .i64 536870912) ∧ w'.cell? ⟨W3.heap.size, 0, none⟩ = some (.int .i64 n)) (fun _ h => ⟨h.1, h.2.1, h.2.2.1, h.2.2.2.1, h.2.2.2.2.1, h.2.2.2.2.2.1, h.2.2.2.2.2.2.1, h.2.2.2.2.2.2.2.1, h.2.2.2.2.2.2.2.2.1, h.2.2.2.2.2.2.2.2.2.1⟩) ?_ (fun hHeld => ?_)
    · first | (go_keep; done) | ((repeat' apply And.intro) <;> first | (go_simp; done) | exact (below_cells (w := W3) (by repeat (first | exact Below.refl _ _ | refine below_dr ?_ | refine below_al ?_ _)) _ _ (by assumption)).trans (by assumption))
    refine wpAnyH_take (i := 8) (oi := ⟨some 71, _, _, _, _, _⟩) (v := ?_) rfl (by kernel_rfl) (by kernel_rfl) (by kernel_rfl) (fun _ _ _ h => h) (Or.inl ⟨by rfl, ?_⟩) (by assumption) ?_
    rotate_left
    · intro w' hSw; (try dsimp only at hSw); go_simp
      try with_reducible rfl
    try simp only [Act.put, List.setIfInBounds_toArray, List.set_cons_zero, List.set_cons_succ]
    refine wpAnyH_take (i := 9) (oi := ⟨some 72, _, _, _, _, _⟩) (v := ?_) rfl (by kernel_rfl) (by kernel_rfl) (by kernel_rfl) (fun _ _ _ h => h) (Or.inl ⟨by rfl, ?_⟩) (by assumption) ?_
    rotate_left
    · intro w' hSw; (try dsimp only at hSw); go_simp
      try with_reducible rfl
    try simp only [Act.put, List.setIfInBounds_toArray, List.set_cons_zero, List.set_cons_succ]
    refine wpAnyH_ready (rs := [14, 20]) (by kernel_rfl) (by simp) ?_
    refine AllReadyH.cons (o := ⟨some 77, _, _, _, _, _⟩) rfl (fun K hK => ?_) (AllReadyH.cons (o := ⟨some 6, _, _, _, _, _⟩) rfl (fun K hK => ?_) AllReadyH.nil)
    · go_simp
      (go_at_call 51; refine Calls.mono (by with_reducible exact HF.out _ (by repeat (first | exact HW3.out | refine below_dr ?_ | refine below_al ?_ _))) ?_; rintro e w1 ⟨rfl, rfl⟩)
      go_wp2_with (fail)
      refine hK.out _ _ ?_ (fun hHeld => ?_)
      · first | (go_keep; done) | ((repeat' apply And.intro) <;> first | (go_simp; done) | exact (below_cells (w := W3) (by repeat (first | exact Below.refl _ _ | refine below_dr ?_ | refine below_al ?_ _)) _ _ (by assumption)).trans (by assumption))
      clear hK K
      try simp only [Act.put, List.setIfInBounds_toArray, List.set_cons_zero, List.set_cons_succ]
      refine wpAnyH_grow (S' := fun w' => w'.cell? ⟨S, 0, none⟩ = some (.map (some B)) ∧ w'.cell? ⟨S, 1, none⟩ = some (.int .i64 0) ∧ w'.cell? ⟨S, 2, none⟩ = some (.pointer none) ∧ w'.cell? ⟨S, 3, none⟩ = some (.pointer none) ∧ w'.cell? ⟨S, 4, none⟩ = some (.slice none 0 0) ∧ w'.cell? ⟨S, 5, none⟩ = some (.slice none 0 0) ∧ w'.cell? ⟨S, 6, none⟩ = some (.slice cp cn cc) ∧ w'.cell? ⟨S, 7, none⟩ = some (.bool false) ∧ w'.cell? ⟨S, 8, none⟩ = some (.int .i64 0) ∧ w'.cell? ⟨w.heap.size, 1, none⟩ = some (.int .i64 536870912) ∧ w'.cell? ⟨W3.heap.size, 0, none⟩ = some (.int .i64 n) ∧ w'.cell? ⟨W3.heap.size + 1, 0, none⟩ = some (.int .i64 f)) (fun _ h => ⟨h.1, h.2.1, h.2.2.1, h.2.2.2.1, h.2.2.2.2.1, h.2.2.2.2.2.1, h.2.2.2.2.2.2.1, h.2.2.2.2.2.2.2.1, h.2.2.2.2.2.2.2.2.1, h.2.2.2.2.2.2.2.2.2.1, h.2.2.2.2.2.2.2.2.2.2.1⟩) ?_ (fun hHeld => ?_)
      · first | (go_keep; done) | ((repeat' apply And.intro) <;> first | (go_simp; done) | exact (below_cells (w := W3) (by repeat (first | exact Below.refl _ _ | refine below_dr ?_ | refine below_al ?_ _)) _ _ (by assumption)).trans (by assumption))
      refine wpAnyH_take (i := 15) (oi := ⟨some 78, _, _, _, _, _⟩) (v := ?_) rfl (by kernel_rfl) (by kernel_rfl) (by kernel_rfl) (fun _ _ _ h => h) (Or.inl ⟨by rfl, ?_⟩) (by assumption) ?_
      rotate_left
      · intro w' hSw; (try dsimp only at hSw); go_simp
        try with_reducible rfl
      try simp only [Act.put, List.setIfInBounds_toArray, List.set_cons_zero, List.set_cons_succ]
      refine wpAnyH_take (i := 16) (oi := ⟨some 79, _, _, _, _, _⟩) (v := ?_) rfl (by kernel_rfl) (by kernel_rfl) (by kernel_rfl) (fun _ _ _ h => h) (Or.inl ⟨by rfl, ?_⟩) (by assumption) ?_
      rotate_left
      · intro w' hSw; (try dsimp only at hSw); go_simp
        try with_reducible rfl
      try simp only [Act.put, List.setIfInBounds_toArray, List.set_cons_zero, List.set_cons_succ]
      refine wpAnyH_take (i := 19) (oi := ⟨some 82, _, _, _, _, _⟩) (v := ?_) rfl (by kernel_rfl) (by kernel_rfl) (by kernel_rfl) (fun _ _ _ h => h) (Or.inl ⟨by rfl, ?_⟩) (by assumption) ?_
      rotate_left
      · intro w' hSw; (try dsimp only at hSw); go_simp
        try with_reducible rfl
      try simp only [Act.put, List.setIfInBounds_toArray, List.set_cons_zero, List.set_cons_succ]
      refine wpAnyH_ready (rs := [20]) (by kernel_rfl) (by simp) ?_
      refine AllReadyH.cons (o := ⟨some 6, _, _, _, _, _⟩) rfl (fun K hK => ?_) AllReadyH.nil
      go_simp
      refine hK.out _ _ ?_ (fun hHeld => ?_)
      · first | (go_keep; done) | ((repeat' apply And.intro) <;> first | (go_simp; done) | exact (below_cells (w := W3) (by repeat (first | exact Below.refl _ _ | refine below_dr ?_ | refine below_al ?_ _)) _ _ (by assumption)).trans (by assumption))
      clear hK K
      try simp only [Act.put, List.setIfInBounds_toArray, List.set_cons_zero, List.set_cons_succ]
      refine wpAnyH_ready (rs := [21]) (by kernel_rfl) (by simp) ?_
      refine AllReadyH.cons (o := ⟨none, _, _, _, _, _⟩) rfl (fun K hK => ?_) AllReadyH.nil
      go_simp
      refine hK.out _ _ ?_ (fun hHeld => ?_)
      · first | (go_keep; done) | ((repeat' apply And.intro) <;> first | (go_simp; done) | exact (below_cells (w := W3) (by repeat (first | exact Below.refl _ _ | refine below_dr ?_ | refine below_al ?_ _)) _ _ (by assumption)).trans (by assumption))
      clear hK K
      try simp only [Act.put, List.setIfInBounds_toArray, List.set_cons_zero, List.set_cons_succ]
      refine wpAnyH_done (by kernel_rfl) ?_ _
      clear hHeld
      go_wp2_with (fail)
      refine bodyPost_ret (v := .tuple #[.pointer (some ⟨W3.heap.size + 1 + 1, 0, none⟩), .nilIface]) (by simp [results, Tryd.results35, go_sem]) rfl ⟨W3.heap.size + 1 + 1, rfl, by omega, by simp; try omega, ?_, ?_, ?_, by repeat (first | exact HW3.out | refine below_dr ?_ | refine below_al ?_ _)⟩ <;> go_simp
    · go_simp
      refine hK.out _ _ ?_ (fun hHeld => ?_)
      · first | (go_keep; done) | ((repeat' apply And.intro) <;> first | (go_simp; done) | exact (below_cells (w := W3) (by repeat (first | exact Below.refl _ _ | refine below_dr ?_ | refine below_al ?_ _)) _ _ (by assumption)).trans (by assumption))
      clear hK K
      try simp only [Act.put, List.setIfInBounds_toArray, List.set_cons_zero, List.set_cons_succ]
      refine wpAnyH_ready (rs := [14]) (by kernel_rfl) (by simp) ?_
      refine AllReadyH.cons (o := ⟨some 77, _, _, _, _, _⟩) rfl (fun K hK => ?_) AllReadyH.nil
      go_simp
      (go_at_call 51; refine Calls.mono (by with_reducible exact HF.out _ (by repeat (first | exact HW3.out | refine below_dr ?_ | refine below_al ?_ _))) ?_; rintro e w1 ⟨rfl, rfl⟩)
      go_wp2_with (fail)
      refine hK.out _ _ ?_ (fun hHeld => ?_)
      · first | (go_keep; done) | ((repeat' apply And.intro) <;> first | (go_simp; done) | exact (below_cells (w := W3) (by repeat (first | exact Below.refl _ _ | refine below_dr ?_ | refine below_al ?_ _)) _ _ (by assumption)).trans (by assumption))
      clear hK K
      try simp only [Act.put, List.setIfInBounds_toArray, List.set_cons_zero, List.set_cons_succ]
      refine wpAnyH_grow (S' := fun w' => w'.cell? ⟨S, 0, none⟩ = some (.map (some B)) ∧ w'.cell? ⟨S, 1, none⟩ = some (.int .i64 0) ∧ w'.cell? ⟨S, 2, none⟩ = some (.pointer none) ∧ w'.cell? ⟨S, 3, none⟩ = some (.pointer none) ∧ w'.cell? ⟨S, 4, none⟩ = some (.slice none 0 0) ∧ w'.cell? ⟨S, 5, none⟩ = some (.slice none 0 0) ∧ w'.cell? ⟨S, 6, none⟩ = some (.slice cp cn cc) ∧ w'.cell? ⟨S, 7, none⟩ = some (.bool false) ∧ w'.cell? ⟨S, 8, none⟩ = some (.int .i64 0) ∧ w'.cell? ⟨w.heap.size, 1, none⟩ = some (.int .i64 536870912) ∧ w'.cell? ⟨W3.heap.size, 0, none⟩ = some (.int .i64 n) ∧ w'.cell? ⟨W3.heap.size + 1 + 1, 0, none⟩ = some (.int .i64 f)) (fun _ h => ⟨h.1, h.2.1, h.2.2.1, h.2.2.2.1, h.2.2.2.2.1, h.2.2.2.2.2.1, h.2.2.2.2.2.2.1, h.2.2.2.2.2.2.2.1, h.2.2.2.2.2.2.2.2.1, h.2.2.2.2.2.2.2.2.2.1, h.2.2.2.2.2.2.2.2.2.2.1⟩) ?_ (fun hHeld => ?_)
      · first | (go_keep; done) | ((repeat' apply And.intro) <;> first | (go_simp; done) | exact (below_cells (w := W3) (by repeat (first | exact Below.refl _ _ | refine below_dr ?_ | refine below_al ?_ _)) _ _ (by assumption)).trans (by assumption))
      refine wpAnyH_take (i := 15) (oi := ⟨some 78, _, _, _, _, _⟩) (v := ?_) rfl (by kernel_rfl) (by kernel_rfl) (by kernel_rfl) (fun _ _ _ h => h) (Or.inl ⟨by rfl, ?_⟩) (by assumption) ?_
      rotate_left
      · intro w' hSw; (try dsimp only at hSw); go_simp
        try with_reducible rfl
      try simp only [Act.put, List.setIfInBounds_toArray, List.set_cons_zero, List.set_cons_succ]
      refine wpAnyH_take (i := 16) (oi := ⟨some 79, _, _, _, _, _⟩) (v := ?_) rfl (by kernel_rfl) (by kernel_rfl) (by kernel_rfl) (fun _ _ _ h => h) (Or.inl ⟨by rfl, ?_⟩) (by assumption) ?_
      rotate_left
      · intro w' hSw; (try dsimp only at hSw); go_simp
        try with_reducible rfl
      try simp only [Act.put, List.setIfInBounds_toArray, List.set_cons_zero, List.set_cons_succ]
      refine wpAnyH_take (i := 19) (oi := ⟨some 82, _, _, _, _, _⟩) (v := ?_) rfl (by kernel_rfl) (by kernel_rfl) (by kernel_rfl) (fun _ _ _ h => h) (Or.inl ⟨by rfl, ?_⟩) (by assumption) ?_
      rotate_left
      · intro w' hSw; (try dsimp only at hSw); go_simp
        try with_reducible rfl
      try simp only [Act.put, List.setIfInBounds_toArray, List.set_cons_zero, List.set_cons_succ]
      refine wpAnyH_ready (rs := [21]) (by kernel_rfl) (by simp) ?_
      refine AllReadyH.cons (o := ⟨none, _, _, _, _, _⟩) rfl (fun K hK => ?_) AllReadyH.nil
      go_simp
      refine hK.out _ _ ?_ (fun hHeld => ?_)
      · first | (go_keep; done) | ((repeat' apply And.intro) <;> first | (go_simp; done) | exact (below_cells (w := W3) (by repeat (first | exact Below.refl _ _ | refine below_dr ?_ | refine below_al ?_ _)) _ _ (by assumption)).trans (by assumption))
      clear hK K
      try simp only [Act.put, List.setIfInBounds_toArray, List.set_cons_zero, List.set_cons_succ]
      refine wpAnyH_done (by kernel_rfl) ?_ _
      clear hHeld
      go_wp2_with (fail)
      refine bodyPost_ret (v := .tuple #[.pointer (some ⟨W3.heap.size + 1, 0, none⟩), .nilIface]) (by simp [results, Tryd.results35, go_sem]) rfl ⟨W3.heap.size + 1, rfl, by omega, by simp; try omega, ?_, ?_, ?_, by repeat (first | exact HW3.out | refine below_dr ?_ | refine below_al ?_ _)⟩ <;> go_simp
  · go_simp
    refine hK.out _ _ ?_ (fun hHeld => ?_)
    · first | (go_keep; done) | ((repeat' apply And.intro) <;> first | (go_simp; done) | exact (below_cells (w := W3) (by repeat (first | exact Below.refl _ _ | refine below_dr ?_ | refine below_al ?_ _)) _ _ (by assumption)).trans (by assumption))
    clear hK K
    try simp only [Act.put, List.setIfInBounds_toArray, List.set_cons_zero, List.set_cons_succ]
    refine wpAnyH_ready (rs := [7]) (by kernel_rfl) (by simp) ?_
    refine AllReadyH.cons (o := ⟨some 70, _, _, _, _, _⟩) rfl (fun K hK => ?_) AllReadyH.nil
    go_simp
    (go_at_call 52; refine Calls.mono (by with_reducible exact HN.out _ (by repeat (first | exact HW3.out | refine below_dr ?_ | refine below_al ?_ _))) ?_; rintro e w1 ⟨rfl, rfl⟩)
    go_wp2_with (fail)
    refine hK.out _ _ ?_ (fun hHeld => ?_)
    · first | (go_keep; done) | ((repeat' apply And.intro) <;> first | (go_simp; done) | exact (below_cells (w := W3) (by repeat (first | exact Below.refl _ _ | refine below_dr ?_ | refine below_al ?_ _)) _ _ (by assumption)).trans (by assumption))
    clear hK K
    try simp only [Act.put, List.setIfInBounds_toArray, List.set_cons_zero, List.set_cons_succ]
    refine wpAnyH_grow (S' := fun w' => w'.cell? ⟨S, 0, none⟩ = some (.map (some B)) ∧ w'.cell? ⟨S, 1, none⟩ = some (.int .i64 0) ∧ w'.cell? ⟨S, 2, none⟩ = some (.pointer none) ∧ w'.cell? ⟨S, 3, none⟩ = some (.pointer none) ∧ w'.cell? ⟨S, 4, none⟩ = some (.slice none 0 0) ∧ w'.cell? ⟨S, 5, none⟩ = some (.slice none 0 0) ∧ w'.cell? ⟨S, 6, none⟩ = some (.slice cp cn cc) ∧ w'.cell? ⟨S, 7, none⟩ = some (.bool false) ∧ w'.cell? ⟨S, 8, none⟩ = some (.int .i64 0) ∧ w'.cell? ⟨w.heap.size, 1, none⟩ = some (.int .i64 536870912) ∧ w'.cell? ⟨W3.heap.size + 1, 0, none⟩ = some (.int .i64 n)) (fun _ h => ⟨h.1, h.2.1, h.2.2.1, h.2.2.2.1, h.2.2.2.2.1, h.2.2.2.2.2.1, h.2.2.2.2.2.2.1, h.2.2.2.2.2.2.2.1, h.2.2.2.2.2.2.2.2.1, h.2.2.2.2.2.2.2.2.2.1⟩) ?_ (fun hHeld => ?_)
    · first | (go_keep; done) | ((repeat' apply And.intro) <;> first | (go_simp; done) | exact (below_cells (w := W3) (by repeat (first | exact Below.refl _ _ | refine below_dr ?_ | refine below_al ?_ _)) _ _ (by assumption)).trans (by assumption))
    refine wpAnyH_take (i := 8) (oi := ⟨some 71, _, _, _, _, _⟩) (v := ?_) rfl (by kernel_rfl) (by kernel_rfl) (by kernel_rfl) (fun _ _ _ h => h) (Or.inl ⟨by rfl, ?_⟩) (by assumption) ?_
    rotate_left
    · intro w' hSw; (try dsimp only at hSw); go_simp
      try with_reducible rfl
    try simp only [Act.put, List.setIfInBounds_toArray, List.set_cons_zero, List.set_cons_succ]
    refine wpAnyH_take (i := 9) (oi := ⟨some 72, _, _, _, _, _⟩) (v := ?_) rfl (by kernel_rfl) (by kernel_rfl) (by kernel_rfl) (fun _ _ _ h => h) (Or.inl ⟨by rfl, ?_⟩) (by assumption) ?_
    rotate_left
    · intro w' hSw; (try dsimp only at hSw); go_simp
      try with_reducible rfl
    try simp only [Act.put, List.setIfInBounds_toArray, List.set_cons_zero, List.set_cons_succ]
    refine wpAnyH_ready (rs := [14]) (by kernel_rfl) (by simp) ?_
    refine AllReadyH.cons (o := ⟨some 77, _, _, _, _, _⟩) rfl (fun K hK => ?_) AllReadyH.nil
    go_simp
    (go_at_call 51; refine Calls.mono (by with_reducible exact HF.out _ (by repeat (first | exact HW3.out | refine below_dr ?_ | refine below_al ?_ _))) ?_; rintro e w1 ⟨rfl, rfl⟩)
    go_wp2_with (fail)
    refine hK.out _ _ ?_ (fun hHeld => ?_)
    · first | (go_keep; done) | ((repeat' apply And.intro) <;> first | (go_simp; done) | exact (below_cells (w := W3) (by repeat (first | exact Below.refl _ _ | refine below_dr ?_ | refine below_al ?_ _)) _ _ (by assumption)).trans (by assumption))
    clear hK K
    try simp only [Act.put, List.setIfInBounds_toArray, List.set_cons_zero, List.set_cons_succ]
    refine wpAnyH_grow (S' := fun w' => w'.cell? ⟨S, 0, none⟩ = some (.map (some B)) ∧ w'.cell? ⟨S, 1, none⟩ = some (.int .i64 0) ∧ w'.cell? ⟨S, 2, none⟩ = some (.pointer none) ∧ w'.cell? ⟨S, 3, none⟩ = some (.pointer none) ∧ w'.cell? ⟨S, 4, none⟩ = some (.slice none 0 0) ∧ w'.cell? ⟨S, 5, none⟩ = some (.slice none 0 0) ∧ w'.cell? ⟨S, 6, none⟩ = some (.slice cp cn cc) ∧ w'.cell? ⟨S, 7, none⟩ = some (.bool false) ∧ w'.cell? ⟨S, 8, none⟩ = some (.int .i64 0) ∧ w'.cell? ⟨w.heap.size, 1, none⟩ = some (.int .i64 536870912) ∧ w'.cell? ⟨W3.heap.size + 1, 0, none⟩ = some (.int .i64 n) ∧ w'.cell? ⟨W3.heap.size + 1 + 1, 0, none⟩ = some (.int .i64 f)) (fun _ h => ⟨h.1, h.2.1, h.2.2.1, h.2.2.2.1, h.2.2.2.2.1, h.2.2.2.2.2.1, h.2.2.2.2.2.2.1, h.2.2.2.2.2.2.2.1, h.2.2.2.2.2.2.2.2.1, h.2.2.2.2.2.2.2.2.2.1, h.2.2.2.2.2.2.2.2.2.2.1⟩) ?_ (fun hHeld => ?_)
    · first | (go_keep; done) | ((repeat' apply And.intro) <;> first | (go_simp; done) | exact (below_cells (w := W3) (by repeat (first | exact Below.refl _ _ | refine below_dr ?_ | refine below_al ?_ _)) _ _ (by assumption)).trans (by assumption))
    refine wpAnyH_take (i := 15) (oi := ⟨some 78, _, _, _, _, _⟩) (v := ?_) rfl (by kernel_rfl) (by kernel_rfl) (by kernel_rfl) (fun _ _ _ h => h) (Or.inl ⟨by rfl, ?_⟩) (by assumption) ?_
    rotate_left
    · intro w' hSw; (try dsimp only at hSw); go_simp
      try with_reducible rfl
    try simp only [Act.put, List.setIfInBounds_toArray, List.set_cons_zero, List.set_cons_succ]
    refine wpAnyH_take (i := 16) (oi := ⟨some 79, _, _, _, _, _⟩) (v := ?_) rfl (by kernel_rfl) (by kernel_rfl) (by kernel_rfl) (fun _ _ _ h => h) (Or.inl ⟨by rfl, ?_⟩) (by assumption) ?_
    rotate_left
    · intro w' hSw; (try dsimp only at hSw); go_simp
      try with_reducible rfl
    try simp only [Act.put, List.setIfInBounds_toArray, List.set_cons_zero, List.set_cons_succ]
    refine wpAnyH_take (i := 19) (oi := ⟨some 82, _, _, _, _, _⟩) (v := ?_) rfl (by kernel_rfl) (by kernel_rfl) (by kernel_rfl) (fun _ _ _ h => h) (Or.inl ⟨by rfl, ?_⟩) (by assumption) ?_
    rotate_left
    · intro w' hSw; (try dsimp only at hSw); go_simp
      try with_reducible rfl
    try simp only [Act.put, List.setIfInBounds_toArray, List.set_cons_zero, List.set_cons_succ]
    refine wpAnyH_ready (rs := [21]) (by kernel_rfl) (by simp) ?_
    refine AllReadyH.cons (o := ⟨none, _, _, _, _, _⟩) rfl (fun K hK => ?_) AllReadyH.nil
    go_simp
    refine hK.out _ _ ?_ (fun hHeld => ?_)
    · first | (go_keep; done) | ((repeat' apply And.intro) <;> first | (go_simp; done) | exact (below_cells (w := W3) (by repeat (first | exact Below.refl _ _ | refine below_dr ?_ | refine below_al ?_ _)) _ _ (by assumption)).trans (by assumption))
    clear hK K
    try simp only [Act.put, List.setIfInBounds_toArray, List.set_cons_zero, List.set_cons_succ]
    refine wpAnyH_done (by kernel_rfl) ?_ _
    clear hHeld
    go_wp2_with (fail)
    refine bodyPost_ret (v := .tuple #[.pointer (some ⟨W3.heap.size, 0, none⟩), .nilIface]) (by simp [results, Tryd.results35, go_sem]) rfl ⟨W3.heap.size, rfl, by omega, by simp; try omega, ?_, ?_, ?_, by repeat (first | exact HW3.out | refine below_dr ?_ | refine below_al ?_ _)⟩ <;> go_simp

end Go.Proofs.YtnpedhdonfdbmaaDoor
