/- The functions that tell a rectangle's facts return what they should. Conditions: the words of width, height and centre are handed in. -/
import Derived.Test.YtolmmgemahohoaaPlain2
import Derived.Test.YtolmmgemahohoaaQTail
namespace Go.Proofs.Ytolmmgemahohoaa
open Go.ChangeShapes Go.WideShapes Go.ChangeAt Go.RowKit Go.Dy Go.Sort
attribute [local go_sem] run_store_float
attribute [local go_sem ↓] Go.wp_at_zero Go.wp_at_succ

theorem width_ex (a b c d r : Nat) (w : World) (h : ∀ w, (binOp .sub 26 (.float .f64 c) (.float .f64 a)).run Try.prog w = .ok (.float .f64 r) w) :
    Calls Try.prog 34 #[R4 a b c d] w fun e w' => e = .returned (.float .f64 r) ∧ w.alloc (.cells #[.float .f64 a, .float .f64 b, .float .f64 c, .float .f64 d] 59) = w' := by
  go_enter Try.func34, Try.ntmps34
  go_wp2
  go_ret
  exact ⟨rfl, rfl⟩
theorem height_ex (a b c d r : Nat) (w : World) (h : ∀ w, (binOp .sub 26 (.float .f64 d) (.float .f64 b)).run Try.prog w = .ok (.float .f64 r) w) :
    Calls Try.prog 35 #[R4 a b c d] w fun e w' => e = .returned (.float .f64 r) ∧ w.alloc (.cells #[.float .f64 a, .float .f64 b, .float .f64 c, .float .f64 d] 59) = w' := by
  go_enter Try.func35, Try.ntmps35
  go_wp2
  go_ret
  exact ⟨rfl, rfl⟩

def AspPost (W H : Int) (w : World) (e : Ending) (w' : World) : Prop := ∃ r, e = .returned (.float .f64 r) ∧ Asp W H r ∧ Below w.heap.size w w'

/-- The quotient's run: a number, or a NaN. -/
def AspRun (wd ht : Nat) (W H : Int) : Prop :=
  (∃ r, (∀ w, (binOp .quo 26 (.float .f64 wd) (.float .f64 ht)).run Try.prog w = .ok (.float .f64 r) w) ∧ Asp W H r) ∨
  ((∀ w, (binOp .quo 26 (.float .f64 wd) (.float .f64 ht)).run Try.prog w = .ok (.float .f64 (nanOf wd ht w)) w.drew) ∧ W = H)

set_option maxHeartbeats 1000000 in
theorem aspect_any {a b c d wd ht : Nat} {W H : Int} (hw : floatBits .sub .f64 c a = some wd) (hh : floatBits .sub .f64 d b = some ht) (hr : AspRun wd ht W H) (w : World) :
    Calls Try.prog 42 #[R4 a b c d] w (AspPost W H w) := by
  have C1 := fun w => width_ex a b c d wd w (run_sub hw)
  have C2 := fun w => height_ex a b c d ht w (run_sub hh)
  clear hw hh
  rcases hr with ⟨r, q, hA⟩ | ⟨q, rfl⟩
  · have HA := Lib.hid hA
    clear hA
    go_enter Try.func42, Try.ntmps42
    go_wp2_with fail
    go_region_held3 (fun w' => w'.cell? ⟨w.heap.size, 0, none⟩ = some (.float .f64 a) ∧ w'.cell? ⟨w.heap.size, 1, none⟩ = some (.float .f64 b) ∧ w'.cell? ⟨w.heap.size, 2, none⟩ = some (.float .f64 c) ∧ w'.cell? ⟨w.heap.size, 3, none⟩ = some (.float .f64 d)) (go_keep)
      (first | (go_at_call 34; (with_reducible refine (C1 _).mono ?_); rintro e w1 ⟨rfl, rfl⟩) | (go_at_call 35; (with_reducible refine (C2 _).mono ?_); rintro e w2 ⟨rfl, rfl⟩))
    go_wp2
    go_ret
    refine ⟨r, rfl, HA.out, ?_⟩
    repeat (first | exact Below.refl _ _ | refine below_drewN ?_ _ | refine Below.drew ?_ | refine Below.alloc ?_ (by simp; try omega) _)
  · go_enter Try.func42, Try.ntmps42
    go_wp2_with fail
    go_region_with (first | (go_at_call 34; (with_reducible refine (C1 _).mono ?_); rintro e w1 ⟨rfl, rfl⟩) | (go_at_call 35; (with_reducible refine (C2 _).mono ?_); rintro e w2 ⟨rfl, rfl⟩))
    all_goals
      go_wp2
      go_ret
      refine ⟨_, rfl, nan_asp _ _ _ _, ?_⟩
      repeat (first | exact Below.refl _ _ | refine below_drewN ?_ _ | refine Below.drew ?_ | refine Below.alloc ?_ (by simp; try omega) _)

theorem land_any {a b c d wd ht : Nat} {W H : Int} (hw : floatBits .sub .f64 c a = some wd) (hh : floatBits .sub .f64 d b = some ht) (hr : AspRun wd ht W H) (w : World) :
    Calls Try.prog 36 #[R4 a b c d] w fun e w' => e = .returned (.bool (decide (H < W))) ∧ Below w.heap.size w w' := by
  generalize hD : decide (H < W) = B
  have HD := Lib.hid hD
  clear hD
  go_enter Try.func36, Try.ntmps36
  go_wp2_with fail
  refine (aspect_any hw hh hr _).mono ?_
  rintro e w1 ⟨r, rfl, ⟨h1, h2⟩, hb⟩
  clear hw hh hr h2
  rw [HD.out] at h1
  have HB : Hid (Below w.heap.size w w1) := ((Below.refl _ _).alloc (Nat.le_refl _) _).trans (hb.mono (by simp))
  clear hb
  go_wp2
  go_ret
  exact ⟨rfl, HB.out⟩

theorem port_any {a b c d wd ht : Nat} {W H : Int} (hw : floatBits .sub .f64 c a = some wd) (hh : floatBits .sub .f64 d b = some ht) (hr : AspRun wd ht W H) (w : World) :
    Calls Try.prog 37 #[R4 a b c d] w fun e w' => e = .returned (.bool (decide (W < H))) ∧ Below w.heap.size w w' := by
  generalize hD : decide (W < H) = B
  have HD := Lib.hid hD
  clear hD
  go_enter Try.func37, Try.ntmps37
  go_wp2_with fail
  refine (aspect_any hw hh hr _).mono ?_
  rintro e w1 ⟨r, rfl, ⟨h1, h2⟩, hb⟩
  clear hw hh hr h1
  rw [HD.out] at h2
  have HB : Hid (Below w.heap.size w w1) := ((Below.refl _ _).alloc (Nat.le_refl _) _).trans (hb.mono (by simp))
  clear hb
  go_wp2
  go_ret
  exact ⟨rfl, HB.out⟩

/-- The words of a rectangle's facts. -/
structure FF (a b c d wd ht wd2 ht2 cx cy : Nat) (W H : Int) : Prop where
  hw : floatBits .sub .f64 c a = some wd
  hh : floatBits .sub .f64 d b = some ht
  hw2 : floatBits .quo .f64 wd 4611686018427387904 = some wd2
  hh2 : floatBits .quo .f64 ht 4611686018427387904 = some ht2
  hcx : floatBits .sub .f64 c wd2 = some cx
  hcy : floatBits .sub .f64 d ht2 = some cy
  hr : AspRun wd ht W H

set_option maxHeartbeats 1000000 in
theorem center_any {a b c d wd ht wd2 ht2 cx cy : Nat} {W H : Int} (h : FF a b c d wd ht wd2 ht2 cx cy W H) (w : World) :
    Calls Try.prog 33 #[R4 a b c d] w fun e w' => e = .returned (.agg #[.float .f64 cx, .float .f64 cy]) ∧ Below w.heap.size w w' := by
  have C1 := fun w => width_ex a b c d wd w (run_sub h.hw)
  have C2 := fun w => height_ex a b c d ht w (run_sub h.hh)
  have r1 := run_quo h.hw2
  have r2 := run_quo h.hh2
  have r3 := run_sub h.hcx
  have r4 := run_sub h.hcy
  clear h
  go_enter Try.func33, Try.ntmps33
  go_wp2_with fail
  go_region_held3 (fun w' => w'.cell? ⟨w.heap.size, 0, none⟩ = some (.float .f64 a) ∧ w'.cell? ⟨w.heap.size, 1, none⟩ = some (.float .f64 b) ∧ w'.cell? ⟨w.heap.size, 2, none⟩ = some (.float .f64 c) ∧ w'.cell? ⟨w.heap.size, 3, none⟩ = some (.float .f64 d)) (go_keep)
    (first | (go_at_call 34; (with_reducible refine (C1 _).mono ?_); rintro e w1 ⟨rfl, rfl⟩) | (go_at_call 35; (with_reducible refine (C2 _).mono ?_); rintro e w2 ⟨rfl, rfl⟩))
  go_wp2
  exact bodyPost_ret (v := .agg #[.float .f64 cx, .float .f64 cy]) (by simp [results, Try.results33, go_sem]) rfl ⟨rfl, by
    repeat (first | exact Below.refl _ _ | refine below_drewN ?_ _ | refine Below.drew ?_ | refine Below.alloc ?_ (by simp; try omega) _)⟩

/-- What 'impl.FactsOf' tells. -/
abbrev V6 (wd ht cx cy : Nat) (b1 b2 : Bool) : Value := .agg #[.float .f64 wd, .float .f64 ht, .float .f64 cx, .float .f64 cy, .bool b1, .bool b2]

set_option maxHeartbeats 2000000 in
theorem facts_any {a b c d wd ht wd2 ht2 cx cy : Nat} {W H : Int} (h : FF a b c d wd ht wd2 ht2 cx cy W H) (w : World) :
    Calls Try.prog 21 #[R4 a b c d] w fun e w' => e = .returned (V6 wd ht cx cy (decide (H < W)) (decide (W < H))) ∧ Below w.heap.size w w' := by
  have CC := fun w => center_any h w
  have C1 := fun w => width_any a b c d wd w (run_sub h.hw)
  have C2 := fun w => height_any a b c d ht w (run_sub h.hh)
  have C3 := fun w => land_any h.hw h.hh h.hr w
  have C4 := fun w => port_any h.hw h.hh h.hr w
  clear h
  generalize decide (H < W) = L at *
  generalize decide (W < H) = P at *
  go_enter Try.func21, Try.ntmps21
  go_wp2_with (go_at_call 25; refine (rectangle_any _ _ _ _ _).mono ?_; rintro e w' ⟨rfl, rfl⟩)
  refine (CC _).mono ?_
  rintro e w1 ⟨rfl, hb⟩
  have HB : Hid (Below w.heap.size w w1) := by
    refine Below.trans ?_ (hb.mono (by simp; omega))
    exact ((((Below.refl _ _).alloc (Nat.le_refl _) _).alloc (by simp) _).alloc (by simp; omega) _).alloc (by simp; omega) _
  have hz : w.heap.size + 1 + 1 + 1 < w1.heap.size := by have := hb.size; simp at this; omega
  have p0 : w1.cell? ⟨w.heap.size + 1 + 1 + 1, 0, none⟩ = some (.float .f64 a) := by rw [hb.cell (by simp)]; go_simp
  have p1 : w1.cell? ⟨w.heap.size + 1 + 1 + 1, 1, none⟩ = some (.float .f64 b) := by rw [hb.cell (by simp)]; go_simp
  have p2 : w1.cell? ⟨w.heap.size + 1 + 1 + 1, 2, none⟩ = some (.float .f64 c) := by rw [hb.cell (by simp)]; go_simp
  have p3 : w1.cell? ⟨w.heap.size + 1 + 1 + 1, 3, none⟩ = some (.float .f64 d) := by rw [hb.cell (by simp)]; go_simp
  have q0 : w1.cell? ⟨w.heap.size + 1, 0, none⟩ = some (.float .f64 0) := by rw [hb.cell (by simp)]; go_simp
  have q1 : w1.cell? ⟨w.heap.size + 1, 1, none⟩ = some (.float .f64 0) := by rw [hb.cell (by simp)]; go_simp
  have q2 : w1.cell? ⟨w.heap.size + 1, 2, none⟩ = some (.float .f64 0) := by rw [hb.cell (by simp)]; go_simp
  have q3 : w1.cell? ⟨w.heap.size + 1, 3, none⟩ = some (.float .f64 0) := by rw [hb.cell (by simp)]; go_simp
  have q4 : w1.cell? ⟨w.heap.size + 1, 4, none⟩ = some (.bool false) := by rw [hb.cell (by simp)]; go_simp
  have q5 : w1.cell? ⟨w.heap.size + 1, 5, none⟩ = some (.bool false) := by rw [hb.cell (by simp)]; go_simp
  have f0 (i : Nat) : w1.frozen? ⟨w.heap.size + 1, i, none⟩ = false := by rw [hb.frozen (by simp)]; go_simp
  clear hb CC
  go_wp2_with fail
  have HB2 : Hid (Below w.heap.size w (w1.alloc (.cells #[.float .f64 cx, .float .f64 cy] 57))) := HB.out.alloc HB.out.size _
  have c0 : (w1.alloc (.cells #[.float .f64 cx, .float .f64 cy] 57)).cell? ⟨w1.heap.size, 0, none⟩ = some (.float .f64 cx) := by go_simp
  have c1 : (w1.alloc (.cells #[.float .f64 cx, .float .f64 cy] 57)).cell? ⟨w1.heap.size, 1, none⟩ = some (.float .f64 cy) := by go_simp
  have b1 : Below w1.heap.size w1 (w1.alloc (.cells #[.float .f64 cx, .float .f64 cy] 57)) := (Below.refl _ _).alloc (Nat.le_refl _) _
  have P0 := (b1.cell (p := ⟨w.heap.size + 1 + 1 + 1, 0, none⟩) (by simp; omega)).trans p0
  have P1 := (b1.cell (p := ⟨w.heap.size + 1 + 1 + 1, 1, none⟩) (by simp; omega)).trans p1
  have P2 := (b1.cell (p := ⟨w.heap.size + 1 + 1 + 1, 2, none⟩) (by simp; omega)).trans p2
  have P3 := (b1.cell (p := ⟨w.heap.size + 1 + 1 + 1, 3, none⟩) (by simp; omega)).trans p3
  have Q0 := (b1.cell (p := ⟨w.heap.size + 1, 0, none⟩) (by simp; omega)).trans q0
  have Q1 := (b1.cell (p := ⟨w.heap.size + 1, 1, none⟩) (by simp; omega)).trans q1
  have Q2 := (b1.cell (p := ⟨w.heap.size + 1, 2, none⟩) (by simp; omega)).trans q2
  have Q3 := (b1.cell (p := ⟨w.heap.size + 1, 3, none⟩) (by simp; omega)).trans q3
  have Q4 := (b1.cell (p := ⟨w.heap.size + 1, 4, none⟩) (by simp; omega)).trans q4
  have Q5 := (b1.cell (p := ⟨w.heap.size + 1, 5, none⟩) (by simp; omega)).trans q5
  have F0 (i : Nat) := (b1.frozen (p := ⟨w.heap.size + 1, i, none⟩) (by simp; omega)).trans (f0 i)
  have hz2 : w.heap.size + 1 < (w1.alloc (.cells #[.float .f64 cx, .float .f64 cy] 57)).heap.size := by simp; omega
  clear b1 p0 p1 p2 p3 q0 q1 q2 q3 q4 q5 f0 hz HB
  generalize hB1 : w1.heap.size = B1 at c0 c1
  generalize w1.alloc (.cells #[.float .f64 cx, .float .f64 cy] 57) = W at *
  clear hB1
  have C1' : ∀ p os, Calls Try.prog 34 #[R4 a b c d] (grow (redrawn W p) os) fun e w'' => e = .returned (.float .f64 wd) ∧ ∃ q : Regrown, w'' = grow (redrawn W q.d) q.os := fun p os => Calls.regrown_of (C1 _)
  have C2' : ∀ p os, Calls Try.prog 35 #[R4 a b c d] (grow (redrawn W p) os) fun e w'' => e = .returned (.float .f64 ht) ∧ ∃ q : Regrown, w'' = grow (redrawn W q.d) q.os := fun p os => Calls.regrown_of (C2 _)
  have C3' : ∀ p os, Calls Try.prog 36 #[R4 a b c d] (grow (redrawn W p) os) fun e w'' => e = .returned (.bool L) ∧ ∃ q : Regrown, w'' = grow (redrawn W q.d) q.os := fun p os => Calls.regrown_of (C3 _)
  have C4' : ∀ p os, Calls Try.prog 37 #[R4 a b c d] (grow (redrawn W p) os) fun e w'' => e = .returned (.bool P) ∧ ∃ q : Regrown, w'' = grow (redrawn W q.d) q.os := fun p os => Calls.regrown_of (C4 _)
  clear C1 C2 C3 C4
  have m0 := cell_regrown P0
  have m1 := cell_regrown P1
  have m2 := cell_regrown P2
  have m3 := cell_regrown P3
  have m4 := cell_regrown c0
  have m5 := cell_regrown c1
  clear P0 P1 P2 P3 c0 c1
  refine wp_region_quiet_below_tail 21 (by kernel_rfl) (by kernel_rfl) ?_
  simp only [List.take_succ_cons, List.take_zero, List.drop_succ_cons, List.drop_zero]
  repeat (quiet_step (first | (with_reducible exact C1' _ _) | (with_reducible exact C2' _ _) | (with_reducible exact C3' _ _) | (with_reducible exact C4' _ _)))
  refine wpQuiet_nil ?_
  intro _ hw'
  obtain ⟨⟨dq, osq⟩, hw''⟩ := hw'
  subst hw''
  clear C1' C2' C3' C4' m0 m1 m2 m3 m4 m5
  have bw := below_regrown W dq osq
  have K0 := (bw.cell (p := ⟨w.heap.size + 1, 0, none⟩) hz2).trans Q0
  have K1 := (bw.cell (p := ⟨w.heap.size + 1, 1, none⟩) hz2).trans Q1
  have K2 := (bw.cell (p := ⟨w.heap.size + 1, 2, none⟩) hz2).trans Q2
  have K3 := (bw.cell (p := ⟨w.heap.size + 1, 3, none⟩) hz2).trans Q3
  have K4 := (bw.cell (p := ⟨w.heap.size + 1, 4, none⟩) hz2).trans Q4
  have K5 := (bw.cell (p := ⟨w.heap.size + 1, 5, none⟩) hz2).trans Q5
  have G0 (i : Nat) := (bw.frozen (p := ⟨w.heap.size + 1, i, none⟩) hz2).trans (F0 i)
  have HB3 : Hid (Below w.heap.size w (grow (redrawn W dq) osq)) := HB2.out.trans (bw.mono HB2.out.size)
  clear bw Q0 Q1 Q2 Q3 Q4 Q5 F0 HB2
  generalize grow (redrawn W dq) osq = W2 at *
  go_wp2
  exact bodyPost_ret (v := V6 wd ht cx cy L P) (by simp [results, Try.results21, go_sem, K0, K1, K2, K3, K4, K5]) rfl
    ⟨rfl, (((((HB3.out.setCell (by simp) _).setCell (by simp) _).setCell (by simp) _).setCell (by simp) _).setCell (by simp) _).setCell (by simp) _⟩
end Go.Proofs.Ytolmmgemahohoaa
