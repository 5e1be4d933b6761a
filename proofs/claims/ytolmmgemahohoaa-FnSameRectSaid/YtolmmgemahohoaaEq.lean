/- The law FnSameRect returns true, and leaves what was there as it was. Conditions: none. -/
import Derived.Test.YtolmmgemahohoaaMoved
import Derived.Deep.RegionWith
namespace Go.Proofs.Ytolmmgemahohoaa
open Go.ChangeShapes Go.WideShapes Go.ChangeAt Go.RowKit Go.Dy Go.Sort
attribute [local go_sem] run_equalIn_float
attribute [local go_sem ↓] Go.wp_at_zero Go.wp_at_succ

theorem eql57 (a b a' b' : Nat) (w : World) : (binOp .eql 57 (.agg #[.float .f64 a, .float .f64 b]) (.agg #[.float .f64 a', .float .f64 b'])).run Try.prog w =
    .ok (.bool (FloatKind.f64.format.order a a' == some .eq && FloatKind.f64.format.order b b' == some .eq)) w := by
  have hS : Try.prog.underlying 57 = some (.struct (Try.prog.fieldsOf 57)) := by kernel_rfl
  have hp : Try.prog.stoodInHeld 57 = false := by kernel_rfl
  rw [run_eql_struct, show (10000 : Nat) = 9999 + 1 from rfl, run_equalIn_agg w 9999 57 _ _ hS hp]
  have u26 := Try.underlying26
  simp only [Program.fieldsOf, Try.underlying57]
  go_simp
  by_cases h1 : FloatKind.f64.format.order a a' = some .eq <;> by_cases h2 : FloatKind.f64.format.order b b' = some .eq <;> simp [h1, h2]

theorem equals_any (a b c d a' b' c' d' : Nat) (w : World) :
    Calls Try.prog 26 #[R4 a b c d, R4 a' b' c' d'] w fun e w' => e = .returned (.bool (same4 a b c d a' b' c' d')) ∧ Below w.heap.size w w' := by
  have q1 := eql57 a b a' b'
  have q2 := eql57 c d c' d'
  have HS : Hid (same4 a b c d a' b' c' d' = ((FloatKind.f64.format.order a a' == some .eq && FloatKind.f64.format.order b b' == some .eq) && (FloatKind.f64.format.order c c' == some .eq && FloatKind.f64.format.order d d' == some .eq))) := by
    show same4 a b c d a' b' c' d' = _
    unfold same4; simp only [Bool.and_assoc]
  generalize (FloatKind.f64.format.order a a' == some .eq && FloatKind.f64.format.order b b' == some .eq) = x at *
  generalize (FloatKind.f64.format.order c c' == some .eq && FloatKind.f64.format.order d d' == some .eq) = y at *
  rw [HS.out]
  clear HS
  cases x
  · go_enter Try.func26, Try.ntmps26
    go_wp2
    go_ret
    exact ⟨rfl, ((Below.refl _ _).alloc (Nat.le_refl _) _).alloc (by simp) _⟩
  · go_enter Try.func26, Try.ntmps26
    go_wp2
    go_ret
    exact ⟨rfl, ((Below.refl _ _).alloc (Nat.le_refl _) _).alloc (by simp) _⟩

set_option maxHeartbeats 1000000 in
theorem sameRect_any (a b c d a' b' c' d' : Nat) (w : World) :
    Calls Try.prog 14 #[R4 a b c d, R4 a' b' c' d'] w fun e w' => e = .returned (.bool (same4 a b c d a' b' c' d')) ∧ Below w.heap.size w w' := by
  have e1 := equals_any a b c d a' b' c' d'
  generalize same4 a b c d a' b' c' d' = B at *
  have E1 := Lib.hid e1
  clear e1
  go_enter Try.func14, Try.ntmps14
  go_wp2_with fail
  go_region_with (first | (go_at_call 25; (first | (with_reducible refine (rectangle_any a b c d _).mono ?_) | (with_reducible refine (rectangle_any a' b' c' d' _).mono ?_)); rintro e w' ⟨rfl, rfl⟩) | (go_at_call 26; (with_reducible refine (E1.out _).mono ?_); rintro e w' ⟨rfl, hb⟩; have HB := Lib.hid hb; clear hb))
  all_goals
    go_wp2
    go_ret
    refine ⟨rfl, Below.trans ?_ (HB.out.mono (by simp; omega))⟩
    repeat (first | exact Below.refl _ _ | refine Below.drew ?_ | refine Below.alloc ?_ (by simp; try omega) _)

set_option maxHeartbeats 1000000 in
theorem same_law (a b c d a' b' c' d' : Nat) (w : World) :
    Calls Try.prog 4 #[R4 a b c d, R4 a' b' c' d'] w fun e w' => e = .returned (.bool true) ∧ Below w.heap.size w w' := by
  go_enter Try.func4, Try.ntmps4
  go_wp2_with fail
  refine (plain_any a b c d _).mono ?_
  rintro e w1 ⟨⟨r, rfl, hr⟩, hb⟩
  have B1 : Hid (Below w.heap.size w w1) := ((((Below.refl _ _).alloc (Nat.le_refl _) _).alloc (by simp) _).trans (hb.mono (by simp; omega)))
  have hz : w.heap.size + 1 < w1.heap.size := by have := hb.size; simp at this; omega
  have k0 : w1.cell? ⟨w.heap.size, 0, none⟩ = some (.float .f64 a) := by rw [hb.cell (by simp; omega)]; go_simp
  have k1 : w1.cell? ⟨w.heap.size, 1, none⟩ = some (.float .f64 b) := by rw [hb.cell (by simp; omega)]; go_simp
  have k2 : w1.cell? ⟨w.heap.size, 2, none⟩ = some (.float .f64 c) := by rw [hb.cell (by simp; omega)]; go_simp
  have k3 : w1.cell? ⟨w.heap.size, 3, none⟩ = some (.float .f64 d) := by rw [hb.cell (by simp; omega)]; go_simp
  have j0 : w1.cell? ⟨w.heap.size + 1, 0, none⟩ = some (.float .f64 a') := by rw [hb.cell (by simp)]; go_simp
  have j1 : w1.cell? ⟨w.heap.size + 1, 1, none⟩ = some (.float .f64 b') := by rw [hb.cell (by simp)]; go_simp
  have j2 : w1.cell? ⟨w.heap.size + 1, 2, none⟩ = some (.float .f64 c') := by rw [hb.cell (by simp)]; go_simp
  have j3 : w1.cell? ⟨w.heap.size + 1, 3, none⟩ = some (.float .f64 d') := by rw [hb.cell (by simp)]; go_simp
  clear hb
  cases r with
  | false =>
    clear hr
    go_wp2
    go_ret
    exact ⟨rfl, B1.out⟩
  | true =>
    obtain ⟨n1, n2, n3, n4, hR⟩ := hr rfl
    have hs := same4_self hR.1 hR.2.1 hR.2.2.1 hR.2.2.2.1
    clear hr hR
    have HS := Lib.hid hs
    clear hs
    go_wp2_with fail
    refine (plain_any a' b' c' d' _).mono ?_
    rintro e w2 ⟨⟨r, rfl, hr⟩, hb⟩
    clear hr
    have B2 : Hid (Below w.heap.size w w2) := B1.out.trans (hb.mono (by omega))
    have K0 : w2.cell? ⟨w.heap.size, 0, none⟩ = some (.float .f64 a) := by rw [hb.cell (by simp; omega)]; exact k0
    have K1 : w2.cell? ⟨w.heap.size, 1, none⟩ = some (.float .f64 b) := by rw [hb.cell (by simp; omega)]; exact k1
    have K2 : w2.cell? ⟨w.heap.size, 2, none⟩ = some (.float .f64 c) := by rw [hb.cell (by simp; omega)]; exact k2
    have K3 : w2.cell? ⟨w.heap.size, 3, none⟩ = some (.float .f64 d) := by rw [hb.cell (by simp; omega)]; exact k3
    have J0 : w2.cell? ⟨w.heap.size + 1, 0, none⟩ = some (.float .f64 a') := by rw [hb.cell (by simp; omega)]; exact j0
    have J1 : w2.cell? ⟨w.heap.size + 1, 1, none⟩ = some (.float .f64 b') := by rw [hb.cell (by simp; omega)]; exact j1
    have J2 : w2.cell? ⟨w.heap.size + 1, 2, none⟩ = some (.float .f64 c') := by rw [hb.cell (by simp; omega)]; exact j2
    have J3 : w2.cell? ⟨w.heap.size + 1, 3, none⟩ = some (.float .f64 d') := by rw [hb.cell (by simp; omega)]; exact j3
    clear hb B1 k0 k1 k2 k3 j0 j1 j2 j3 hz
    cases r with
    | false =>
      go_wp2
      go_ret
      exact ⟨rfl, B2.out⟩
    | true =>
      have cM : ∀ p os, Calls Try.prog 14 #[R4 a b c d, R4 a' b' c' d'] (grow (redrawn w2 p) os) fun e w'' => e = .returned (.bool (same4 a b c d a' b' c' d')) ∧ ∃ q : Regrown, w'' = grow (redrawn w2 q.d) q.os :=
        fun p os => Calls.regrown_of (sameRect_any a b c d a' b' c' d' _)
      have cF : ∀ p os, Calls Try.prog 14 #[R4 a b c d, R4 a b c d] (grow (redrawn w2 p) os) fun e w'' => e = .returned (.bool true) ∧ ∃ q : Regrown, w'' = grow (redrawn w2 q.d) q.os :=
        fun p os => by have h := sameRect_any a b c d a b c d (grow (redrawn w2 p) os); rw [HS.out] at h; exact Calls.regrown_of h
      have q1 := eql28 a b c d a' b' c' d'
      generalize same4 a b c d a' b' c' d' = B at *
      have L0 := cell_regrown K0
      have L1 := cell_regrown K1
      have L2 := cell_regrown K2
      have L3 := cell_regrown K3
      have M0 := cell_regrown J0
      have M1 := cell_regrown J1
      have M2 := cell_regrown J2
      have M3 := cell_regrown J3
      clear K0 K1 K2 K3 J0 J1 J2 J3
      have hB : (B == B) = true := by simp
      go_wp2_with fail
      refine wp_region_quiet_below (by kernel_rfl) (by kernel_rfl) ?_
      repeat (quiet_step (first | (with_reducible exact cM _ _) | (with_reducible exact cF _ _)))
      refine wpQuiet_nil ?_
      intro _ hw'
      obtain ⟨⟨dq, osq⟩, hw''⟩ := hw'
      subst hw''
      go_wp2
      go_ret
      exact ⟨rfl, B2.out.trans ((below_regrown w2 dq osq).mono B2.out.size)⟩
end Go.Proofs.Ytolmmgemahohoaa
