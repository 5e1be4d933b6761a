/- What utf16.RuneLen, utf16.EncodeRune and utf16.Encode answer of code points. Conditions: at most 4096 code points. -/
import Derived.Test.YtgemkjickljedaaGreatDoorUJ
namespace Go.Proofs.YtgemkjickljedaaGreatDoor
open Go.ChangeShapes Go.WideShapes Go.ChangeAt Go.RowKit

theorem runeLen_small (z : Int) (h : (0 ≤ z ∧ z < 55296) ∨ (57344 ≤ z ∧ z < 65536)) (w : World) : Calls Tryz.prog 59 #[.int .i32 z] w fun e w' => e = .returned (.int .i64 1) ∧ w' = w := by
  rcases h with ⟨h1, h2⟩ | ⟨h1, h2⟩
  · have d1 : decide (0 ≤ z) = true := by simp; omega
    have d2 : decide (z < 55296) = true := by simp; omega
    clear h1 h2
    go_enter Tryz.func59, Tryz.ntmps59
    go_wp2
    go_ret
    exact ⟨rfl, rfl⟩
  · have d1 : decide (0 ≤ z) = true := by simp; omega
    have d2 : decide (z < 55296) = false := by simp; omega
    have d3 : decide (57344 ≤ z) = true := by simp; omega
    have d4 : decide (z < 65536) = true := by simp; omega
    clear h1 h2
    go_enter Tryz.func59, Tryz.ntmps59
    go_wp2
    go_ret
    exact ⟨rfl, rfl⟩
theorem runeLen_big (z : Int) (h : 65536 ≤ z ∧ z ≤ 1114111) (w : World) : Calls Tryz.prog 59 #[.int .i32 z] w fun e w' => e = .returned (.int .i64 2) ∧ w' = w := by
  obtain ⟨h1, h2⟩ := h
  have d1 : decide (0 ≤ z) = true := by simp; omega
  have d2 : decide (z < 55296) = false := by simp; omega
  have d3 : decide (57344 ≤ z) = true := by simp; omega
  have d4 : decide (z < 65536) = false := by simp; omega
  have d5 : decide (65536 ≤ z) = true := by simp; omega
  have d6 : decide (z ≤ 1114111) = true := by simp; omega
  clear h1 h2
  go_enter Tryz.func59, Tryz.ntmps59
  go_wp2
  go_ret
  exact ⟨rfl, rfl⟩

theorem and10 (x : Nat) (hx : x < 2097152) : bits .and .i32 (x : Int) 1023 = ((x % 1024 : Nat) : Int) := by
  have h1 : (BitVec.ofInt 32 (x : Int)).toNat = x := by
    rw [BitVec.ofInt_natCast, BitVec.toNat_ofNat]; exact Nat.mod_eq_of_lt (by omega)
  have h2 : (BitVec.ofInt 32 (1023 : Int)).toNat = 1023 := by decide
  have h3 : x &&& 1023 = x % 1024 := Nat.and_two_pow_sub_one_eq_mod x 10
  show IntKind.i32.wrap ((BitVec.ofInt 32 (x : Int) &&& BitVec.ofInt 32 (1023 : Int)).toNat : Int) = _
  rw [BitVec.toNat_and, h1, h2, h3, IntKind.wrap_i32]
  omega

set_option maxRecDepth 100000 in
theorem encodeRune_any (c : Nat) (z x y : Int) (hz : z = (c : Int)) (h1 : 65536 ≤ c) (h2 : c ≤ 1114111) (hx : x = ((55296 + (c - 65536) / 1024 : Nat) : Int)) (hy : y = ((56320 + (c - 65536) % 1024 : Nat) : Int)) (w : World) :
    Calls Tryz.prog 60 #[.int .i32 z] w fun e w' => e = .returned (.tuple #[.int .i32 x, .int .i32 y]) ∧ w' = w := by
  have d1 : decide (z < 65536) = false := by simp; omega
  have d2 : decide (1114111 < z) = false := by simp; omega
  obtain ⟨q, hq⟩ : ∃ q : Int, q = z - 65536 := ⟨_, rfl⟩
  have a1 : Value.int .i32 (bits .and .i32 (q / 1024) 1023) = .int .i32 (x - 55296) := by
    have := and10 ((c - 65536) / 1024) (by omega)
    rw [show (((c - 65536) / 1024 : Nat) : Int) = q / 1024 by omega] at this
    rw [this]; congr 1; omega
  have a2 : Value.int .i32 (bits .and .i32 q 1023) = .int .i32 (y - 56320) := by
    have := and10 (c - 65536) (by omega)
    rw [show ((c - 65536 : Nat) : Int) = q by omega] at this
    rw [this]; congr 1; omega
  have e1 : 55296 + (x - 55296) = x := by omega
  have e2 : 56320 + (y - 56320) = y := by omega
  have q0 : 0 ≤ q := by omega
  have q1 : q < 1048576 := by omega
  have x0 : 55296 ≤ x := by omega
  have x1 : x < 56320 := by omega
  have y0 : 56320 ≤ y := by omega
  have y1 : y < 57344 := by omega
  have z0 : 65536 ≤ z := by omega
  have z1 : z ≤ 1114111 := by omega
  have hq' : z - 65536 = q := hq.symm
  clear hq hz hx hy h1 h2
  go_enter Tryz.func60, Tryz.ntmps60
  go_wp2
  go_ret2
  exact ⟨rfl, rfl⟩

end Go.Proofs.YtgemkjickljedaaGreatDoor
