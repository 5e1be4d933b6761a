/- What utf16.DecodeRune, utf16.decode and utf16.Decode answer of code units that are code points. Conditions: at most 4096 code points. -/
import Derived.Test.YtgemkjickljedaaGreatDoorUQ
import Derived.WalkLawsBesides
import Derived.WalkSpells
import Derived.Lib.Hide
import Derived.BigQuiet
import Derived.WalkSmall
import Derived.ArgAppend
import Derived.Maps.AppendAt
namespace Go.Proofs.YtgemkjickljedaaGreatDoor
open Go.ChangeShapes Go.WideShapes Go.ChangeAt Go.RowKit

theorem Tryz.info21 : (Tryz.prog.info? 21).map (fun i => (i.zero, i.size, i.bytes)) = some (some (.int .i32 0), 1, 4) := by kernel_rfl
theorem Tryz.info67 : (Tryz.prog.info? 67).map (fun i => (i.zero, i.size, i.bytes)) = some (some (.int .u16 0), 1, 2) := by kernel_rfl

/-- Ten bits beside ten others. -/
theorem or32 (x y : Nat) (hx : x < 1024) (hy : y < 1024) : bits .or .i32 ((x : Int) * 1024) (y : Int) = ((1024 * x + y : Nat) : Int) := by
  have e : ((x : Int) * 1024) = ((1024 * x : Nat) : Int) := by omega
  have h1 : (BitVec.ofInt 32 ((1024 * x : Nat) : Int)).toNat = 1024 * x := by
    rw [BitVec.ofInt_natCast, BitVec.toNat_ofNat]; exact Nat.mod_eq_of_lt (by omega)
  have h2 : (BitVec.ofInt 32 (y : Int)).toNat = y := by
    rw [BitVec.ofInt_natCast, BitVec.toNat_ofNat]; exact Nat.mod_eq_of_lt (by omega)
  have h3 : 1024 * x ||| y = 1024 * x + y := (Nat.two_pow_add_eq_or_of_lt (i := 10) (by omega) x).symm
  rw [e]
  show IntKind.i32.wrap ((BitVec.ofInt 32 ((1024 * x : Nat) : Int) ||| BitVec.ofInt 32 (y : Int)).toNat : Int) = _
  rw [BitVec.toNat_or, h1, h2, h3, IntKind.wrap_i32]
  omega

set_option maxHeartbeats 1000000 in
set_option maxRecDepth 100000 in
theorem decodeRune_any (u v : Nat) (hu : 55296 ≤ u ∧ u < 56320) (hv : 56320 ≤ v ∧ v < 57344) (w : World) :
    Calls Tryz.prog 71 #[.int .i32 u, .int .i32 v] w fun e w' => e = .returned (.int .i32 (pair u v)) ∧ w' = w := by
  obtain ⟨p, hp⟩ : ∃ p, p = pair u v := ⟨_, rfl⟩
  have hor : Value.int .i32 (bits .or .i32 (((u : Int) - 55296) * 1024) ((v : Int) - 56320)) = .int .i32 (((u : Int) - 55296) * 1024 + ((v : Int) - 56320)) := by
    have := or32 (u - 55296) (v - 56320) (by omega) (by omega)
    rw [show ((u - 55296 : Nat) : Int) = (u : Int) - 55296 by omega, show ((v - 56320 : Nat) : Int) = (v : Int) - 56320 by omega] at this
    rw [this]; congr 1; omega
  have hpz : ((u : Int) - 55296) * 1024 + ((v : Int) - 56320) + 65536 = (p : Int) := by rw [hp]; unfold pair; omega
  rw [← hp]
  clear hp
  obtain ⟨u1, u2⟩ := hu
  obtain ⟨v1, v2⟩ := hv
  have a1 : (55296 : Int) ≤ (u : Int) := by omega
  have a2 : (u : Int) < 56320 := by omega
  have a3 : (56320 : Int) ≤ (v : Int) := by omega
  have a4 : (v : Int) < 57344 := by omega
  go_enter Tryz.func71, Tryz.ntmps71
  go_wp2

  go_ret
  exact ⟨by first | rfl | (rw [← hpz]; congr 2), rfl⟩

end Go.Proofs.YtgemkjickljedaaGreatDoor
