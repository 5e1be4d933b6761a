/- What laws.byteIn, spec.ascii, spec.clean and the test for PDFDocEncoding's control bytes answer. Conditions: at most 4096 bytes. -/
import Derived.Test.YtgemkjickljedaaGreatDoorVV
namespace Go.Proofs.YtgemkjickljedaaGreatDoor
open Go.ChangeShapes Go.WideShapes Go.ChangeAt Go.RowKit

theorem any_at {l : List UInt8} {p : UInt8 → Bool} {i : Nat} {c : UInt8} (h : l[i]? = some c) (hp : p c = true) : l.any p = true :=
  List.any_eq_true.2 ⟨c, List.mem_of_getElem? h, hp⟩
theorem any_step {l : List UInt8} {p : UInt8 → Bool} {i : Nat} {c : UInt8} (h : l[i]? = some c) (hp : p c = false) (ht : (l.take i).any p = false) : (l.take (i + 1)).any p = false := by
  obtain ⟨hi, rfl⟩ := List.getElem?_eq_some_iff.1 h
  rw [List.take_succ_eq_append_getElem hi, List.any_append, ht]
  simp [hp]
theorem any_end {l : List UInt8} {p : UInt8 → Bool} {i : Nat} (hi : l.length ≤ i) (ht : (l.take i).any p = false) : l.any p = false := by rwa [List.take_of_length_le hi] at ht

set_option maxRecDepth 100000 in
theorem byteIn_any (s : ByteArray) (b : UInt8) (w : World) (hs : s.size ≤ 4096) : Calls Tryz.prog 8 #[.string s, .int .u8 (b.toNat : Int)] w fun e w' => e = .returned (.bool (s.data.toList.any (· == b))) ∧ w' = w := by
  obtain ⟨bz, hb⟩ : ∃ bz : Int, bz = (b.toNat : Int) := ⟨_, rfl⟩
  obtain ⟨R, hR⟩ : ∃ R, s.data.toList.any (· == b) = R := ⟨_, rfl⟩
  rw [← hb, hR]
  have HB := Lib.hid hb
  have HRR := Lib.hid hR
  clear hR
  have hlen : s.data.toList.length = s.size := by simp
  have HL := Lib.hid hlen
  clear hb hlen
  go_enter Tryz.func8, Tryz.ntmps8
  go_wp2_with (fail)
  go_loop [8] (fun v => ∃ i : Nat, v = .int .i64 i ∧ i ≤ s.size ∧ Hid ((s.data.toList.take i).any (· == b) = false)) (fun v => s.size - (intOf v).toNat)
  case atStart => exact ⟨0, rfl, Nat.zero_le _, rfl⟩
  case round =>
    obtain ⟨i, rfl, hi, HM⟩ := hrel
    by_cases hlt : i < s.size
    · have hget := get_of hlt
      obtain ⟨c, hc⟩ : ∃ c, s[i] = c := ⟨_, rfl⟩
      rw [hc] at hget
      have HG := Lib.hid hget
      clear hget
      by_cases hcb : c = b
      · have z : ((c.toNat : Int) == bz) = true := by rw [HB.out, hcb]; simp
        have HR : Hid (s.data.toList.any (· == b) = true) := any_at HG.out (by simp [hcb])
        obtain rfl : R = true := HRR.out.symm.trans HR.out
        clear hcb
        go_wp2_with (fail)
        go_ret
        exact ⟨rfl, rfl⟩
      · have hne : c.toNat ≠ b.toNat := fun e => hcb (UInt8.toNat_inj.1 e)
        have z : ((c.toNat : Int) == bz) = false := by rw [HB.out]; simp; omega
        have HM2 : Hid ((s.data.toList.take (i + 1)).any (· == b) = false) := any_step HG.out (by simp [hcb]) HM.out
        clear hcb hne
        go_wp2_with (fail)
        go_round
        case rel => exact ⟨i + 1, by simp, by omega, HM2.out⟩
        case measure => simp [intOf]; omega
    · have HR : Hid (s.data.toList.any (· == b) = false) := any_end (by rw [HL.out]; omega) HM.out
      obtain rfl : R = false := HRR.out.symm.trans HR.out
      go_wp2_with (fail)
      go_ret
      exact ⟨rfl, rfl⟩

set_option maxRecDepth 100000 in
theorem ascii_any (s : ByteArray) (w : World) (hs : s.size ≤ 4096) : Calls Tryz.prog 19 #[.string s] w fun e w' => e = .returned (.bool (!s.data.toList.any (fun c => decide (127 < c.toNat)))) ∧ w' = w := by
  obtain ⟨R, hR⟩ : ∃ R, s.data.toList.any (fun c => decide (127 < c.toNat)) = R := ⟨_, rfl⟩
  rw [hR]
  have HRR := Lib.hid hR
  clear hR
  have hlen : s.data.toList.length = s.size := by simp
  have HL := Lib.hid hlen
  clear hlen
  go_enter Tryz.func19, Tryz.ntmps19
  go_wp2_with (fail)
  go_loop [6] (fun v => ∃ i : Nat, v = .int .i64 i ∧ i ≤ s.size ∧ Hid ((s.data.toList.take i).any (fun c => decide (127 < c.toNat)) = false)) (fun v => s.size - (intOf v).toNat)
  case atStart => exact ⟨0, rfl, Nat.zero_le _, rfl⟩
  case round =>
    obtain ⟨i, rfl, hi, HM⟩ := hrel
    by_cases hlt : i < s.size
    · have hget := get_of hlt
      obtain ⟨c, hc⟩ : ∃ c, s[i] = c := ⟨_, rfl⟩
      rw [hc] at hget
      have HG := Lib.hid hget
      clear hget
      by_cases hcb : 127 < c.toNat
      · have z : decide (127 < (c.toNat : Int)) = true := by simp; omega
        have HR : Hid (s.data.toList.any (fun c => decide (127 < c.toNat)) = true) := any_at HG.out (by simp [hcb])
        obtain rfl : R = true := HRR.out.symm.trans HR.out
        clear hcb
        go_wp2_with (fail)
        go_ret
        exact ⟨rfl, rfl⟩
      · have z : decide (127 < (c.toNat : Int)) = false := by simp; omega
        have HM2 : Hid ((s.data.toList.take (i + 1)).any (fun c => decide (127 < c.toNat)) = false) := any_step HG.out (by simp [hcb]) HM.out
        clear hcb
        go_wp2_with (fail)
        go_round
        case rel => exact ⟨i + 1, by simp, by omega, HM2.out⟩
        case measure => simp [intOf]; omega
    · have HR : Hid (s.data.toList.any (fun c => decide (127 < c.toNat)) = false) := any_end (by rw [HL.out]; omega) HM.out
      obtain rfl : R = false := HRR.out.symm.trans HR.out
      go_wp2_with (fail)
      go_ret
      exact ⟨rfl, rfl⟩

end Go.Proofs.YtgemkjickljedaaGreatDoor
