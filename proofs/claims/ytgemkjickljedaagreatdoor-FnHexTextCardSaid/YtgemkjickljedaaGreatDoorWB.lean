/- What spec.clean, the test for PDFDocEncoding's control bytes and HexLiteral.Bytes answer. Conditions: at most 4096 bytes. -/
import Derived.Test.YtgemkjickljedaaGreatDoorWA
namespace Go.Proofs.YtgemkjickljedaaGreatDoor
open Go.ChangeShapes Go.WideShapes Go.ChangeAt Go.RowKit

/-- A control sign but a tab and a line's end. -/
def dirty (c : UInt8) : Bool := decide ((c.toNat < 32 ∧ c.toNat ≠ 9 ∧ c.toNat ≠ 10 ∧ c.toNat ≠ 13) ∨ c.toNat = 127)

set_option maxHeartbeats 1000000 in
set_option maxRecDepth 100000 in
theorem clean_any (s : ByteArray) (w : World) (hs : s.size ≤ 4096) : Calls Tryz.prog 18 #[.string s] w fun e w' => e = .returned (.bool (!s.data.toList.any dirty)) ∧ w' = w := by
  obtain ⟨R, hR⟩ : ∃ R, s.data.toList.any dirty = R := ⟨_, rfl⟩
  rw [hR]
  have HRR := Lib.hid hR
  have hlen : s.data.toList.length = s.size := by simp
  have HL := Lib.hid hlen
  clear hlen hR
  go_enter Tryz.func18, Tryz.ntmps18
  go_wp2_with (fail)
  go_loop [6] (fun v => ∃ i : Nat, v = .int .i64 i ∧ i ≤ s.size ∧ Hid ((s.data.toList.take i).any dirty = false)) (fun v => s.size - (intOf v).toNat)
  case atStart => exact ⟨0, rfl, Nat.zero_le _, rfl⟩
  case round =>
    obtain ⟨i, rfl, hi, HM⟩ := hrel
    by_cases hlt : i < s.size
    · have hget := get_of hlt
      obtain ⟨c, hc⟩ : ∃ c, s[i] = c := ⟨_, rfl⟩
      rw [hc] at hget
      have HG := Lib.hid hget
      have lc := c.toNat_lt
      clear hget
      by_cases hd : dirty c = true
      · have HR : Hid (s.data.toList.any dirty = true) := any_at HG.out hd
        obtain rfl : R = true := HRR.out.symm.trans HR.out
        have hd' : (c.toNat < 32 ∧ c.toNat ≠ 9 ∧ c.toNat ≠ 10 ∧ c.toNat ≠ 13) ∨ c.toNat = 127 := of_decide_eq_true hd
        clear hd
        rcases hd' with ⟨h1, h2, h3, h4⟩ | h1
        · have d1 : decide ((c.toNat : Int) < 32) = true := by simp; omega
          have d2 : ((c.toNat : Int) != 9) = true := by simp; omega
          have d3 : ((c.toNat : Int) != 10) = true := by simp; omega
          have d4 : ((c.toNat : Int) != 13) = true := by simp; omega
          clear h1 h2 h3 h4
          go_wp2_with (fail)
          go_ret
          exact ⟨rfl, rfl⟩
        · have d1 : decide ((c.toNat : Int) < 32) = false := by simp; omega
          have d2 : ((c.toNat : Int) == 127) = true := by simp; omega
          clear h1
          go_wp2_with (fail)
          go_ret
          exact ⟨rfl, rfl⟩
      · have HM2 : Hid ((s.data.toList.take (i + 1)).any dirty = false) := any_step HG.out (by simpa using hd) HM.out
        have hd' : ¬ ((c.toNat < 32 ∧ c.toNat ≠ 9 ∧ c.toNat ≠ 10 ∧ c.toNat ≠ 13) ∨ c.toNat = 127) := fun h => hd (decide_eq_true h)
        have h127 : ((c.toNat : Int) == 127) = false := by simp; omega
        clear hd
        by_cases h1 : c.toNat < 32
        · have d1 : decide ((c.toNat : Int) < 32) = true := by simp; omega
          by_cases h2 : c.toNat = 9
          · have d2 : ((c.toNat : Int) != 9) = false := by simp; omega
            clear h1 h2 hd'
            go_wp2_with (fail)
            go_round
            case rel => exact ⟨i + 1, by simp, by omega, HM2.out⟩
            case measure => simp [intOf]; omega
          · have d2 : ((c.toNat : Int) != 9) = true := by simp; omega
            by_cases h3 : c.toNat = 10
            · have d3 : ((c.toNat : Int) != 10) = false := by simp; omega
              clear h1 h2 h3 hd'
              go_wp2_with (fail)
              go_round
              case rel => exact ⟨i + 1, by simp, by omega, HM2.out⟩
              case measure => simp [intOf]; omega
            · have d3 : ((c.toNat : Int) != 10) = true := by simp; omega
              have d4 : ((c.toNat : Int) != 13) = false := by simp; omega
              clear h1 h2 h3 hd'
              go_wp2_with (fail)
              go_round
              case rel => exact ⟨i + 1, by simp, by omega, HM2.out⟩
              case measure => simp [intOf]; omega
        · have d1 : decide ((c.toNat : Int) < 32) = false := by simp; omega
          clear h1 hd'
          go_wp2_with (fail)
          go_round
          case rel => exact ⟨i + 1, by simp, by omega, HM2.out⟩
          case measure => simp [intOf]; omega
    · have HR : Hid (s.data.toList.any dirty = false) := any_end (by rw [HL.out]; omega) HM.out
      obtain rfl : R = false := HRR.out.symm.trans HR.out
      go_wp2_with (fail)
      go_ret
      exact ⟨rfl, rfl⟩

def ctl (c : UInt8) : Bool := decide (24 ≤ c.toNat ∧ c.toNat ≤ 31)
set_option maxRecDepth 100000 in
theorem ctl_any (l : List UInt8) (g o n cap : Nat) (w : World) (hn : n = l.length) (hs : n ≤ 4096) (hc : ∀ i c, l[i]? = some c → w.cell? ⟨g, o + i, none⟩ = some (.int .u8 c.toNat)) :
    Calls Tryz.prog 40 #[.slice (some ⟨g, o, none⟩) n cap] w fun e w' => e = .returned (.bool (l.any ctl)) ∧ w' = w := by
  obtain ⟨R, hR⟩ : ∃ R, l.any ctl = R := ⟨_, rfl⟩
  rw [hR]
  have HRR := Lib.hid hR
  have HC := Lib.hid hc
  have HN := Lib.hid hn
  clear hR hc hn
  go_enter Tryz.func40, Tryz.ntmps40
  go_wp2_with (fail)
  go_loop [7] (fun v => ∃ i : Nat, v = .int .i64 i ∧ i ≤ n ∧ Hid ((l.take i).any ctl = false)) (fun v => n - (intOf v).toNat)
  case atStart => exact ⟨0, rfl, Nat.zero_le _, rfl⟩
  case round =>
    obtain ⟨i, rfl, hi, HM⟩ := hrel
    by_cases hlt : i < n
    · have hl : i < l.length := by have := HN.out; omega
      obtain ⟨c, hcc⟩ : ∃ c, l[i]? = some c := ⟨_, List.getElem?_eq_getElem hl⟩
      have HG := Lib.hid hcc
      have hcell := HC.out i c hcc
      have lc := c.toNat_lt
      clear hcc hl
      by_cases hd : ctl c = true
      · have HR : Hid (l.any ctl = true) := any_at HG.out hd
        obtain rfl : R = true := HRR.out.symm.trans HR.out
        have hd' : 24 ≤ c.toNat ∧ c.toNat ≤ 31 := of_decide_eq_true hd
        have d1 : decide (24 ≤ (c.toNat : Int)) = true := by simp; omega
        have d2 : decide ((c.toNat : Int) ≤ 31) = true := by simp; omega
        clear hd hd'
        go_wp2_with (fail)
        go_ret
        exact ⟨rfl, rfl⟩
      · have HM2 : Hid ((l.take (i + 1)).any ctl = false) := any_step HG.out (by simpa using hd) HM.out
        have hd' : ¬ (24 ≤ c.toNat ∧ c.toNat ≤ 31) := fun h => hd (decide_eq_true h)
        clear hd
        by_cases h1 : 24 ≤ c.toNat
        · have d1 : decide (24 ≤ (c.toNat : Int)) = true := by simp; omega
          have d2 : decide ((c.toNat : Int) ≤ 31) = false := by simp; omega
          clear h1 hd'
          go_wp2_with (fail)
          go_round
          case rel => exact ⟨i + 1, by simp, by omega, HM2.out⟩
          case measure => simp [intOf]; omega
        · have d1 : decide (24 ≤ (c.toNat : Int)) = false := by simp; omega
          clear h1 hd'
          go_wp2_with (fail)
          go_round
          case rel => exact ⟨i + 1, by simp, by omega, HM2.out⟩
          case measure => simp [intOf]; omega
    · have HR : Hid (l.any ctl = false) := any_end (by have := HN.out; omega) HM.out
      obtain rfl : R = false := HRR.out.symm.trans HR.out
      go_wp2_with (fail)
      go_ret
      exact ⟨rfl, rfl⟩

end Go.Proofs.YtgemkjickljedaaGreatDoor
