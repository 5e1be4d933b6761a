/- The law FnFilters returns true, and leaves what was there as it was. Conditions: none. -/
import Derived.Test.YtolmmgemahohoaaRows
import Derived.WalkKit
import Derived.WalkLawsBesides
import Derived.WalkSpells
import Derived.ProofKit
import Derived.Below
import Derived.Lib.Hide
import Derived.Outline
namespace Go.Proofs.Ytolmmgemahohoaa
open Go.ChangeShapes Go.WideShapes Go.ChangeAt Go.RowKit

abbrev sA85 : ByteArray := { data := #[65, 83, 67, 73, 73, 56, 53, 68, 101, 99, 111, 100, 101] }
abbrev sHex : ByteArray := { data := #[65, 83, 67, 73, 73, 72, 101, 120, 68, 101, 99, 111, 100, 101] }
abbrev sRun : ByteArray := { data := #[82, 117, 110, 76, 101, 110, 103, 116, 104, 68, 101, 99, 111, 100, 101] }
abbrev sLzw : ByteArray := { data := #[76, 90, 87, 68, 101, 99, 111, 100, 101] }
abbrev sFla : ByteArray := { data := #[70, 108, 97, 116, 101, 68, 101, 99, 111, 100, 101] }

/-- The names of all filters, and the four. -/
def Ls (i : Nat) : ByteArray := match i with | 0 => sA85 | 1 => sHex | 2 => sRun | 3 => sLzw | _ => sFla
def Fs (i : Nat) : ByteArray := match i with | 0 => sHex | 1 => sA85 | 2 => sRun | _ => sLzw

theorem lss : ∀ i, i < 5 → ∀ j, j < i → ((Ls i).toList == (Ls j).toList) = false := by decide +kernel

/-- How many of the first j names of the four are name i. -/
def hits (i : Nat) : Nat → Nat
  | 0 => 0
  | j + 1 => hits i j + if (Ls i).toList == (Fs j).toList then 1 else 0
theorem hits4 : ∀ i, i < 5 → min i 4 + hits i 4 = min (i + 1) 4 := by decide +kernel
theorem hits_le (i : Nat) : ∀ j, hits i j ≤ j
  | 0 => Nat.le_refl _
  | j + 1 => by have := hits_le i j; unfold hits; split <;> omega

theorem list_any (w : World) : Calls Try.prog 11 #[] w fun e w' => e = .returned (.slice (some ⟨w.heap.size, 0, none⟩) 5 5) ∧
    w.alloc (.cells #[.string sA85, .string sHex, .string sRun, .string sLzw, .string sFla] 9) = w' := by
  go_enter Try.func11, Try.ntmps11
  go_wp2
  go_ret
  exact ⟨rfl, rfl⟩

theorem name_any (j : Nat) (hj : j < 4) (w : World) : Calls Try.prog 12 #[.int .i64 j] w fun e w' => e = .returned (.string (Fs j)) ∧ Below w.heap.size w w' := by
  match j, hj with
  | 0, _ | 1, _ | 2, _ | 3, _ =>
    go_enter Try.func12, Try.ntmps12
    go_wp2
    go_ret
    exact ⟨rfl, (Below.refl _ _).alloc (Nat.le_refl _) _⟩

/-- What the loops keep: the list's cells. -/
def Lies (b : Nat) (w : World) : Prop := ∀ i, i < 5 → w.cell? ⟨b, i, none⟩ = some (.string (Ls i))
theorem Lies.below {b : Nat} {w w' : World} (h : Lies b w) (hb : Below w.heap.size w w') (hw : b < w.heap.size) : Lies b w' := fun i hi => by rw [hb.cell (by simpa using hw)]; exact h i hi

theorem lies_new (w : World) : Lies w.heap.size (w.alloc (.cells #[.string sA85, .string sHex, .string sRun, .string sLzw, .string sFla] 9)) := by
  intro i hi
  match i, hi with
  | 0, _ | 1, _ | 2, _ | 3, _ | 4, _ => go_simp; try rfl

set_option maxHeartbeats 1000000 in
theorem filters_law (n : Int) (w : World) (_wn : (Lit.int .i64 n).wf = true) : Calls Try.prog 3 #[.int .i64 n] w fun e w' => e = .returned (.bool true) ∧ Below w.heap.size w w' := by
  go_enter Try.func3, Try.ntmps3
  go_wp2_with fail
  refine (list_any _).mono ?_
  rintro e w1 ⟨rfl, h1⟩
  have HL : Lies w.heap.size w1 := by rw [← h1]; exact lies_new w
  have HZ : w.heap.size < w1.heap.size := by rw [← h1]; simp
  have HB : Hid (Below w.heap.size w w1) := by rw [← h1]; exact (Below.refl _ _).alloc (Nat.le_refl _) _
  clear h1
  generalize hbe : w.heap.size = b at HL HZ HB
  have HE := Lib.hid hbe
  clear hbe
  go_wp2_with fail
  go_loopw [4, 13] (fun m i wr => ∃ k : Nat, k ≤ 5 ∧ i = .int .i64 k ∧ m = .int .i64 (min k 4 : Nat) ∧ Lies b wr ∧ b < wr.heap.size ∧ Hid (Below b w wr)) (fun _ i _ => 5 - (intOf i).toNat)
  case atStart => exact ⟨0, by omega, rfl, rfl, HL, HZ, HB⟩
  case round =>
    obtain ⟨k, hk, rfl, rfl, HL, HZ, HB⟩ := hrel
    obtain ⟨wo, rfl⟩ : ∃ wo : World, wo = wr := ⟨_, rfl⟩
    by_cases hlt : k < 5
    · have hck := HL k hlt
      have HL' := Lib.hid HL
      clear HL
      go_wp2
      go_loop [22] (fun j => ∃ q : Nat, q ≤ k ∧ j = .int .i64 q) (fun j => k - (intOf j).toNat)
      case atStart => exact ⟨0, by omega, rfl⟩
      case round =>
        obtain ⟨q, hq, rfl⟩ := hrel
        by_cases hqk : q < k
        · have hcq := HL'.out q (by omega)
          have hne := lss k hlt q hqk
          go_wp2
          go_round
          case rel => exact ⟨q + 1, by omega, by go_num⟩
          case measure => simp [intOf]; omega
        · go_wp2
          have H4 : Hid (min k 4 + hits k 4 = min (k + 1) 4) := hits4 k hlt
          go_loopw [4, 9] (fun m j wr => ∃ q M : Nat, q ≤ 4 ∧ j = .int .i64 q ∧ m = .int .i64 (M : Int) ∧ Hid (M = min k 4 + hits k q) ∧ M ≤ 8 ∧ Hid (Lies b wr) ∧ b < wr.heap.size ∧ Hid (Below b w wr)) (fun _ j _ => 4 - (intOf j).toNat)
          case atStart => exact ⟨0, min k 4, by omega, rfl, rfl, rfl, by omega, HL', HZ, HB⟩
          case round =>
            obtain ⟨p, M, hp, rfl, rfl, HM, hM, HL2, HZ2, HB2⟩ := hrel
            by_cases hp4 : p < 4
            · have hle := hits_le k (p + 1)
              have HN : Hid (hits k (p + 1) = hits k p + if (Ls k).toList == (Fs p).toList then 1 else 0) := rfl
              cases heq : ((Ls k).toList == (Fs p).toList)
              · have HN' : Hid (M = min k 4 + hits k (p + 1)) := by have := HN.out; have := HM.out; rw [heq] at *; show M = _; simp at *; omega
                clear HN HM hle
                go_wp2_with fail
                refine (name_any p hp4 _).mono ?_
                rintro e w3 ⟨rfl, hb3⟩
                have HL3 : Hid (Lies b w3) := HL2.out.below hb3 HZ2
                have HZ3 : b < w3.heap.size := Nat.lt_of_lt_of_le HZ2 hb3.size
                have HB3 : Hid (Below b w w3) := HB2.out.trans (hb3.mono (by omega))
                clear hb3 HL2 HB2
                go_wp2
                go_roundw
                case rel => exact ⟨p + 1, M, by omega, by go_num, rfl, HN', hM, HL3, HZ3, HB3⟩
                case measure => simp [intOf]; omega
              · have HN' : Hid (M + 1 = min k 4 + hits k (p + 1)) := by have := HN.out; have := HM.out; rw [heq] at *; show M + 1 = _; simp at *; omega
                have hM' : M + 1 ≤ 8 := by have := HN'.out; omega
                clear HN HM hle
                go_wp2_with fail
                refine (name_any p hp4 _).mono ?_
                rintro e w3 ⟨rfl, hb3⟩
                have HL3 : Hid (Lies b w3) := HL2.out.below hb3 HZ2
                have HZ3 : b < w3.heap.size := Nat.lt_of_lt_of_le HZ2 hb3.size
                have HB3 : Hid (Below b w w3) := HB2.out.trans (hb3.mono (by omega))
                clear hb3 HL2 HB2
                go_wp2
                go_roundw
                case rel => exact ⟨p + 1, M + 1, by omega, by go_num, by go_num, HN', hM', HL3, HZ3, HB3⟩
                case measure => simp [intOf]; omega
            · have HP : Hid (M = min (k + 1) 4) := by
                have := HM.out; have h4 := H4.out
                have hp' : p = 4 := by omega
                rw [hp'] at this
                show M = _
                omega
              go_wp2
              go_roundw
              case rel => exact ⟨k + 1, by omega, by go_num, by rw [HP.out], HL2.out, HZ2, HB2⟩
              case measure => simp [intOf]; omega
    · have HM : Hid ((min k 4 : Nat) = 4) := by show min k 4 = 4; omega
      go_wp2
      go_ret
      exact ⟨by rw [HM.out]; rfl, by rw [HE.out]; exact HB.out⟩
end Go.Proofs.Ytolmmgemahohoaa
