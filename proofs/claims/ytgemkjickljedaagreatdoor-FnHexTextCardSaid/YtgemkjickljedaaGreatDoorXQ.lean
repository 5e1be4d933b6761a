/- What types.ByteForOctalString answers of one to three octal digits. Conditions: none. -/
import Derived.Test.YtgemkjickljedaaGreatDoorXR
import Derived.Test.YtgemkjickljedaaGreatDoorShelf
import Derived.Laws.Bits64b
import Derived.Laws.IdiomStrings
namespace Go.Proofs.YtgemkjickljedaaGreatDoor.Lit
open Go.ChangeShapes Go.WideShapes Go.ChangeAt Go.RowKit

/-- What octal digits are worth. -/
def ov : List UInt8 → Nat := fun l => l.foldl (fun a c => 8 * a + (c.toNat - 48)) 0
theorem ov_snoc (l : List UInt8) (c : UInt8) : ov (l ++ [c]) = 8 * ov l + (c.toNat - 48) := by simp [ov]

theorem andu64 (x : Nat) (hx : x < 65536) : bits .and .u64 (x : Int) 255 = ((x % 256 : Nat) : Int) := by
  have h1 : (BitVec.ofInt 64 (x : Int)).toNat = x := by
    rw [BitVec.ofInt_natCast, BitVec.toNat_ofNat]; exact Nat.mod_eq_of_lt (by omega)
  have h2 : (BitVec.ofInt 64 (255 : Int)).toNat = 255 := by decide
  have h3 : x &&& 255 = x % 256 := Nat.and_two_pow_sub_one_eq_mod x 8
  show IntKind.u64.wrap ((BitVec.ofInt 64 (x : Int) &&& BitVec.ofInt 64 (255 : Int)).toNat : Int) = _
  rw [BitVec.toNat_and, h1, h2, h3]
  have : (x % 256 : Nat) < 256 := Nat.mod_lt _ (by decide)
  simp [IntKind.wrap, IntKind.signed, IntKind.bits]
  omega

theorem str_ne (s : ByteArray) (h : 1 ≤ s.size) : s.toList.isEmpty = false := by
  rw [ByteArray.toList_eq]
  cases hl : s.data.toList with
  | nil =>
    have : s.data.toList.length = s.size := by simp
    rw [hl] at this; simp at this; omega
  | cons _ _ => rfl

/-- '[]byte(s)': the bytes lie in a new block. -/
theorem octBytes_of (s : ByteArray) (w : World) : ∃ cap w0, (convert 9 43 (.string s)).run Tryz.prog w = .ok (.slice (some ⟨w.heap.size, 0, none⟩) s.size cap) w0 ∧ s.size ≤ cap ∧ w.heap.size < w0.heap.size ∧ Below w.heap.size w w0 ∧
    ∀ i (h : i < s.size), w0.cell? ⟨w.heap.size, i, none⟩ = some (.int .u8 s[i].toNat) := by
  refine ⟨_, _, run_bytes_of_string w 9 43 5 s Tryz.underlying9 Tryz.underlying43 Tryz.underlying5, grownCap_ge w s.size 0 5, by simp, ?_, ?_⟩
  · exact ((below_drewN (Below.refl w.heap.size w) 1).alloc (Nat.le_refl _) _)
  · intro i hi
    have h := heap_alloc_new w.drew (.cells (bytesRow s (grownCap w s.size 0 5)) 5 ((bytesRow s (grownCap w s.size 0 5)).size, (bytesRow s (grownCap w s.size 0 5)).size + 1))
    have hc := cell_of_row _ w.heap.size i (bytesRow s (grownCap w s.size 0 5)) 5 _ h
    rw [hc]
    have hi' : i < s.data.size := hi
    unfold bytesRow
    rw [Array.getElem?_append_left (by simpa using hi), Array.getElem?_map, Array.getElem?_eq_getElem hi']
    rfl

set_option maxHeartbeats 2000000 in
set_option maxRecDepth 100000 in
theorem parse8_any (s : ByteArray) (w : World) (h1 : 1 ≤ s.size) (h3 : s.size ≤ 3) (ho : ∀ k (h : k < s.size), oct s[k] = true) :
    Calls Tryz.prog 75 #[.string s, .int .i64 8, .int .i64 16] w fun e w' => e = .returned (.tuple #[.int .u64 (ov s.data.toList), .nilIface]) ∧ Below w.heap.size w w' ∧ ov s.data.toList ≤ 511 := by
  have hne := str_ne s h1
  obtain ⟨cap, w0, hcv, hcap, hlt, hb, hcells⟩ := octBytes_of s w
  have HO : Hid (∀ k (h : k < s.size), oct s[k] = true) := ho
  have HB : Hid (Below w.heap.size w w0) := hb
  have HC : Hid (∀ i (h : i < s.size), w0.cell? ⟨w.heap.size, i, none⟩ = some (.int .u8 s[i].toNat)) := hcells
  clear ho hb hcells
  go_enter Tryz.func75, Tryz.ntmps75
  go_wp2_with (fail)
  go_loop [12, 13, 101] (fun bv nv kv => ∃ (k v : Nat), kv = .int .i64 k ∧ nv = .int .u64 v ∧ bv = .bool false ∧ k ≤ s.size ∧ ((k = 0 ∧ v = 0) ∨ (k = 1 ∧ v ≤ 7) ∨ (k = 2 ∧ v ≤ 63) ∨ (k = 3 ∧ v ≤ 511)) ∧ Hid (v = ov (s.data.toList.take k))) (fun _ _ kv => s.size - (intOf kv).toNat)
  case atStart => exact ⟨0, 0, rfl, rfl, rfl, Nat.zero_le _, .inl ⟨rfl, rfl⟩, rfl⟩
  case round =>
    obtain ⟨k, v, rfl, rfl, rfl, hk, hkv, HV⟩ := hrel
    by_cases hl : k < s.size
    · have hcell := HC.out k hl
      have hoc := HO.out k hl
      have hget := get_of hl
      obtain ⟨c, hc⟩ : ∃ c, s[k] = c := ⟨_, rfl⟩
      rw [hc] at hcell hoc hget
      have ho2 : 48 ≤ c.toNat ∧ c.toNat ≤ 55 := by unfold oct at hoc; simpa using hoc
      obtain ⟨z, hz⟩ : ∃ z : Int, z = (c.toNat : Int) := ⟨_, rfl⟩
      obtain ⟨d, hd⟩ : ∃ d : Nat, d = c.toNat - 48 := ⟨_, rfl⟩
      rw [← hz] at hcell
      have e1 : (z == 95) = false := by simp; omega
      have e2 : decide (48 ≤ z) = true := by simp; omega
      have e3 : decide (z ≤ 57) = true := by simp; omega
      have e4 : z - 48 = (d : Int) := by omega
      have e5 : decide (8 ≤ (d : Int)) = false := by simp; omega
      have e6 : decide (2305843009213693952 ≤ (v : Int)) = false := by simp; omega
      have hv511 : v ≤ 63 := by omega
      have hd7 : d ≤ 7 := by omega
      have HN : Hid (8 * v + d = ov (s.data.toList.take (k + 1)) ∧ ((k + 1 = 0 ∧ 8 * v + d = 0) ∨ (k + 1 = 1 ∧ 8 * v + d ≤ 7) ∨ (k + 1 = 2 ∧ 8 * v + d ≤ 63) ∨ (k + 1 = 3 ∧ 8 * v + d ≤ 511))) := by
        refine ⟨?_, by omega⟩
        rw [List.take_add_one, hget, Option.toList_some, ov_snoc, HV.out, hd]
      have z48 : 48 ≤ z := by omega
      have z55 : z ≤ 55 := by omega
      clear hoc hget ho2 hz hd hkv hc
      go_wp2
      go_round
      case rel => exact ⟨k + 1, 8 * v + d, by simp, by congr 1; omega, rfl, by omega, HN.out.2, HN.out.1⟩
      case measure => simp [intOf]; omega
    · have HV2 : Hid (v = ov s.data.toList ∧ v ≤ 511) := ⟨by rw [HV.out, List.take_of_length_le (by simp; omega)], by omega⟩
      clear hkv HV
      go_wp2
      go_ret2
      exact ⟨by rw [← HV2.out.1]; rfl, HB.out, by rw [← HV2.out.1]; exact HV2.out.2⟩

/-- strconv.ParseUint the same. -/
theorem parseU8_any (s : ByteArray) (w : World) (h1 : 1 ≤ s.size) (h3 : s.size ≤ 3) (ho : ∀ k (h : k < s.size), oct s[k] = true) :
    Calls Tryz.prog 69 #[.string s, .int .i64 8, .int .i64 16] w fun e w' => e = .returned (.tuple #[.int .u64 (ov s.data.toList), .nilIface]) ∧ Below w.heap.size w w' ∧ ov s.data.toList ≤ 511 := by
  have hp := parse8_any s w h1 h3 ho
  clear h1 h3 ho
  go_enter Tryz.func69, Tryz.ntmps69
  go_wp2_with (go_at_call 75; refine Calls.mono (by with_reducible exact hp) ?_; rintro e w1 ⟨rfl, hb, hle⟩)
  go_ret2
  exact ⟨rfl, hb, hle⟩

/-- The byte that octal digits are. -/
theorem byteOct_any (s : ByteArray) (w : World) (h1 : 1 ≤ s.size) (h3 : s.size ≤ 3) (ho : ∀ k (h : k < s.size), oct s[k] = true) :
    Calls Tryz.prog 52 #[.string s] w fun e w' => e = .returned (.int .u8 (ov s.data.toList % 256 : Nat)) ∧ Below w.heap.size w w' := by
  have hp := parseU8_any s w h1 h3 ho
  have e1 : ((s.size : Int) == 0) = false := by rw [beq_eq_false_iff_ne]; omega
  have e2 : decide (3 < (s.size : Int)) = false := by simp; omega
  clear h1 h3 ho
  go_enter Tryz.func52, Tryz.ntmps52
  go_wp2_with (go_at_call 69; refine Calls.mono (by with_reducible exact hp) ?_; rintro e w1 ⟨rfl, hb, hle⟩; have ha := andu64 (ov s.data.toList) (by omega))
  go_ret
  exact ⟨rfl, hb⟩

end Go.Proofs.YtgemkjickljedaaGreatDoor.Lit
