/- What spec.HexBytes, impl.HexOf and impl.HexBytes answer. Conditions: sizes up to 8192 bytes. -/
import Derived.Test.YtgemkjickljedaaGreatDoorHexW
import Derived.Laws.AppendOwnNone
namespace Go.Proofs.YtgemkjickljedaaGreatDoor
open Go.ChangeShapes Go.WideShapes Go.ChangeAt Go.RowKit

abbrev sLt : ByteArray := { data := #[60] }
abbrev sGt : ByteArray := { data := #[62] }

theorem app_size (s : ByteArray) : (sLt ++ s ++ sGt).size = s.size + 2 := by
  have h1 : sLt.size = 1 := rfl
  have h2 : sGt.size = 1 := rfl
  rw [ByteArray.size_append, ByteArray.size_append, h1, h2]; omega
theorem app_list (s : ByteArray) : (sLt ++ s ++ sGt).data.toList = 60 :: (s.data.toList ++ [62]) := by simp [ByteArray.data_append]
theorem app_get (s : ByteArray) (k : Nat) (h : k < s.size) : (sLt ++ s ++ sGt)[k + 1]'(by rw [app_size]; omega) = s[k] := by
  have h1 := get_of (s := sLt ++ s ++ sGt) (k := k + 1) (by rw [app_size]; omega)
  have h2 := get_of h
  rw [app_list, List.getElem?_cons_succ, List.getElem?_append_left (by simpa using h), h2] at h1
  exact (Option.some.inj h1).symm
theorem app_end (s : ByteArray) : ((sLt ++ s ++ sGt)[s.size + 1]'(by rw [app_size]; omega)).toNat = 62 := by
  have h1 := get_of (s := sLt ++ s ++ sGt) (k := s.size + 1) (by rw [app_size]; omega)
  rw [app_list, List.getElem?_cons_succ, List.getElem?_append_right (by simp)] at h1
  simp at h1
  rw [← h1]; rfl

theorem allHex_iff (s : ByteArray) : AllHex s.data.toList ↔ ∀ k (h : k < s.size), 0 ≤ hv s[k] := by
  constructor
  · intro h k hk
    exact h _ (List.mem_of_getElem? (get_of hk))
  · intro h c hc
    obtain ⟨k, hk, rfl⟩ := List.getElem_of_mem hc
    have hk' : k < s.size := by simpa using hk
    have := get_of hk'
    rw [List.getElem?_eq_getElem hk] at this
    rw [Option.some.inj this]
    exact h k hk'

set_option maxHeartbeats 4000000 in
set_option maxRecDepth 100000 in
theorem specHex_any (s : ByteArray) (w : World) (hs : s.size ≤ 8192) :
    Calls Tryz.prog 5 #[.string s] w fun e w' => ∃ (out : ByteArray) (ok : Bool), e = .returned (.tuple #[.string out, .bool ok]) ∧
      (AllHex s.data.toList → ok = true ∧ (s.size % 2 = 0 → out = ⟨(Lib.Hx.decode s.data.toList).1.toArray⟩)) ∧ (¬ AllHex s.data.toList → ok = false ∧ out = ⟨#[]⟩) ∧ Below w.heap.size w w' := by
  go_enter Tryz.func5, Tryz.ntmps5
  go_wp2_with (fail)
  go_loop [9] (fun iv => ∃ k : Nat, iv = .int .i64 k ∧ k ≤ s.size ∧ Hid (∀ j (h : j < s.size), j < k → 0 ≤ hv s[j])) (fun iv => s.size - (intOf iv).toNat)
  case atStart => exact ⟨0, rfl, Nat.zero_le _, fun j _ h => by omega⟩
  case round =>
    obtain ⟨k, rfl, hk, HA⟩ := hrel
    by_cases hlt : k < s.size
    · have hH := fun w => hex_any s[k] w
      by_cases hn : hv s[k] < 0
      · have hm := (hv_not _ hn).1
        rw [hm] at hH
        go_wp2_with (first
          | (go_at_call 14; refine (hH _).mono ?_; rintro e w3 ⟨rfl, rfl⟩))
        go_ret2
        exact ⟨_, _, rfl, fun h => absurd ((allHex_iff s).1 h k hlt) (by omega), fun _ => ⟨rfl, rfl⟩, Below.refl _ _⟩
      · obtain ⟨d, hd⟩ : ∃ d : Nat, hv s[k] = d := ⟨(hv s[k]).toNat, by omega⟩
        rw [hd] at hH
        go_wp2_with (first
          | (go_at_call 14; refine (hH _).mono ?_; rintro e w3 ⟨rfl, rfl⟩))
        go_round
        case rel => exact ⟨k + 1, by simp, by omega, fun j h hj => by
          rcases Nat.lt_or_eq_of_le (Nat.le_of_lt_succ hj) with h1 | rfl
          · exact HA.out j h h1
          · omega⟩
        case measure => simp [intOf]; omega
    · have hks : k = s.size := by omega
      subst hks
      have hall : AllHex s.data.toList := (allHex_iff s).2 (fun j h => HA.out j h h)
      have HA2 : Hid (AllHex s.data.toList) := hall
      have hR : Rd w.heap.size (sLt ++ s ++ sGt) 0 0 (w.alloc (.cells #[.string (sLt ++ s ++ sGt), .int .i64 0, .int .i64 0, .int .i64 0, .bool false, .bool false] 33)) := by
        constructor <;> go_simp <;> rfl
      have hrd := read_any w.heap.size s.size (sLt ++ s ++ sGt) (fun k => s.data.toList[k]?.getD 0) _ hs (app_size s) (fun k h => by rw [app_get s k h, get_of h]; rfl)
        (fun k h => by rw [get_of h]; exact (allHex_iff s).1 hall k h) (app_end s) hR (by simp)
      clear hall hR
      go_wp2_with (first
        | (go_at_call 15; refine hrd.mono ?_; rintro e w4 ⟨out, rfl, h1, h2, h3, h4⟩))
      go_quiet (fail)
      go_wp2
      go_ret2
      refine ⟨out, true, by simp, fun _ => ⟨rfl, fun he => ?_⟩, fun h => absurd HA2.out h, ?_⟩
      · rw [h1 he, decode_is _ HA2.out (by simpa using he)]
        simp
      · refine below_drewN (Below.trans ?_ h4) _
        exact (Below.refl _ _).alloc (Nat.le_refl _) _

theorem value_any (s : ByteArray) (w : World) : Calls Tryz.prog 46 #[.string s] w fun e w' => e = .returned (.string s) ∧ w' = w := by
  go_enter Tryz.func46, Tryz.ntmps46
  go_wp2
  go_ret
  exact ⟨rfl, rfl⟩

theorem bytes_any (s : ByteArray) (w : World) (ev : Value) (hE : w.cell? ⟨4, 0, none⟩ = some ev) (hs : s.size ≤ 8192) (l : List UInt8) (hd : Lib.Hx.decode s.data.toList = (l, .ok)) :
    Calls Tryz.prog 34 #[.string s] w fun e w' => ∃ v, e = .returned (.tuple #[v, .nilIface]) ∧ w'.ownsRow w.heap.size 5 1 v l.length (vals l) ∧ Below w.heap.size w w' := by
  have hh := Tryz.hex_DecodeString_owns s w ev hE (by omega)
  have hv := value_any s w
  rw [hd] at hh
  simp only [Lib.Hx.errVal] at hh
  go_enter Tryz.func34, Tryz.ntmps34
  go_wp2_with (first
    | (go_at_call 46; refine hv.mono ?_; rintro e w1 ⟨rfl, rfl⟩)
    | (go_at_call 45; refine hh.mono ?_; rintro e w1 ⟨v, rfl, h3, h4⟩))
  go_ret2
  exact ⟨v, rfl, h3, h4⟩

end Go.Proofs.YtgemkjickljedaaGreatDoor
