/- What spec.HexBytes, impl.HexOf and impl.HexBytes answer. Conditions: sizes up to 8192 bytes. -/
import Derived.Test.YtgemkjickljedaaDoorHexW
import Derived.Laws.AppendOwnNone
namespace Go.Proofs.YtgemkjickljedaaDoor
open Go.ChangeShapes Go.WideShapes Go.ChangeAt Go.RowKit

abbrev sLt : ByteArray := { data := #[60] }
abbrev sGt : ByteArray := { data := #[62] }

theorem app_size (s : ByteArray) : (sLt ++ s ++ sGt).size = s.size + 2 := by
  have h1 : sLt.size = 1 := rfl
  have h2 : sGt.size = 1 := rfl
  rw [ByteArray.size_append, ByteArray.size_append, h1, h2]; omega
theorem app_list (s : ByteArray) : (sLt ++ s ++ sGt).data.toList = 60 :: (s.data.toList ++ [62]) := by simp [ByteArray.data_append]
theorem app_get (s : ByteArray) (k : Nat) (h : k < s.size) : (sLt ++ s ++ sGt)[k + 1]'(by rw [app_size]; omega) = s[k] := by
  have h1 := get_of (s := sLt ++ s ++ sGt) (k := k + 1) (by rw [app_size]; omega)
  have h2 := get_of h
  rw [app_list, List.getElem?_cons_succ, List.getElem?_append_left (by simpa using h), h2] at h1
  exact (Option.some.inj h1).symm
theorem app_end (s : ByteArray) : ((sLt ++ s ++ sGt)[s.size + 1]'(by rw [app_size]; omega)).toNat = 62 := by
  have h1 := get_of (s := sLt ++ s ++ sGt) (k := s.size + 1) (by rw [app_size]; omega)
  rw [app_list, List.getElem?_cons_succ, List.getElem?_append_right (by simp)] at h1
  simp at h1
  rw [← h1]; rfl

theorem allHex_iff (s : ByteArray) : AllHex s.data.toList ↔ ∀ k (h : k < s.size), 0 ≤ hv s[k] := by
  constructor
  · intro h k hk
    exact h _ (List.mem_of_getElem? (get_of hk))
  · intro h c hc
    obtain ⟨k, hk, rfl⟩ := List.getElem_of_mem hc
    have hk' : k < s.size := by simpa using hk
    have := get_of hk'
    rw [List.getElem?_eq_getElem hk] at this
    rw [Option.some.inj this]
    exact h k hk'

set_option maxHeartbeats 4000000 in
set_option maxRecDepth 100000 in
theorem specHex_any (s : ByteArray) (w : World) (hs : s.size ≤ 8192) :
    Calls Tryd.prog 9 #[.string s] w fun e w' => ∃ (out : ByteArray) (ok : Bool), e = .returned (.tuple #[.string out, .bool ok]) ∧
      (AllHex s.data.toList → ok = true ∧ (s.size % 2 = 0 → out = ⟨(Lib.Hx.decode s.data.toList).1.toArray⟩)) ∧ (¬ AllHex s.data.toList → ok = false) ∧ Below w.heap.size w w' := by
  go_enter Tryd.func9, Tryd.ntmps9
  go_wp2_with (fail)
  go_loop [9] (fun iv => ∃ k : Nat, iv = .int .i64 k ∧ k ≤ s.size ∧ Hid (∀ j (h : j < s.size), j < k → 0 ≤ hv s[j])) (fun iv => s.size - (intOf iv).toNat)
  case atStart => exact ⟨0, rfl, Nat.zero_le _, fun j _ h => by omega⟩
  case round =>
    obtain ⟨k, rfl, hk, HA⟩ := hrel
    by_cases hlt : k < s.size
    · have hH := fun w => hex_any s[k] w
      by_cases hn : hv s[k] < 0
      · have hm := (hv_not _ hn).1
        rw [hm] at hH
        go_wp2_with (first
          | (go_at_call 25; refine (hH _).mono ?_; rintro e w3 ⟨rfl, rfl⟩))
        go_ret2
        exact ⟨_, _, rfl, fun h => absurd ((allHex_iff s).1 h k hlt) (by omega), fun _ => rfl, Below.refl _ _⟩
      · obtain ⟨d, hd⟩ : ∃ d : Nat, hv s[k] = d := ⟨(hv s[k]).toNat, by omega⟩
        rw [hd] at hH
        go_wp2_with (first
          | (go_at_call 25; refine (hH _).mono ?_; rintro e w3 ⟨rfl, rfl⟩))
        go_round
        case rel => exact ⟨k + 1, by simp, by omega, fun j h hj => by
          rcases Nat.lt_or_eq_of_le (Nat.le_of_lt_succ hj) with h1 | rfl
          · exact HA.out j h h1
          · omega⟩
        case measure => simp [intOf]; omega
    · have hks : k = s.size := by omega
      subst hks
      have hall : AllHex s.data.toList := (allHex_iff s).2 (fun j h => HA.out j h h)
      have HA2 : Hid (AllHex s.data.toList) := hall
      have hR : Rd w.heap.size (sLt ++ s ++ sGt) 0 0 (w.alloc (.cells #[.string (sLt ++ s ++ sGt), .int .i64 0, .int .i64 0, .int .i64 0, .bool false, .bool false] 36)) := by
        constructor <;> go_simp <;> rfl
      have hrd := read_any w.heap.size s.size (sLt ++ s ++ sGt) (fun k => s.data.toList[k]?.getD 0) _ hs (app_size s) (fun k h => by rw [app_get s k h, get_of h]; rfl)
        (fun k h => by rw [get_of h]; exact (allHex_iff s).1 hall k h) (app_end s) hR (by simp)
      clear hall hR
      go_wp2_with (first
        | (go_at_call 26; refine hrd.mono ?_; rintro e w4 ⟨out, rfl, h1, h2, h3, h4⟩))
      go_quiet (fail)
      go_wp2
      go_ret2
      refine ⟨out, true, by simp, fun _ => ⟨rfl, fun he => ?_⟩, fun h => absurd HA2.out h, ?_⟩
      · rw [h1 he, decode_is _ HA2.out (by simpa using he)]
        simp
      · refine below_drewN (Below.trans ?_ h4) _
        exact (Below.refl _ _).alloc (Nat.le_refl _) _

theorem newHex_any (bs n cs : Nat) (xs : List Int) (w : World) (hx : xs.length = n) (hr : ∀ i, i < n → 0 ≤ xs.getD i 0 ∧ xs.getD i 0 < 256) (hsrc : ∀ i, i < n → w.cell? ⟨bs, 0 + i, none⟩ = some (.int .u8 (xs.getD i 0)))
    (hb : bs < w.heap.size) (hn : n ≤ 4096) :
    Calls Tryd.prog 24 #[.slice (some ⟨bs, 0, none⟩) n cs] w fun e w' => e = .returned (.string ⟨(Lib.Hx.encode (Lib.bytesOf xs)).toArray⟩) ∧ Below w.heap.size w w' := by
  have hh := Tryd.hex_EncodeToString bs 0 n cs xs w hx hr hsrc hb (by omega)
  go_enter Tryd.func24, Tryd.ntmps24
  go_wp2_with (first
    | (go_at_call 44; refine hh.mono ?_; rintro e w4 ⟨rfl, h4⟩))
  go_ret
  exact ⟨rfl, h4⟩

/-- A slice of the call's own: its cells. -/
theorem own_cells {w : World} {B : Nat} {v : Value} {n : Nat} {xs : List Int} (hx : xs.length = n) (h : w.ownsRow B 5 1 v n (xs.map (Value.int .u8))) (hv : v ≠ .slice none 0 0) :
    ∃ g cap, v = .slice (some ⟨g, 0, none⟩) n cap ∧ B ≤ g ∧ g < w.heap.size ∧ ∀ i, i < n → w.cell? ⟨g, 0 + i, none⟩ = some (.int .u8 (xs.getD i 0)) := by
  rcases h.2 with ⟨rfl, h0⟩ | ⟨g, cap, cur, rfl, hg, hheap, hncap, hcm, hcs, htake⟩
  · exact absurd rfl hv
  · refine ⟨g, cap, rfl, hg, (Array.getElem?_eq_some_iff.1 hheap).1, fun i hi => ?_⟩
    have hi' : i < xs.length := by omega
    rw [Nat.zero_add, cell_of_row _ g i cur 5 (0, 0) hheap]
    have h2 : (cur.toList.take (n * 1))[i]? = (xs.map (Value.int .u8))[i]? := by rw [htake]
    rw [List.getElem?_take, if_pos (by omega), List.getElem?_map, List.getElem?_eq_getElem hi'] at h2
    simpa [List.getD, List.getElem?_eq_getElem hi'] using h2

set_option maxHeartbeats 1000000 in
/-- The digits of bytes. -/
theorem hexOf_any (a : Addr) (n c : Nat) (xs : List Int) (w : World) (hx : xs.length = n) (hn : n ≤ 4096)
    (hr : ∀ i, i < n → 0 ≤ xs.getD i 0 ∧ xs.getD i 0 < 256) (hc : ∀ i, i < n → w.cell? (a.add i) = some (.int .u8 (xs.getD i 0))) :
    Calls Tryd.prog 8 #[.slice (some a) n c] w fun e w' => e = .returned (.string ⟨(Lib.Hx.encode (Lib.bytesOf xs)).toArray⟩) ∧ Below w.heap.size w w' := by
  obtain ⟨i0, hi, hz0, hz1, hz2⟩ := info_parts Tryd.info5
  have hcells : ∀ j u, (xs.map (Value.int .u8))[j]? = some u → (w.alloc (.cells #[] 5)).cell? (a.add j) = some u := by
    intro j u hu
    rw [List.getElem?_map] at hu
    have hj : j < xs.length := by
      rcases Nat.lt_or_ge j xs.length with h | h
      · exact h
      · rw [List.getElem?_eq_none h] at hu; simp at hu
    rw [List.getElem?_eq_getElem hj] at hu
    simp only [Option.map_some, Option.some.injEq] at hu
    subst hu
    have h1 := hc j (by omega)
    rw [World.cell?_alloc_lt _ _ _ (block_lt_of_cell h1), h1]
    simp [List.getD, List.getElem?_eq_getElem hj]
  have hmade : (w.alloc (.cells #[] 5)).ownsRow w.heap.size 5 1 (.slice (some ⟨w.heap.size, 0, none⟩) 0 0) 0 [] := World.ownsRow_made w #[] 0 (Nat.le_refl _) (by unfold maxLen; omega) rfl
  go_enter Tryd.func8, Tryd.ntmps8
  go_wp2_with (at_builtin; refine wpList_append_own _ rfl _ _ 22 rfl w.heap.size 5 i0 (.int .u8 0) 1 1 Tryd.underlying22 hi hz0 hz1 hz2 rfl (by decide) _ _ _ rfl hmade a n c (xs.map (Value.int .u8)) rfl (by simp [hx]) hcells (by intro u hu; simp at hu; obtain ⟨q, _, rfl⟩ := hu; rfl) (by unfold maxLen; omega) (by omega) (by simp) ?_)
  intro v w1 hown hgrow hnil
  have hB := ((Below.refl w.heap.size w).alloc (Nat.le_refl _) (.cells #[] 5)).grown hgrow (by simp) (fun k h => by simp [Value.ownBlock] at h; omega)
  obtain ⟨g, cap, rfl, hg, hlt, hcell⟩ := own_cells hx (by simpa using hown) (fun h => hnil h)
  have hh := newHex_any g n cap xs w1 hx hr hcell hlt hn
  have HB : Hid (Below w.heap.size w w1) := hB
  clear hB hcell hcells hc hown hgrow hnil hmade
  go_wp2_with (first
    | (go_at_call 24; refine hh.mono ?_; rintro e w4 ⟨rfl, h4⟩))
  go_ret
  exact ⟨rfl, HB.out.trans (h4.mono HB.out.size)⟩

set_option maxHeartbeats 1000000 in
/-- The digits of no bytes. -/
theorem hexOf_none (w : World) : Calls Tryd.prog 8 #[.slice none 0 0] w fun e w' => e = .returned (.string ⟨#[]⟩) ∧ Below w.heap.size w w' := by
  obtain ⟨i0, hi, hz0, hz1, hz2⟩ := info_parts Tryd.info5
  have hmade : (w.alloc (.cells #[] 5)).ownsRow w.heap.size 5 1 (.slice (some ⟨w.heap.size, 0, none⟩) 0 0) 0 [] := World.ownsRow_made w #[] 0 (Nat.le_refl _) (by unfold maxLen; omega) rfl
  have hh := newHex_any w.heap.size 0 0 [] (w.alloc (.cells #[] 5)) rfl (fun i h => by omega) (fun i h => by omega) (by simp) (by omega)
  go_enter Tryd.func8, Tryd.ntmps8
  go_wp2_with (first
    | (at_builtin; refine wpList_append_own_none rfl _ _ 22 rfl w.heap.size 5 i0 1 Tryd.underlying22 hi _ _ _ rfl hmade rfl ?_)
    | (go_at_call 24; refine hh.mono ?_; rintro e w4 ⟨rfl, h4⟩))
  go_ret
  exact ⟨rfl, ((Below.refl w.heap.size w).alloc (Nat.le_refl _) _).trans (h4.mono (by simp))⟩

theorem value_any (s : ByteArray) (w : World) : Calls Tryd.prog 49 #[.string s] w fun e w' => e = .returned (.string s) ∧ w' = w := by
  go_enter Tryd.func49, Tryd.ntmps49
  go_wp2
  go_ret
  exact ⟨rfl, rfl⟩

theorem bytes_any (s : ByteArray) (w : World) (ev : Value) (hE : w.cell? ⟨4, 0, none⟩ = some ev) (hs : s.size ≤ 8192) (l : List UInt8) (hd : Lib.Hx.decode s.data.toList = (l, .ok)) :
    Calls Tryd.prog 27 #[.string s] w fun e w' => ∃ v, e = .returned (.tuple #[v, .nilIface]) ∧ w'.ownsRow w.heap.size 5 1 v l.length (vals l) ∧ Below w.heap.size w w' := by
  have hh := Tryd.hex_DecodeString_owns s w ev hE (by omega)
  have hv := value_any s w
  rw [hd] at hh
  simp only [Lib.Hx.errVal] at hh
  go_enter Tryd.func27, Tryd.ntmps27
  go_wp2_with (first
    | (go_at_call 49; refine hv.mono ?_; rintro e w1 ⟨rfl, rfl⟩)
    | (go_at_call 48; refine hh.mono ?_; rintro e w1 ⟨v, rfl, h3, h4⟩))
  go_ret2
  exact ⟨v, rfl, h3, h4⟩

set_option maxHeartbeats 1000000 in
/-- The bytes of an even number of digits. -/
theorem implHex_any (s : ByteArray) (w : World) (ev : Value) (hE : w.cell? ⟨4, 0, none⟩ = some ev) (hs : s.size ≤ 8192) (l : List UInt8) (hd : Lib.Hx.decode s.data.toList = (l, .ok)) :
    Calls Tryd.prog 10 #[.string s] w fun e w' => ∃ v, e = .returned (.tuple #[v, .bool true]) ∧ w'.ownsRow w.heap.size 5 1 v l.length (vals l) ∧ Below w.heap.size w w' := by
  have hh := bytes_any s w ev hE hs l hd
  go_enter Tryd.func10, Tryd.ntmps10
  go_wp2_with (first
    | (go_at_call 27; refine hh.mono ?_; rintro e w1 ⟨v, rfl, h3, h4⟩))
  go_quiet (fail)
  go_wp2
  go_ret2
  exact ⟨v, by simp, h3, below_drewN h4 _⟩

end Go.Proofs.YtgemkjickljedaaDoor
