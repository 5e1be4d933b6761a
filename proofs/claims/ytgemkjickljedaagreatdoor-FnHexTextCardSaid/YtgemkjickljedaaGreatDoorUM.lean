/- What spec.Edge answers: where it is false, no code unit behind the mark is E000. Conditions: at most 4096 bytes. -/
import Derived.Test.YtgemkjickljedaaGreatDoorUL
import Derived.Laws.RangeAny
import Derived.Lib.TrimU
namespace Go.Proofs.YtgemkjickljedaaGreatDoor
open Go.ChangeShapes Go.WideShapes Go.ChangeAt Go.RowKit

set_option maxHeartbeats 4000000 in
set_option maxRecDepth 100000 in
theorem edge_any (s : ByteArray) (w : World) (hs : s.size ≤ 4096) :
    Calls Tryz.prog 7 #[.string s] w fun e w' => ∃ r, e = .returned (.bool r) ∧ (r = false → NoEdge s.data.toList) ∧ Below w.heap.size w w' := by
  have hmk := fun w => marked_any s w
  obtain ⟨m, hm⟩ : ∃ m, marked s.data.toList = m := ⟨_, rfl⟩
  have HMK : Hid (marked s.data.toList = m) := hm
  rw [hm] at hmk
  clear hm
  go_enter Tryz.func7, Tryz.ntmps7
  go_wp2_with (fail)
  go_loopw [3] (fun iv wr => ∃ (i : Nat), iv = .int .i64 i ∧ 2 ≤ i ∧ i ≤ 4100 ∧ i % 2 = 0 ∧ Hid (∀ j, 2 ≤ j → j < i → j % 2 = 0 → ∀ a b, s.data.toList[j]? = some a → s.data.toList[j + 1]? = some b → un a b ≠ 57344) ∧ ∃ q, wr = w.drewN q)
    (fun iv _ => 4200 - (intOf iv).toNat)
  case atStart => exact ⟨2, rfl, Nat.le_refl _, by omega, rfl, fun j h1 h2 => by omega, 0, rfl⟩
  case round =>
    obtain ⟨i, rfl, hi2, hi4, hie, HA, q, rfl⟩ := hrel
    by_cases hgo : m = true ∧ i + 1 < s.size
    · obtain ⟨rfl, hlt⟩ := hgo
      have ha := get_of (s := s) (k := i) (by omega)
      have hb := get_of (s := s) (k := i + 1) (by omega)
      obtain ⟨a, hae⟩ : ∃ a, s[i] = a := ⟨_, rfl⟩
      obtain ⟨b, hbe⟩ : ∃ b, s[i + 1] = b := ⟨_, rfl⟩
      rw [hae] at ha
      rw [hbe] at hb
      have HC : Hid (s.data.toList[i]? = some a ∧ s.data.toList[i + 1]? = some b) := ⟨ha, hb⟩
      have y1 : ((i : Int) + 1) < (s.size : Int) := by omega
      have y3 : (s.size : Int) ≤ 4096 := by omega
      have y2 : decide ((i : Int) + 1 < (s.size : Int)) = true := by simp; omega
      clear ha hb
      by_cases hE : a.toNat = 224 ∧ b.toNat = 0
      · obtain ⟨h1, h2⟩ := hE
        go_wp2_with (go_at_call 9; refine Calls.mono (by with_reducible exact hmk _) ?_; rintro e w1 ⟨rfl, rfl⟩)
        go_ret
        exact ⟨_, rfl, fun h => (by cases h), below_drewN (Below.refl _ _) q⟩
      · have HA2 : Hid (∀ j, 2 ≤ j → j < i + 2 → j % 2 = 0 → ∀ a b, s.data.toList[j]? = some a → s.data.toList[j + 1]? = some b → un a b ≠ 57344) := by
          intro j h1 h2 h3 a' b' e1 e2
          by_cases hj : j < i
          · exact HA.out j h1 hj h3 a' b' e1 e2
          · obtain rfl : j = i := by omega
            rw [HC.out.1] at e1
            rw [HC.out.2] at e2
            cases e1
            cases e2
            have := b.toNat_lt
            unfold un
            omega
        by_cases h1 : a.toNat = 224
        · have d2 : ((b.toNat : Int) == 0) = false := by simp; omega
          clear hE
          go_wp2_with (go_at_call 9; refine Calls.mono (by with_reducible exact hmk _) ?_; rintro e w1 ⟨rfl, rfl⟩)
          go_roundw
          case rel => exact ⟨i + 2, by simp, by omega, by omega, by omega, HA2.out, q, rfl⟩
          case measure => simp [intOf]; omega
        · have d1 : ((a.toNat : Int) == 224) = false := by simp; omega
          clear hE h1
          go_wp2_with (go_at_call 9; refine Calls.mono (by with_reducible exact hmk _) ?_; rintro e w1 ⟨rfl, rfl⟩)
          go_roundw
          case rel => exact ⟨i + 2, by simp, by omega, by omega, by omega, HA2.out, q, rfl⟩
          case measure => simp [intOf]; omega
    · have HNE : Hid (NoEdge s.data.toList) := by
        intro h1 j hj1 hj2 a b e1 e2
        rw [HMK.out] at h1
        have hlt : j + 1 < s.size := by
          have := (List.getElem?_eq_some_iff.1 e2).1
          simpa using this
        have hni : ¬ (i + 1 < s.size) := fun h => hgo ⟨h1, h⟩
        exact HA.out j hj1 (by omega) hj2 a b e1 e2
      cases m
      · clear hgo
        go_wp2_with (go_at_call 9; refine Calls.mono (by with_reducible exact hmk _) ?_; rintro e w1 ⟨rfl, rfl⟩)
        obtain ⟨N, hN⟩ : ∃ N, N = (w.drewN q).heap.size := ⟨_, rfl⟩
        have hNw : N = w.heap.size := hN
        go_loopw [] (fun wr => ∃ (pos : Nat), wr.heap[w.heap.size]? = some (.stringIter s pos) ∧ Below w.heap.size w wr) (fun wr => s.size - wr.iterPos w.heap.size)
        case atStart => exact ⟨0, World.iter_heap (w.drewN q) s 0, (below_drewN (Below.refl _ _) q).alloc (Nat.le_refl _) _⟩
        case round =>
          obtain ⟨pos, hit, hbw⟩ := hrel
          have hpos0 := iterPos_of hit
          by_cases hp : pos < s.size
          · have hnx : ∀ ty, (Instr.next (.pointer (some ⟨w.heap.size, 0, none⟩)) true ty).run Tryz.prog wr = _ := fun ty => Lib.run_next_any_at wr w.heap.size s pos ty hit hp
            have hwd := Lib.width_pos s pos
            have hit2 := Lib.iterAt_heap wr w.heap.size s pos (pos + (Utf8.decode s pos).2) hit
            have hbw2 := Lib.below_iterAt hbw (k := w.heap.size) (Nat.le_refl _) s (pos + (Utf8.decode s pos).2)
            obtain ⟨W1, hW1⟩ : ∃ W1, W1 = wr.iterAt w.heap.size s (pos + (Utf8.decode s pos).2) := ⟨_, rfl⟩
            rw [← hW1] at hnx hit2 hbw2
            obtain ⟨c, hc⟩ : ∃ c : Int, c = ((Utf8.decode s pos).1 : Int) := ⟨_, rfl⟩
            rw [← hc] at hnx
            clear hW1 hit hbw hc
            by_cases h57 : c = 57344
            · have d57 : (c == 57344) = true := by simp; omega
              clear h57
              go_wp2
              go_ret
              exact ⟨_, rfl, fun h => (by cases h), hbw2⟩
            · have d57 : (c == 57344) = false := by simp; omega
              clear h57
              go_wp2
              go_roundw
              case rel => exact ⟨_, hit2, hbw2⟩
              case measure => rw [iterPos_of hit2, hpos0]; omega
          · have hnx : ∀ ty, (Instr.next (.pointer (some ⟨w.heap.size, 0, none⟩)) true ty).run Tryz.prog wr = _ := fun ty => Lib.run_next_end_at wr w.heap.size s pos ty hit hp
            go_wp2
            go_ret
            exact ⟨_, rfl, fun _ => HNE.out, hbw⟩
  
      · have hni : ¬ (i + 1 < s.size) := fun h => hgo ⟨rfl, h⟩
        have y2 : decide ((i : Int) + 1 < (s.size : Int)) = false := by simp; omega
        have y3 : (i : Int) + 1 ≤ 9223372036854775807 := by omega
        clear hgo
        go_wp2_with (go_at_call 9; refine Calls.mono (by with_reducible exact hmk _) ?_; rintro e w1 ⟨rfl, rfl⟩)
        obtain ⟨N, hN⟩ : ∃ N, N = (w.drewN q).heap.size := ⟨_, rfl⟩
        have hNw : N = w.heap.size := hN
        go_loopw [] (fun wr => ∃ (pos : Nat), wr.heap[w.heap.size]? = some (.stringIter s pos) ∧ Below w.heap.size w wr) (fun wr => s.size - wr.iterPos w.heap.size)
        case atStart => exact ⟨0, World.iter_heap (w.drewN q) s 0, (below_drewN (Below.refl _ _) q).alloc (Nat.le_refl _) _⟩
        case round =>
          obtain ⟨pos, hit, hbw⟩ := hrel
          have hpos0 := iterPos_of hit
          by_cases hp : pos < s.size
          · have hnx : ∀ ty, (Instr.next (.pointer (some ⟨w.heap.size, 0, none⟩)) true ty).run Tryz.prog wr = _ := fun ty => Lib.run_next_any_at wr w.heap.size s pos ty hit hp
            have hwd := Lib.width_pos s pos
            have hit2 := Lib.iterAt_heap wr w.heap.size s pos (pos + (Utf8.decode s pos).2) hit
            have hbw2 := Lib.below_iterAt hbw (k := w.heap.size) (Nat.le_refl _) s (pos + (Utf8.decode s pos).2)
            obtain ⟨W1, hW1⟩ : ∃ W1, W1 = wr.iterAt w.heap.size s (pos + (Utf8.decode s pos).2) := ⟨_, rfl⟩
            rw [← hW1] at hnx hit2 hbw2
            obtain ⟨c, hc⟩ : ∃ c : Int, c = ((Utf8.decode s pos).1 : Int) := ⟨_, rfl⟩
            rw [← hc] at hnx
            clear hW1 hit hbw hc
            by_cases h57 : c = 57344
            · have d57 : (c == 57344) = true := by simp; omega
              clear h57
              go_wp2
              go_ret
              exact ⟨_, rfl, fun h => (by cases h), hbw2⟩
            · have d57 : (c == 57344) = false := by simp; omega
              clear h57
              go_wp2
              go_roundw
              case rel => exact ⟨_, hit2, hbw2⟩
              case measure => rw [iterPos_of hit2, hpos0]; omega
          · have hnx : ∀ ty, (Instr.next (.pointer (some ⟨w.heap.size, 0, none⟩)) true ty).run Tryz.prog wr = _ := fun ty => Lib.run_next_end_at wr w.heap.size s pos ty hit hp
            go_wp2
            go_ret
            exact ⟨_, rfl, fun _ => HNE.out, hbw⟩
  

end Go.Proofs.YtgemkjickljedaaGreatDoor
