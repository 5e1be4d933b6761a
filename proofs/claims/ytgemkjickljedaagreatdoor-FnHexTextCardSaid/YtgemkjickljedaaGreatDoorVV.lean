/- What spec.Edge answers of a text: where it is false, the text is without U+E000. Conditions: at most 4096 bytes of UTF-8. -/
import Derived.Test.YtgemkjickljedaaGreatDoorUM
import Derived.Test.YtgemkjickljedaaGreatDoorVP
namespace Go.Proofs.YtgemkjickljedaaGreatDoor
open Go.ChangeShapes Go.WideShapes Go.ChangeAt Go.RowKit

def Pr (s : ByteArray) (cs : List Nat) (pos : Nat) : Prop := ∃ pre suf, cs = pre ++ suf ∧ (∀ c ∈ pre, c ≠ 57344) ∧ Rs (s.data.toList.drop pos) suf
theorem pr_step {s : ByteArray} {cs : List Nat} {pos : Nat} (hp : pos < s.size) (h : Pr s cs pos) (hne : ((Utf8.decode s pos).1 : Int) ≠ 57344) : Pr s cs (pos + (Utf8.decode s pos).2) := by
  obtain ⟨pre, suf, hcs, hpre, hRs⟩ := h
  obtain ⟨L, hL⟩ : ∃ L, s.data.toList.drop pos = L := ⟨_, rfl⟩
  rw [hL] at hRs
  cases hRs with
  | nil =>
    exfalso
    have := congrArg List.length hL
    simp at this; omega
  | @cons _ c t hn hd ho he ht =>
    subst hL
    rw [Lib.decodeL_drop] at hd
    rw [List.drop_drop] at ht
    rw [hd] at hne
    have e2 : (Utf8.decode s pos).2 = (enc c).length := by rw [hd]
    rw [e2]
    have hcn : c ≠ 57344 := fun e => hne (by rw [e]; rfl)
    suffices hall : ∀ x ∈ pre ++ [c], x ≠ 57344 by
      exact ⟨pre ++ [c], t, by rw [hcs]; simp, hall, ht⟩
    intro x hx
    rcases List.mem_append.1 hx with h | h
    · exact hpre x h
    · have : x = c := by simpa using h
      rw [this]
      exact hcn
theorem pr_end {s : ByteArray} {cs : List Nat} {pos : Nat} (hp : ¬ pos < s.size) (h : Pr s cs pos) : ∀ c ∈ cs, c ≠ 57344 := by
  obtain ⟨pre, suf, hcs, hpre, hRs⟩ := h
  rw [List.drop_eq_nil_of_le (by simpa using hp)] at hRs
  cases hRs with
  | nil => rw [hcs]; simpa using hpre
  | cons hn => exact absurd rfl hn

set_option maxHeartbeats 4000000 in
set_option maxRecDepth 100000 in
theorem edge_rs (s : ByteArray) (cs : List Nat) (hR : Rs s.data.toList cs) (w : World) (hs : s.size ≤ 4096) :
    Calls Tryz.prog 7 #[.string s] w fun e w' => ∃ r, e = .returned (.bool r) ∧ (r = false → ∀ c ∈ cs, c ≠ 57344) ∧ Below w.heap.size w w' := by
  have hmk := fun w => marked_any s w
  have HR : Hid (Rs s.data.toList cs) := hR
  clear hR
  obtain ⟨m, hm⟩ : ∃ m, marked s.data.toList = m := ⟨_, rfl⟩
  have HMK : Hid (marked s.data.toList = m) := hm
  rw [hm] at hmk
  clear hm
  go_enter Tryz.func7, Tryz.ntmps7
  go_wp2_with (fail)
  go_loopw [3] (fun iv wr => ∃ (i : Nat), iv = .int .i64 i ∧ 2 ≤ i ∧ i ≤ 4100 ∧ i % 2 = 0 ∧ Hid (∀ j, 2 ≤ j → j < i → j % 2 = 0 → ∀ a b, s.data.toList[j]? = some a → s.data.toList[j + 1]? = some b → un a b ≠ 57344) ∧ ∃ q, wr = w.drewN q)
    (fun iv _ => 4200 - (intOf iv).toNat)
  case atStart => exact ⟨2, rfl, Nat.le_refl _, by omega, rfl, fun j h1 h2 => by omega, 0, rfl⟩
  case round =>
    obtain ⟨i, rfl, hi2, hi4, hie, HA, q, rfl⟩ := hrel
    by_cases hgo : m = true ∧ i + 1 < s.size
    · obtain ⟨rfl, hlt⟩ := hgo
      have ha := get_of (s := s) (k := i) (by omega)
      have hb := get_of (s := s) (k := i + 1) (by omega)
      obtain ⟨a, hae⟩ : ∃ a, s[i] = a := ⟨_, rfl⟩
      obtain ⟨b, hbe⟩ : ∃ b, s[i + 1] = b := ⟨_, rfl⟩
      rw [hae] at ha
      rw [hbe] at hb
      have HC : Hid (s.data.toList[i]? = some a ∧ s.data.toList[i + 1]? = some b) := ⟨ha, hb⟩
      have y1 : ((i : Int) + 1) < (s.size : Int) := by omega
      have y3 : (s.size : Int) ≤ 4096 := by omega
      have y2 : decide ((i : Int) + 1 < (s.size : Int)) = true := by simp; omega
      clear ha hb
      by_cases hE : a.toNat = 224 ∧ b.toNat = 0
      · obtain ⟨h1, h2⟩ := hE
        go_wp2_with (go_at_call 9; refine Calls.mono (by with_reducible exact hmk _) ?_; rintro e w1 ⟨rfl, rfl⟩)
        go_ret
        exact ⟨_, rfl, fun h => (by cases h), below_drewN (Below.refl _ _) q⟩
      · have HA2 : Hid (∀ j, 2 ≤ j → j < i + 2 → j % 2 = 0 → ∀ a b, s.data.toList[j]? = some a → s.data.toList[j + 1]? = some b → un a b ≠ 57344) := by
          intro j h1 h2 h3 a' b' e1 e2
          by_cases hj : j < i
          · exact HA.out j h1 hj h3 a' b' e1 e2
          · obtain rfl : j = i := by omega
            rw [HC.out.1] at e1
            rw [HC.out.2] at e2
            cases e1
            cases e2
            have := b.toNat_lt
            unfold un
            omega
        by_cases h1 : a.toNat = 224
        · have d2 : ((b.toNat : Int) == 0) = false := by simp; omega
          clear hE
          go_wp2_with (go_at_call 9; refine Calls.mono (by with_reducible exact hmk _) ?_; rintro e w1 ⟨rfl, rfl⟩)
          go_roundw
          case rel => exact ⟨i + 2, by simp, by omega, by omega, by omega, HA2.out, q, rfl⟩
          case measure => simp [intOf]; omega
        · have d1 : ((a.toNat : Int) == 224) = false := by simp; omega
          clear hE h1
          go_wp2_with (go_at_call 9; refine Calls.mono (by with_reducible exact hmk _) ?_; rintro e w1 ⟨rfl, rfl⟩)
          go_roundw
          case rel => exact ⟨i + 2, by simp, by omega, by omega, by omega, HA2.out, q, rfl⟩
          case measure => simp [intOf]; omega
    · have HNE : Hid (NoEdge s.data.toList) := by
        intro h1 j hj1 hj2 a b e1 e2
        rw [HMK.out] at h1
        have hlt : j + 1 < s.size := by
          have := (List.getElem?_eq_some_iff.1 e2).1
          simpa using this
        have hni : ¬ (i + 1 < s.size) := fun h => hgo ⟨h1, h⟩
        exact HA.out j hj1 (by omega) hj2 a b e1 e2
      cases m
      · clear hgo
        go_wp2_with (go_at_call 9; refine Calls.mono (by with_reducible exact hmk _) ?_; rintro e w1 ⟨rfl, rfl⟩)
        obtain ⟨N, hN⟩ : ∃ N, N = (w.drewN q).heap.size := ⟨_, rfl⟩
        have hNw : N = w.heap.size := hN
        go_loopw [] (fun wr => ∃ (pos : Nat), wr.heap[w.heap.size]? = some (.stringIter s pos) ∧ Below w.heap.size w wr ∧ Hid (Pr s cs pos)) (fun wr => s.size - wr.iterPos w.heap.size)
        case atStart => exact ⟨0, World.iter_heap (w.drewN q) s 0, (below_drewN (Below.refl _ _) q).alloc (Nat.le_refl _) _, [], cs, rfl, by simp, by simpa using HR.out⟩
        case round =>
          obtain ⟨pos, hit, hbw, HRS⟩ := hrel
          have hpos0 := iterPos_of hit
          by_cases hp : pos < s.size
          · have hnx : ∀ ty, (Instr.next (.pointer (some ⟨w.heap.size, 0, none⟩)) true ty).run Tryz.prog wr = _ := fun ty => Lib.run_next_any_at wr w.heap.size s pos ty hit hp
            have hwd := Lib.width_pos s pos
            have hit2 := Lib.iterAt_heap wr w.heap.size s pos (pos + (Utf8.decode s pos).2) hit
            have hbw2 := Lib.below_iterAt hbw (k := w.heap.size) (Nat.le_refl _) s (pos + (Utf8.decode s pos).2)
            obtain ⟨W1, hW1⟩ : ∃ W1, W1 = wr.iterAt w.heap.size s (pos + (Utf8.decode s pos).2) := ⟨_, rfl⟩
            rw [← hW1] at hnx hit2 hbw2
            obtain ⟨c, hc⟩ : ∃ c : Int, c = ((Utf8.decode s pos).1 : Int) := ⟨_, rfl⟩
            have HC : Hid (c = ((Utf8.decode s pos).1 : Int)) := hc
            rw [← hc] at hnx
            clear hW1 hit hbw hc
            by_cases h57 : c = 57344
            · have d57 : (c == 57344) = true := by simp; omega
              clear h57
              go_wp2
              go_ret
              exact ⟨_, rfl, fun h => (by cases h), hbw2⟩
            · have d57 : (c == 57344) = false := by simp; omega
              have HP2 : Hid (Pr s cs (pos + (Utf8.decode s pos).2)) := pr_step hp HRS.out (by rw [← HC.out]; exact h57)
              clear h57
              go_wp2
              go_roundw
              case rel => exact ⟨_, hit2, hbw2, HP2.out⟩
              case measure => rw [iterPos_of hit2, hpos0]; omega
          · have hnx : ∀ ty, (Instr.next (.pointer (some ⟨w.heap.size, 0, none⟩)) true ty).run Tryz.prog wr = _ := fun ty => Lib.run_next_end_at wr w.heap.size s pos ty hit hp
            go_wp2
            go_ret
            exact ⟨_, rfl, fun _ => pr_end hp HRS.out, hbw⟩
  
      · have hni : ¬ (i + 1 < s.size) := fun h => hgo ⟨rfl, h⟩
        have y2 : decide ((i : Int) + 1 < (s.size : Int)) = false := by simp; omega
        have y3 : (i : Int) + 1 ≤ 9223372036854775807 := by omega
        clear hgo
        go_wp2_with (go_at_call 9; refine Calls.mono (by with_reducible exact hmk _) ?_; rintro e w1 ⟨rfl, rfl⟩)
        obtain ⟨N, hN⟩ : ∃ N, N = (w.drewN q).heap.size := ⟨_, rfl⟩
        have hNw : N = w.heap.size := hN
        go_loopw [] (fun wr => ∃ (pos : Nat), wr.heap[w.heap.size]? = some (.stringIter s pos) ∧ Below w.heap.size w wr ∧ Hid (Pr s cs pos)) (fun wr => s.size - wr.iterPos w.heap.size)
        case atStart => exact ⟨0, World.iter_heap (w.drewN q) s 0, (below_drewN (Below.refl _ _) q).alloc (Nat.le_refl _) _, [], cs, rfl, by simp, by simpa using HR.out⟩
        case round =>
          obtain ⟨pos, hit, hbw, HRS⟩ := hrel
          have hpos0 := iterPos_of hit
          by_cases hp : pos < s.size
          · have hnx : ∀ ty, (Instr.next (.pointer (some ⟨w.heap.size, 0, none⟩)) true ty).run Tryz.prog wr = _ := fun ty => Lib.run_next_any_at wr w.heap.size s pos ty hit hp
            have hwd := Lib.width_pos s pos
            have hit2 := Lib.iterAt_heap wr w.heap.size s pos (pos + (Utf8.decode s pos).2) hit
            have hbw2 := Lib.below_iterAt hbw (k := w.heap.size) (Nat.le_refl _) s (pos + (Utf8.decode s pos).2)
            obtain ⟨W1, hW1⟩ : ∃ W1, W1 = wr.iterAt w.heap.size s (pos + (Utf8.decode s pos).2) := ⟨_, rfl⟩
            rw [← hW1] at hnx hit2 hbw2
            obtain ⟨c, hc⟩ : ∃ c : Int, c = ((Utf8.decode s pos).1 : Int) := ⟨_, rfl⟩
            have HC : Hid (c = ((Utf8.decode s pos).1 : Int)) := hc
            rw [← hc] at hnx
            clear hW1 hit hbw hc
            by_cases h57 : c = 57344
            · have d57 : (c == 57344) = true := by simp; omega
              clear h57
              go_wp2
              go_ret
              exact ⟨_, rfl, fun h => (by cases h), hbw2⟩
            · have d57 : (c == 57344) = false := by simp; omega
              have HP2 : Hid (Pr s cs (pos + (Utf8.decode s pos).2)) := pr_step hp HRS.out (by rw [← HC.out]; exact h57)
              clear h57
              go_wp2
              go_roundw
              case rel => exact ⟨_, hit2, hbw2, HP2.out⟩
              case measure => rw [iterPos_of hit2, hpos0]; omega
          · have hnx : ∀ ty, (Instr.next (.pointer (some ⟨w.heap.size, 0, none⟩)) true ty).run Tryz.prog wr = _ := fun ty => Lib.run_next_end_at wr w.heap.size s pos ty hit hp
            go_wp2
            go_ret
            exact ⟨_, rfl, fun _ => pr_end hp HRS.out, hbw⟩
  

end Go.Proofs.YtgemkjickljedaaGreatDoor
