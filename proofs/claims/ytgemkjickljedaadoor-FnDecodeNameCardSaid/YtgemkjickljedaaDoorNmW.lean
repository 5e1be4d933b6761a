/- What spec.NameBytes and spec.Nameable answer. Conditions: sizes up to 4096 bytes. -/
import Derived.Test.YtgemkjickljedaaDoorNmP
import Derived.Test.YtgemkjickljedaaDoorHexW
namespace Go.Proofs.YtgemkjickljedaaDoor
open Go.ChangeShapes Go.WideShapes Go.ChangeAt Go.RowKit

theorem nameable_any (s : ByteArray) (w : World) (hs : s.size ≤ 4096) : Calls Tryd.prog 12 #[.string s] w fun e w' => e = .returned (.bool (nz s.data.toList)) ∧ w' = w := by
  have hin : Calls Tryd.prog 28 #[.string s] w fun e w' => e = .returned (.bool (nz s.data.toList)) ∧ w' = w := by
    go_enter Tryd.func28, Tryd.ntmps28
    go_wp2_with (fail)
    go_loop [6] (fun iv => ∃ k : Nat, iv = .int .i64 k ∧ k ≤ s.size ∧ Hid (∀ j (h : j < s.size), j < k → s[j].toNat ≠ 0)) (fun iv => s.size - (intOf iv).toNat)
    case atStart => exact ⟨0, rfl, Nat.zero_le _, fun j _ h => by omega⟩
    case round =>
      obtain ⟨k, rfl, hk, HA⟩ := hrel
      by_cases hlt : k < s.size
      · by_cases h0 : s[k].toNat = 0
        · go_wp2
          go_ret
          have hz := nz_not (l := s.data.toList) (i := k) (by rw [get_of hlt, u8_of (by decide) h0]; rfl)
          exact ⟨by first | rfl | (rw [hz]; rfl), rfl⟩
        · go_wp2
          go_round
          case rel => exact ⟨k + 1, by simp, by omega, fun j h hj => by
            rcases Nat.lt_or_eq_of_le (Nat.le_of_lt_succ hj) with h1 | rfl
            · exact HA.out j h h1
            · exact h0⟩
          case measure => simp [intOf]; omega
      · have hnz : nz s.data.toList = true := List.all_eq_true.2 fun c hc => by
          obtain ⟨j, hj, rfl⟩ := List.getElem_of_mem hc
          have hj' : j < s.size := by simpa using hj
          have h1 := HA.out j hj' (by omega)
          have h2 := get_of hj'
          rw [List.getElem?_eq_getElem hj] at h2
          rw [Option.some.inj h2]
          simp only [bne_iff_ne, ne_eq]
          intro h; apply h1; rw [h]; rfl
        go_wp2
        go_ret
        exact ⟨by first | rfl | rw [hnz]; rfl, rfl⟩
  go_enter Tryd.func12, Tryd.ntmps12
  go_wp2_with (go_at_call 28; refine hin.mono ?_; rintro e w1 ⟨rfl, rfl⟩)
  go_ret
  exact ⟨rfl, rfl⟩

theorem hex_same {c : UInt8} {d : Int} (h : hv c = d) (w : World) : Calls Tryd.prog 25 #[.int .u8 c.toNat] w fun e w' => e = .returned (.int .i64 d) ∧ w' = w :=
  (hex_any c w).mono fun e w' ⟨he, hw⟩ => ⟨by rw [he, h], hw⟩

set_option maxHeartbeats 4000000 in
set_option maxRecDepth 100000 in
theorem nameBytes_any (s : ByteArray) (w : World) (hs : s.size ≤ 4096) :
    Calls Tryd.prog 11 #[.string s] w fun e w' => e = .returned (.tuple #[.string (nmS s.data.toList), .bool (nmB s.data.toList)]) ∧ Below w.heap.size w w' := by
  obtain ⟨i0, hi, hz0, hz1, hz2⟩ := info_parts Tryd.info5
  have hlen : s.data.toList.length = s.size := by simp
  go_enter Tryd.func11, Tryd.ntmps11
  go_wp2_with (fail)
  go_loopw [4, 5] (fun v iv wr => ∃ (i : Nat) (out : List UInt8), iv = .int .i64 i ∧ i ≤ s.size ∧ out.length ≤ i ∧ w.heap.size ≤ wr.heap.size ∧ wr.ownsRow w.heap.size 5 1 v out.length (vals out) ∧ Hid (Mid s.data.toList i out ∧ Below w.heap.size w wr))
    (fun _ iv _ => s.size - (intOf iv).toNat)
  case atStart => exact ⟨0, [], rfl, Nat.zero_le _, Nat.le_refl _, Nat.le_refl _, World.ownsRow_nil _ _ _ _, Mid.zero _, Below.refl _ _⟩
  case round =>
    obtain ⟨i, out, rfl, hin, hol, hsz, hown, HM⟩ := hrel
    by_cases hlt : i < s.size
    · have hget := get_of hlt
      by_cases h35 : s[i].toNat = 35
      · have hc : s.data.toList[i]? = some 35 := by rw [hget, u8_of (by decide) h35]; rfl
        by_cases hsh : s.size ≤ i + 2
        · have hno := nmS_none (HM.out.1.short hc (by omega))
          go_wp2
          go_ret2
          exact ⟨by first | rfl | (rw [hno.1, hno.2]; rfl), HM.out.2⟩
        · have ha := get_of (s := s) (k := i + 1) (by omega)
          have hb := get_of (s := s) (k := i + 2) (by omega)
          have hci := hc
          have HC : Hid (s.data.toList[i]? = some 35 ∧ s.data.toList[i + 1]? = some s[i + 1] ∧ s.data.toList[i + 2]? = some s[i + 2]) := ⟨hc, ha, hb⟩
          obtain ⟨a, hae⟩ : ∃ a, s[i + 1] = a := ⟨_, rfl⟩
          obtain ⟨b, hbe⟩ : ∃ b, s[i + 2] = b := ⟨_, rfl⟩
          rw [hae, hbe] at HC
          have z35 : ((s[i].toNat : Int) != 35) = false := by simp; omega
          clear hc ha hb hci hget
          by_cases h1 : hv a < 0
          · have hno := nmS_none (HM.out.1.bad HC.out.1 HC.out.2.1 HC.out.2.2 (.inl h1))
            have hA := fun w => hex_same (hv_not _ h1).1 w
            go_wp2_with (first
              | (go_at_call 25; refine Calls.mono (by with_reducible exact hA _) ?_; rintro e w3 ⟨rfl, rfl⟩))
            go_ret2
            exact ⟨by first | rfl | (rw [hno.1, hno.2]; rfl), HM.out.2⟩
          · obtain ⟨e1, l1⟩ := hv_is a (by omega)
            obtain ⟨d1, hd1⟩ : ∃ d1, Lib.Hx.v a = d1 := ⟨_, rfl⟩
            rw [hd1] at e1 l1
            have hA := fun w => hex_same e1 w
            by_cases h2 : hv b < 0
            · have hno := nmS_none (HM.out.1.bad HC.out.1 HC.out.2.1 HC.out.2.2 (.inr (.inl h2)))
              have hB := fun w => hex_same (hv_not _ h2).1 w
              go_wp2_with (first
                | (go_at_call 25; refine Calls.mono (by with_reducible exact hA _) ?_; rintro e w3 ⟨rfl, rfl⟩)
                | (go_at_call 25; refine Calls.mono (by with_reducible exact hB _) ?_; rintro e w3 ⟨rfl, rfl⟩))
              go_ret2
              exact ⟨by first | rfl | (rw [hno.1, hno.2]; rfl), HM.out.2⟩
            · obtain ⟨e2, l2⟩ := hv_is b (by omega)
              obtain ⟨d2, hd2⟩ : ∃ d2, Lib.Hx.v b = d2 := ⟨_, rfl⟩
              rw [hd2] at e2 l2
              have hB := fun w => hex_same e2 w
              have y1 : ((i : Int) + 1) < (s.size : Int) := by omega
              have y2 : ((i : Int) + 2) < (s.size : Int) := by omega
              have y3 : (s.size : Int) ≤ 4096 := by omega
              have y6 : decide ((s.size : Int) ≤ (i : Int) + 2) = false := by simp; omega
              have y7 : decide ((d1 : Int) < 0) = false := by simp
              have y8 : decide ((d2 : Int) < 0) = false := by simp
              by_cases h3 : 16 * hv a + hv b = 0
              · have hno := nmS_none (HM.out.1.bad HC.out.1 HC.out.2.1 HC.out.2.2 (.inr (.inr h3)))
                obtain rfl : d1 = 0 := by omega
                obtain rfl : d2 = 0 := by omega
                go_wp2_with (first
                  | (go_at_call 25; refine Calls.mono (by with_reducible exact hA _) ?_; rintro e w3 ⟨rfl, rfl⟩)
                  | (go_at_call 25; refine Calls.mono (by with_reducible exact hB _) ?_; rintro e w3 ⟨rfl, rfl⟩))
                go_quiet (first
                  | (go_at_call 25; with_reducible exact Calls.quiet_of_same (hA _))
                  | (go_at_call 25; with_reducible exact Calls.quiet_of_same (hB _)))
                go_wp2
                go_ret2
                exact ⟨by first | rfl | (rw [hno.1, hno.2]; rfl), below_drewN HM.out.2 _⟩
              · have hm := HM.out.1.two HC.out.1 HC.out.2.1 HC.out.2.2 (by omega)
                have ht : ((two a b).toNat : Int) = 16 * d1 + d2 := by
                  unfold two; rw [hd1, hd2, UInt8.toNat_ofNat']; omega
                have HM2 : Hid (Mid s.data.toList (i + 3) (out ++ [two a b])) := hm
                have hne : 16 * (d1 : Int) + d2 ≠ 0 := by omega
                clear hm
                go_wp2_with (first
                  | (go_at_call 25; refine Calls.mono (by with_reducible exact hA _) ?_; rintro e w3 ⟨rfl, rfl⟩)
                  | (go_at_call 25; refine Calls.mono (by with_reducible exact hB _) ?_; rintro e w3 ⟨rfl, rfl⟩))
                go_quiet (first
                  | (go_at_call 25; with_reducible exact Calls.quiet_of_same (hA _))
                  | (go_at_call 25; with_reducible exact Calls.quiet_of_same (hB _)))
                go_wp2_with (at_builtin; refine wpList_append_own _ rfl _ _ 22 rfl w.heap.size 5 i0 (.int .u8 0) 1 1 Tryd.underlying22 hi hz0 hz1 hz2 rfl (by decide) _ _ _ rfl (World.ownsRow.alloc (w := World.drewN _ _) hown _) ⟨w3.heap.size, 0, none⟩ 1 1 [.int .u8 (16 * d1 + d2)] rfl rfl (cell_one_new (World.drewN _ _) _ _) (by intro u hu; simp at hu; subst hu; rfl) (by unfold maxLen; omega) (by omega) (by simp; omega) ?_)
                intro v' w' hown' hgrow' hnil
                have hB := ((below_drewN HM.out.2 _).alloc (by simpa using hsz) (.cells #[.int .u8 (16 * d1 + d2)] 5)).grown hgrow' (by simp; omega) (fun j hj => (hown.lt j hj).1)
                have hw' := hB.size
                have HB : Hid (Below w.heap.size w w') := hB
                clear hB hgrow' hnil
                go_wp2
                go_roundw
                case rel => exact ⟨i + 3, out ++ [two a b], by simp; omega, by omega, by simp; omega, hw', by rw [vals_snoc, ht]; simpa using hown', HM2.out, HB.out⟩
                case measure => simp [intOf]; omega
      · have hne : s[i] ≠ 35 := by intro h; apply h35; rw [h]; rfl
        have hm := HM.out.1.plain hget hne
        have HM2 : Hid (Mid s.data.toList (i + 1) (out ++ [s[i]])) := hm
        clear hm hget
        have z : ((s[i].toNat : Int) != 35) = true := by simp; omega
        go_wp2_with (at_builtin; refine wpList_append_own _ rfl _ _ 22 rfl w.heap.size 5 i0 (.int .u8 0) 1 1 Tryd.underlying22 hi hz0 hz1 hz2 rfl (by decide) _ _ _ rfl (hown.alloc _) ⟨wr.heap.size, 0, none⟩ 1 1 [.int .u8 s[i].toNat] rfl rfl (cell_one_new _ _ _) (by intro u hu; simp at hu; subst hu; rfl) (by unfold maxLen; omega) (by omega) (by simp; omega) ?_)
        intro v' w' hown' hgrow' hnil
        have hB := (HM.out.2.alloc (by omega) (.cells #[.int .u8 s[i].toNat] 5)).grown hgrow' (by simp; omega) (fun j hj => (hown.lt j hj).1)
        have hw' := hB.size
        have HB : Hid (Below w.heap.size w w') := hB
        clear hB hgrow' hnil
        go_wp2
        go_roundw
        case rel => exact ⟨i + 1, out ++ [s[i]], by simp, by omega, by simp; omega, hw', by rw [vals_snoc]; simpa using hown', HM2.out, HB.out⟩
        case measure => simp [intOf]; omega
    · have hie : i = s.size := by omega
      have hso := nmS_some (by have := HM.out.1; rw [hie, ← hlen] at this; exact this.done)
      have hcv := conv_own hown
      go_wp2
      go_ret2
      exact ⟨by first | rfl | (rw [hso.1, hso.2]; rfl), HM.out.2⟩

end Go.Proofs.YtgemkjickljedaaDoor
