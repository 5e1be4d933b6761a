/- What spec.Returns answers. Conditions: at most 20000 bytes. -/
import Derived.Test.YtgemkjickljedaaDoorXP
import Derived.Test.YtgemkjickljedaaDoorHexW
namespace Go.Proofs.YtgemkjickljedaaDoor.Lit
open Go.ChangeShapes Go.WideShapes Go.ChangeAt Go.RowKit

theorem drop1' {l : List UInt8} {i : Nat} {c : UInt8} (h : l[i]? = some c) : l.drop i = c :: l.drop (i + 1) := by
  obtain ⟨hi, rfl⟩ := List.getElem?_eq_some_iff.1 h
  exact (List.getElem_cons_drop hi).symm
theorem u8_eq (a : UInt8) (n : Nat) (hn : n < 256) : a = UInt8.ofNat n ↔ a.toNat = n := by
  constructor
  · rintro rfl; rw [UInt8.toNat_ofNat']; omega
  · exact u8_of hn

set_option maxHeartbeats 1000000 in
theorem returns_any (s : ByteArray) (w : World) (hs : s.size ≤ 20000) : Calls Tryd.prog 19 #[.string s] w fun e w' => e = .returned (.bool (rt false s.data.toList)) ∧ w' = w := by
  have hlen : s.data.toList.length = s.size := by simp
  obtain ⟨r, hr⟩ : ∃ r, rt false s.data.toList = r := ⟨_, rfl⟩
  have HR0 : Hid (rt false s.data.toList = r) := hr
  rw [hr]
  clear hr
  have HLEN : Hid (s.data.toList.length = s.size) := hlen
  clear hlen
  go_enter Tryd.func19, Tryd.ntmps19
  go_wp2_with (fail)
  go_loop [3] (fun iv => ∃ i : Nat, iv = .int .i64 i ∧ i ≤ s.size + 1 ∧ Hid (rt false (s.data.toList.drop i) = r)) (fun iv => s.size + 2 - (intOf iv).toNat)
  case atStart => exact ⟨0, rfl, Nat.zero_le _, HR0⟩
  case round =>
    obtain ⟨i, rfl, hi, HM⟩ := hrel
    by_cases hlt : i < s.size
    · have hget := get_of hlt
      obtain ⟨c, hc⟩ : ∃ c, s[i] = c := ⟨_, rfl⟩
      rw [hc] at hget
      by_cases h92 : c.toNat = 92
      · have h2 : Hid (rt false (s.data.toList.drop (i + 1 + 1)) = r) := by
          show _ = _
          rw [← HM.out, drop1' hget, (u8_eq c 92 (by decide)).2 h92]
          show _ = rt false (92 :: _)
          rw [rt_s]
          by_cases h1 : i + 1 < s.size
          · rw [drop1' (get_of h1), rt_t]
          · rw [List.drop_eq_nil_of_le (by have := HLEN.out; omega), List.drop_eq_nil_of_le (by have := HLEN.out; omega)]; rfl
        have z : ((c.toNat : Int) == 92) = true := by simp; omega
        clear hget h92
        go_wp2
        go_round
        case rel => exact ⟨i + 1 + 1, by simp, by omega, h2⟩
        case measure => simp [intOf]; omega
      · have z : ((c.toNat : Int) == 92) = false := by simp; omega
        by_cases h13 : c.toNat = 13
        · have h2 : r = true := by
            rw [← HM.out, drop1' hget, (u8_eq c 13 (by decide)).2 h13]; exact rt_13 _
          have z2 : ((c.toNat : Int) == 13) = true := by simp; omega
          subst h2
          clear hget h92 h13
          go_wp2
          go_ret
          exact ⟨rfl, rfl⟩
        · have h2 : Hid (rt false (s.data.toList.drop (i + 1)) = r) := by
            show _ = _
            rw [← HM.out, drop1' hget, rt_n _ (fun e => h92 (by rw [e]; rfl)) (fun e => h13 (by rw [e]; rfl))]
          have z2 : ((c.toNat : Int) == 13) = false := by simp; omega
          clear hget h92 h13
          go_wp2
          go_round
          case rel => exact ⟨i + 1, by simp, by omega, h2⟩
          case measure => simp [intOf]; omega
    · have h2 : r = false := by
        rw [← HM.out, List.drop_eq_nil_of_le (by have := HLEN.out; omega)]; rfl
      subst h2
      go_wp2
      go_ret
      exact ⟨rfl, rfl⟩

end Go.Proofs.YtgemkjickljedaaDoor.Lit
