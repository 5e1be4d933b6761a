/- What spec.Marked and spec.Narrow answer. Conditions: sizes up to 4096 bytes. -/
import Derived.Test.YtgemkjickljedaaGreatDoorUP
import Derived.Test.YtgemkjickljedaaGreatDoorHexW
namespace Go.Proofs.YtgemkjickljedaaGreatDoor
open Go.ChangeShapes Go.WideShapes Go.ChangeAt Go.RowKit

theorem marked_short {s : ByteArray} (h : s.size < 2) : marked s.data.toList = false := by
  have hl : s.data.toList.length < 2 := by simpa using h
  match e : s.data.toList, hl with
  | [], _ => rfl
  | [_], _ => rfl
theorem marked_long {s : ByteArray} (h : 2 ≤ s.size) : marked s.data.toList = (s[0] == 254 && s[1] == 255) := by
  have h0 := get_of (s := s) (k := 0) (by omega)
  have h1 := get_of (s := s) (k := 1) (by omega)
  match e : s.data.toList, h0, h1 with
  | a :: b :: t, h0, h1 =>
    simp at h0 h1
    simp [marked, h0, h1]

theorem u8_beq (a : UInt8) (n : Nat) (hn : n < 256) : (a == UInt8.ofNat n) = decide (a.toNat = n) := by
  by_cases h : a.toNat = n
  · rw [u8_of hn h]; simp [UInt8.toNat_ofNat', Nat.mod_eq_of_lt (show n < 2 ^ 8 by omega)]
  · have : a ≠ UInt8.ofNat n := by intro e; apply h; rw [e, UInt8.toNat_ofNat']; omega
    simp [h, this]

theorem marked_any (s : ByteArray) (w : World) : Calls Tryz.prog 9 #[.string s] w fun e w' => e = .returned (.bool (marked s.data.toList)) ∧ w' = w := by
  by_cases h : 2 ≤ s.size
  · have hm := marked_long h
    have e1 := u8_beq s[0] 254 (by decide)
    have e2 := u8_beq s[1] 255 (by decide)
    have : marked s.data.toList = (decide (s[0].toNat = 254) && decide (s[1].toNat = 255)) := by rw [hm, ← e1, ← e2]; rfl
    rw [this]
    clear hm this e1 e2
    by_cases h0 : s[0].toNat = 254
    · by_cases h1 : s[1].toNat = 255
      · go_enter Tryz.func9, Tryz.ntmps9
        go_wp2
        go_ret
        exact ⟨by simp [h0, h1], rfl⟩
      · have z : ((s[1].toNat : Int) == 255) = false := by simp; omega
        go_enter Tryz.func9, Tryz.ntmps9
        go_wp2
        go_ret
        exact ⟨by simp [h1], rfl⟩
    · have z : ((s[0].toNat : Int) == 254) = false := by simp; omega
      go_enter Tryz.func9, Tryz.ntmps9
      go_wp2
      go_ret
      exact ⟨by simp [h0], rfl⟩
  · rw [marked_short (by omega)]
    go_enter Tryz.func9, Tryz.ntmps9
    go_wp2
    go_ret
    exact ⟨rfl, rfl⟩

set_option maxHeartbeats 4000000 in
set_option maxRecDepth 100000 in
theorem narrow_any (s : ByteArray) (w : World) (hs : s.size ≤ 4096) :
    Calls Tryz.prog 16 #[.string s] w fun e w' => e = .returned (.tuple #[.string (narS s.data.toList), .bool (narB s.data.toList)]) ∧ ∃ n, w' = w.drewN n := by
  have hlen : s.data.toList.length = s.size := by simp
  have hmk := fun w => marked_any s w
  obtain ⟨m, hm⟩ : ∃ m, marked s.data.toList = m := ⟨_, rfl⟩
  rw [hm] at hmk
  cases m
  · have hno := narS_none (l := s.data.toList) (by unfold narO; simp [hm])
    go_enter Tryz.func16, Tryz.ntmps16
    go_wp2_with (go_at_call 9; refine (hmk _).mono ?_; rintro e w1 ⟨rfl, rfl⟩)
    go_ret2
    exact ⟨by first | rfl | (rw [hno.1, hno.2]; rfl), 0, rfl⟩
  · by_cases hod : s.size % 2 = 1
    · have hno := narS_none (l := s.data.toList) (by unfold narO; simp [hm]; omega)
      have z : ((s.size : Int).tmod 2 == 1) = true := by rw [Int.tmod_eq_emod_of_nonneg (by omega)]; simp; omega
      go_enter Tryz.func16, Tryz.ntmps16
      go_wp2_with (go_at_call 9; refine (hmk _).mono ?_; rintro e w1 ⟨rfl, rfl⟩)
      go_ret2
      exact ⟨by first | rfl | (rw [hno.1, hno.2]; rfl), 0, rfl⟩
    · have z : ((s.size : Int).tmod 2 == 1) = false := by rw [Int.tmod_eq_emod_of_nonneg (by omega)]; simp; omega
      have h2 : 2 ≤ s.size := by
        rcases Nat.lt_or_ge s.size 2 with h | h
        · rw [marked_short h] at hm; cases hm
        · exact h
      have hO : narO s.data.toList = nar (s.data.toList.drop 2) := by unfold narO; rw [if_pos ⟨hm, by rw [hlen]; omega⟩]
      go_enter Tryz.func16, Tryz.ntmps16
      go_wp2_with (go_at_call 9; refine (hmk _).mono ?_; rintro e w1 ⟨rfl, rfl⟩)
      go_loopw [4, 5] (fun ov iv wr => ∃ (i : Nat) (out : List Nat) (S : ByteArray), ov = .string S ∧ iv = .int .i64 i ∧ 2 ≤ i ∧ i ≤ s.size ∧ i % 2 = 0 ∧ S.size ≤ 4 * i ∧ Hid (MidU s.data.toList i out ∧ bl S = encs out) ∧ ∃ q, wr = w1.drewN q)
        (fun _ iv _ => s.size - (intOf iv).toNat)
      case atStart => exact ⟨2, [], ⟨#[]⟩, rfl, rfl, Nat.le_refl _, h2, rfl, Nat.zero_le _, ⟨MidU.zero _, rfl⟩, 0, rfl⟩
      case round =>
        obtain ⟨i, out, S, rfl, rfl, hi2, hin, hie, hS, HM, q, rfl⟩ := hrel
        by_cases hlt : i < s.size
        · have ha := get_of (s := s) (k := i) (by omega)
          have hb := get_of (s := s) (k := i + 1) (by omega)
          obtain ⟨a, hae⟩ : ∃ a, s[i] = a := ⟨_, rfl⟩
          obtain ⟨b, hbe⟩ : ∃ b, s[i + 1] = b := ⟨_, rfl⟩
          rw [hae] at ha
          rw [hbe] at hb
          have la := a.toNat_lt
          have lb := b.toNat_lt
          have y1 : ((i : Int) + 1) < (s.size : Int) := by omega
          have y3 : (s.size : Int) ≤ 4096 := by omega
          obtain ⟨u, hu⟩ : ∃ u, u = un a b := ⟨_, rfl⟩
          have hul : u < 65536 := by rw [hu]; unfold un; omega
          have hor : Value.int .i64 (bits .or .i64 ((a.toNat : Int) * 256) (b.toNat : Int)) = .int .i64 (u : Int) := by
            rw [or64 a.toNat b.toNat (by omega) (by omega), hu]; rfl
          have HC : Hid (s.data.toList[i]? = some a ∧ s.data.toList[i + 1]? = some b ∧ u = un a b) := ⟨ha, hb, hu⟩
          clear ha hb hu
          by_cases hx : bmp u
          · have hm := HM.out.1.plain (by omega) hie HC.out.1 HC.out.2.1 (HC.out.2.2 ▸ hx)
            rw [← HC.out.2.2] at hm
            obtain ⟨E, hE⟩ : ∃ E, Utf8.encode (u : Int) = E := ⟨_, rfl⟩
            have hel := enc_len u (by unfold bmp at hx; omega)
            have hbe : bl E = enc u := enc_bl hE
            rw [hE] at hel
            have hbl : bl (S ++ E) = encs (out ++ [u]) := by
              rw [encs_snoc, ← HM.out.2, ← hbe]; unfold bl; simp [ByteArray.data_append]
            have hsz : (S ++ E).size ≤ 4 * i + 4 := by rw [ByteArray.size_append]; omega
            have HM2 : Hid (MidU s.data.toList (i + 2) (out ++ [u]) ∧ bl (S ++ E) = encs (out ++ [u])) := ⟨hm, hbl⟩
            clear hm hbl hbe
            have hw : wrap32 (u : Int) = (u : Int) := by unfold wrap32; omega
            have HU : Hid (u < 65536) := hul
            clear hul
            rcases hx with hx | hx
            · have d1 : decide ((u : Int) < 55296) = true := by simp; omega
              clear hx
              go_wp2
              go_quiet (fail)
              go_wp2
              exact ⟨⟨i + 2, out ++ [u], _, rfl, by simp, by omega, by omega, by omega, by omega, HM2.out, _, rfl⟩, by simp [intOf]; omega⟩
            · have d1 : decide ((u : Int) < 55296) = false := by simp; omega
              have d2 : decide (57343 < (u : Int)) = true := by simp; omega
              clear hx
              go_wp2
              go_quiet (fail)
              go_wp2
              exact ⟨⟨i + 2, out ++ [u], _, rfl, by simp, by omega, by omega, by omega, by omega, HM2.out, _, rfl⟩, by simp [intOf]; omega⟩
          · have hu1 : 55296 ≤ u ∧ u ≤ 57343 := by unfold bmp at hx; omega
            have hx' : ¬ bmp (un a b) := HC.out.2.2 ▸ hx
            have d1 : decide ((u : Int) < 55296) = false := by simp; omega
            have d2 : decide (57343 < (u : Int)) = false := by simp; omega
            by_cases hend : i + 2 = s.size
            · have hno := narS_none (hO.trans (HM.out.1.short HC.out.1 HC.out.2.1 hx' (by omega)))
              have d4 : decide ((s.size : Int) ≤ (i : Int) + 3) = true := by simp; omega
              by_cases h5 : 56319 < u
              · have d3 : decide (56319 < (u : Int)) = true := by simp; omega
                go_wp2
                go_quiet (fail)
                go_wp2
                go_ret2
                exact ⟨by first | rfl | (rw [hno.1, hno.2]; rfl), _, rfl⟩
              · have d3 : decide (56319 < (u : Int)) = false := by simp; omega
                go_wp2
                go_quiet (fail)
                go_wp2
                go_ret2
                exact ⟨by first | rfl | (rw [hno.1, hno.2]; rfl), _, rfl⟩
            · have hc := get_of (s := s) (k := i + 2) (by omega)
              have hd := get_of (s := s) (k := i + 3) (by omega)
              obtain ⟨c, hce⟩ : ∃ c, s[i + 2] = c := ⟨_, rfl⟩
              obtain ⟨d, hde⟩ : ∃ d, s[i + 3] = d := ⟨_, rfl⟩
              rw [hce] at hc
              rw [hde] at hd
              by_cases h5 : 56319 < u
              · have hno := narS_none (hO.trans (HM.out.1.single HC.out.1 HC.out.2.1 hc hd hx' (.inl (HC.out.2.2 ▸ h5))))
                have d3 : decide (56319 < (u : Int)) = true := by simp; omega
                go_wp2
                go_quiet (fail)
                go_wp2
                go_ret2
                exact ⟨by first | rfl | (rw [hno.1, hno.2]; rfl), _, rfl⟩
              · have d3 : decide (56319 < (u : Int)) = false := by simp; omega
                have d4 : decide ((s.size : Int) ≤ (i : Int) + 3) = false := by simp; omega
                have y4 : ((i : Int) + 2) < (s.size : Int) := by omega
                have y5 : ((i : Int) + 3) < (s.size : Int) := by omega
                have lc := c.toNat_lt
                have ld := d.toNat_lt
                obtain ⟨v, hv⟩ : ∃ v, v = un c d := ⟨_, rfl⟩
                have hvl : v < 65536 := by rw [hv]; unfold un; omega
                have hor2 : Value.int .i64 (bits .or .i64 ((c.toNat : Int) * 256) (d.toNat : Int)) = .int .i64 (v : Int) := by
                  rw [or64 c.toNat d.toNat (by omega) (by omega), hv]; rfl
                have HC2 : Hid (s.data.toList[i + 2]? = some c ∧ s.data.toList[i + 3]? = some d ∧ v = un c d) := ⟨hc, hd, hv⟩
                clear hc hd hv
                by_cases hy : lone u v
                · have hno := narS_none (hO.trans (HM.out.1.single HC.out.1 HC.out.2.1 HC2.out.1 HC2.out.2.1 hx' (by rw [← HC.out.2.2, ← HC2.out.2.2]; exact hy)))
                  have h67 : v < 56320 ∨ (56320 ≤ v ∧ 57343 < v) := by unfold lone at hy; omega
                  clear hy hx hx'
                  rcases h67 with h6 | ⟨h6, h7⟩
                  · have d5 : decide ((v : Int) < 56320) = true := by simp; omega
                    go_wp2
                    go_quiet (fail)
                    go_wp2
                    have x1 : (i : Int) + 2 ≤ 9223372036854775807 := by omega
                    have x2 : -9223372036854775808 ≤ (i : Int) + 2 := by omega
                    have x3 : 0 ≤ (i : Int) + 2 := by omega
                    have x4 : (i : Int) + 3 ≤ 9223372036854775807 := by omega
                    have x5 : 0 ≤ (i : Int) + 3 := by omega
                    go_quiet (fail)
                    go_wp2
                    go_ret2
                    exact ⟨by first | rfl | (rw [hno.1, hno.2]; rfl), _, rfl⟩
                  · have d5 : decide ((v : Int) < 56320) = false := by simp; omega
                    have d6 : decide (57343 < (v : Int)) = true := by simp; omega
                    go_wp2
                    go_quiet (fail)
                    go_wp2
                    have x1 : (i : Int) + 2 ≤ 9223372036854775807 := by omega
                    have x2 : -9223372036854775808 ≤ (i : Int) + 2 := by omega
                    have x3 : 0 ≤ (i : Int) + 2 := by omega
                    have x4 : (i : Int) + 3 ≤ 9223372036854775807 := by omega
                    have x5 : 0 ≤ (i : Int) + 3 := by omega
                    go_quiet (fail)
                    go_wp2
                    go_ret2
                    exact ⟨by first | rfl | (rw [hno.1, hno.2]; rfl), _, rfl⟩
                · have h6 : 56320 ≤ v ∧ v ≤ 57343 := by unfold lone at hy; omega
                  have d5 : decide ((v : Int) < 56320) = false := by simp; omega
                  have d6 : decide (57343 < (v : Int)) = false := by simp; omega
                  obtain ⟨p, hp⟩ : ∃ p, p = pair u v := ⟨_, rfl⟩
                  have hpz : (65536 + ((u : Int) - 55296) * 1024 + (v : Int) - 56320) = (p : Int) := by rw [hp]; unfold pair; omega
                  obtain ⟨E, hE⟩ : ∃ E, Utf8.encode (65536 + ((u : Int) - 55296) * 1024 + (v : Int) - 56320) = E := ⟨_, rfl⟩
                  have hE1 : Utf8.encode (p : Int) = E := by rw [← hpz]; exact hE
                  have hel := enc_len p (by rw [hp]; unfold pair; omega)
                  rw [hE1] at hel
                  have hm2 := HM.out.1.double HC.out.1 HC.out.2.1 HC2.out.1 HC2.out.2.1 hx' (by rw [← HC.out.2.2, ← HC2.out.2.2]; exact hy)
                  rw [← HC.out.2.2, ← HC2.out.2.2, ← hp] at hm2
                  have hbe2 : bl E = enc p := enc_bl hE1
                  have hbl : bl (S ++ E) = encs (out ++ [p]) := by
                    rw [encs_snoc, ← HM.out.2, ← hbe2]; unfold bl; simp [ByteArray.data_append]
                  have hsz : (S ++ E).size ≤ 4 * i + 4 := by rw [ByteArray.size_append]; omega
                  have HM2 : Hid (MidU s.data.toList (i + 4) (out ++ [p]) ∧ bl (S ++ E) = encs (out ++ [p])) := ⟨hm2, hbl⟩
                  clear hm2 hbl hbe2 hpz hp hE1
                  go_wp2
                  go_quiet (fail)
                  go_wp2
                  have x1 : (i : Int) + 2 ≤ 9223372036854775807 := by omega
                  have x2 : -9223372036854775808 ≤ (i : Int) + 2 := by omega
                  have x3 : 0 ≤ (i : Int) + 2 := by omega
                  have x4 : (i : Int) + 3 ≤ 9223372036854775807 := by omega
                  have x5 : 0 ≤ (i : Int) + 3 := by omega
                  go_quiet (fail)
                  go_wp2
                  exact ⟨⟨i + 4, out ++ [p], _, rfl, by simp; omega, by omega, by omega, by omega, by omega, HM2.out, _, rfl⟩, by simp [intOf]; omega⟩
        · have hie2 : i = s.size := by omega
          have hnm := HM.out.1
          rw [hie2, ← hlen] at hnm
          have hso := narS_some (hO.trans hnm.done)
          have hSS : S = ⟨(encs out).toArray⟩ := by
            apply str_ext; exact HM.out.2
          rw [← hSS] at hso
          go_wp2
          go_ret2
          exact ⟨by first | rfl | (rw [hso.1, hso.2]; rfl), _, rfl⟩

end Go.Proofs.YtgemkjickljedaaGreatDoor
