/- What utf8.Valid answers of bytes that lie in memory. Conditions: the tables of unicode/utf8 are laid. -/
import Derived.Test.YtgemkjickljedaaGreatDoorWG
import Derived.Deep.CutBlock
import Derived.Deep.DeepCutAuto
namespace Go.Proofs.YtgemkjickljedaaGreatDoor
open Go.ChangeShapes Go.WideShapes Go.ChangeAt Go.RowKit

theorem and_seven : ∀ X : Fin 256, bits .and .u8 ((X.val : Nat) : Int) 7 = ((X.val % 8 : Nat) : Int) := by decide +kernel
def lenV : Value → Nat | .slice _ n _ => n | _ => 0

set_option maxHeartbeats 16000000 in
set_option maxRecDepth 1000000 in
theorem valid_any (s : ByteArray) (g k0 n cap : Nat) (w : World) (hn : n = s.size) (hs : n ≤ 20000) (hcap : n ≤ cap) (hc : RowA g k0 s w) (hg : g < w.heap.size) (hT : Lib.Utf8Tabs 0 1 w) :
    Calls Tryz.prog 39 #[.slice (some ⟨g, k0, none⟩) n cap] w fun e w' => e = .returned (.bool (Lib.validD s.data.toList)) ∧ Below w.heap.size w w' := by
  obtain ⟨ANS, hANS⟩ : ∃ ANS, Lib.validD s.data.toList = ANS := ⟨_, rfl⟩
  have HA : Hid (Vd w ANS g k0 n w) := ⟨s, hn, hANS, hc, Below.refl _ _⟩
  have HT := Lib.hid hT
  rw [hANS]
  clear hANS hc hT hn
  go_enter Tryz.func39, Tryz.ntmps39
  go_wp2_with (fail)
  go_loopw [0] (fun v wr => ∃ (k m : Nat), v = .slice (some ⟨g, k, none⟩) m m ∧ m ≤ n ∧ Hid (Vd w ANS g k m wr)) (fun v _ => lenV v)
  case atStart => exact ⟨k0, n, rfl, Nat.le_refl _, HA.out⟩
  case round =>
    obtain ⟨k, m, rfl, hm, HM⟩ := hrel
    by_cases h0 : 0 < m
    · obtain ⟨m1, rfl⟩ : ∃ m1, m = m1 + 1 := ⟨m - 1, by omega⟩
      obtain ⟨x0, c0, hlow, hhigh⟩ := HM.out.byte h0
      have lx := x0.toNat_lt
      have hgr : g < wr.heap.size := Nat.lt_of_lt_of_le hg HM.out.below.size
      by_cases hasc : x0.toNat < 128
      · as_aux_lemma =>
          have d0 : decide ((x0.toNat : Int) < 128) = true := by simp; omega
          have V1 := Lib.hid (hlow hasc)
          rw [Nat.add_sub_cancel] at V1
          clear hlow hhigh hasc lx h0 HM
          by_cases c8 : 8 < m1
          · obtain ⟨m2, rfl⟩ : ∃ m2, m1 = m2 + 8 := ⟨m1 - 8, by omega⟩
            obtain ⟨A, lA, eA, cA⟩ := V1.out.word c8
            have cA0 : ∀ cap, Calls Tryz.prog 57 #[.slice (some ⟨g, k + 1, none⟩) (m2 + 8) cap] wr fun e w' => e = .returned (.int .u64 (A : Int)) ∧ ∃ p, w' = wr.drewN p := fun cap => cA 0 cap
            obtain ⟨Z, hZ⟩ : ∃ Z, A &&& 9259542123273814144 = Z := ⟨_, rfl⟩
            have hand : bits .and .u64 (A : Int) 9259542123273814144 = (Z : Int) := by rw [← hZ]; exact u64_and_nat A 9259542123273814144 lA (by omega)
            rw [hZ] at eA
            have b8 : decide ((8 : Int) < ((m2 + 8 : Nat) : Int)) = true := by simp; omega
            have HE := Lib.hid eA
            clear cA hZ eA
            by_cases hz : Z = 0
            · have hz1 : ((Z : Int) == 0) = true := by simp [hz]
              have V2 := Lib.hid (HE.out hz)
              rw [Nat.add_sub_cancel] at V2
              clear hz HE
              go_wp2_with (go_at_call 57; refine Calls.mono (by with_reducible exact cA0 _) ?_; rintro e w1 ⟨rfl, q, rfl⟩)
              have V3 := Lib.hid (V2.out.draw q)
              have hgq : g < (wr.drewN q).heap.size := by simpa using hgr
              clear cA0 hand hz1 V1 V2 c8 b8 c0 hgr
              generalize wr.drewN q = wq at V3 hgq ⊢
              generalize k + 1 + 8 = k2 at V3 ⊢
              by_cases c16 : 16 < m2
              · obtain ⟨m3, rfl⟩ : ∃ m3, m2 = m3 + 16 := ⟨m2 - 16, by omega⟩
                obtain ⟨A2, B2, lA2, lB2, e2, cA2, cB2⟩ := V3.out.word2 c16
                have hor : bits .or .u64 (A2 : Int) (B2 : Int) = ((A2 ||| B2 : Nat) : Int) := u64_or_nat A2 B2 lA2 lB2
                have lO : A2 ||| B2 < 18446744073709551616 := Nat.or_lt_two_pow (n := 64) lA2 lB2
                have hand : bits .and .u64 ((A2 ||| B2 : Nat) : Int) 9259542123273814144 = (((A2 ||| B2) &&& 9259542123273814144 : Nat) : Int) := u64_and_nat _ 9259542123273814144 lO (by omega)
                obtain ⟨O, hO⟩ : ∃ O, A2 ||| B2 = O := ⟨_, rfl⟩
                rw [hO] at hor hand e2
                obtain ⟨Z2, hZ2⟩ : ∃ Z, O &&& 9259542123273814144 = Z := ⟨_, rfl⟩
                rw [hZ2] at hand e2
                have e8 : m3 + 16 - 8 = m3 + 8 := by omega
                rw [e8] at cB2
                have b16 : decide ((16 : Int) < (m3 : Int) + 16) = true := by simp; omega
                have b16b : (16 : Int) < (m3 : Int) + 16 := by omega
                have s8 : (8 : Int) ≤ (m3 : Int) + 16 := by omega
                have HE := Lib.hid e2
                clear e2 hO hZ2 lO e8
                by_cases hz : Z2 = 0
                · have hz1 : ((Z2 : Int) == 0) = true := by simp [hz]
                  have V4 := Lib.hid (HE.out hz)
                  rw [Nat.add_sub_cancel] at V4
                  clear HE
                  go_big_quiet (first | (go_at_call 57; refine Calls.quiet_of (v := .int .u64 (A2 : Int)) ?_; with_reducible exact cA2 _ _) | (go_at_call 57; refine Calls.quiet_of (v := .int .u64 (B2 : Int)) ?_; with_reducible exact cB2 _ _))
                  go_wp2_with (fail)
                  have V5 := Lib.hid (V4.out.draw nq)
                  have hgn : g < (wq.drewN nq).heap.size := by simpa using hgq
                  clear cA2 cB2 hand hor hz1 V3 V4 c16 b16 b16b s8 hgq hz
                  generalize wq.drewN nq = w5 at V5 hgn ⊢
                  generalize k2 + 16 = k3 at V5 ⊢
                  go_loopw [0] (fun v wx => ∃ (k m : Nat), v = .slice (some ⟨g, k, none⟩) m m ∧ m ≤ m3 ∧ Hid (Vd w ANS g k m wx)) (fun v _ => lenV v)
                  case atStart => exact ⟨k3, m3, rfl, Nat.le_refl _, V5.out⟩
                  case round =>
                    obtain ⟨k, m, rfl, hm2, HM⟩ := hrel
                    by_cases c32 : 32 < m
                    · obtain ⟨m4, rfl⟩ : ∃ m4, m = m4 + 32 := ⟨m - 32, by omega⟩
                      obtain ⟨A, B, C, D, lA, lB, lC, lD, e4, cA, cB, cC, cD⟩ := HM.out.word4 c32
                      have h1 : bits .or .u64 (A : Int) (B : Int) = ((A ||| B : Nat) : Int) := u64_or_nat A B lA lB
                      have h2 : bits .or .u64 (C : Int) (D : Int) = ((C ||| D : Nat) : Int) := u64_or_nat C D lC lD
                      have l1 : A ||| B < 18446744073709551616 := Nat.or_lt_two_pow (n := 64) lA lB
                      have l2 : C ||| D < 18446744073709551616 := Nat.or_lt_two_pow (n := 64) lC lD
                      obtain ⟨O1, hO1⟩ : ∃ O, A ||| B = O := ⟨_, rfl⟩
                      obtain ⟨O2, hO2⟩ : ∃ O, C ||| D = O := ⟨_, rfl⟩
                      rw [hO1] at h1 l1 e4
                      rw [hO2] at h2 l2 e4
                      have h3 : bits .or .u64 (O1 : Int) (O2 : Int) = ((O1 ||| O2 : Nat) : Int) := u64_or_nat O1 O2 l1 l2
                      have l3 : O1 ||| O2 < 18446744073709551616 := Nat.or_lt_two_pow (n := 64) l1 l2
                      have hand : bits .and .u64 ((O1 ||| O2 : Nat) : Int) 9259542123273814144 = (((O1 ||| O2) &&& 9259542123273814144 : Nat) : Int) := u64_and_nat _ 9259542123273814144 l3 (by omega)
                      obtain ⟨O3, hO3⟩ : ∃ O, O1 ||| O2 = O := ⟨_, rfl⟩
                      rw [hO3] at h3 hand e4
                      obtain ⟨Z4, hZ4⟩ : ∃ Z, O3 &&& 9259542123273814144 = Z := ⟨_, rfl⟩
                      rw [hZ4] at hand e4
                      have e8 : m4 + 32 - 8 = m4 + 24 := by omega
                      have e16 : m4 + 32 - 16 = m4 + 16 := by omega
                      have e24 : m4 + 32 - 24 = m4 + 8 := by omega
                      rw [e8] at cB
                      rw [e16] at cC
                      rw [e24] at cD
                      have b32 : decide ((32 : Int) < (m4 : Int) + 32) = true := by simp; omega
                      have b32b : (32 : Int) < (m4 : Int) + 32 := by omega
                      have s8 : (8 : Int) ≤ (m4 : Int) + 32 := by omega
                      have s16 : (16 : Int) ≤ (m4 : Int) + 32 := by omega
                      have s24 : (24 : Int) ≤ (m4 : Int) + 32 := by omega
                      have HE := Lib.hid e4
                      clear e4 hO1 hO2 hO3 hZ4 l1 l2 l3 e8 e16 e24
                      by_cases hz : Z4 = 0
                      · have hz1 : ((Z4 : Int) == 0) = true := by simp [hz]
                        have V6 := Lib.hid (HE.out hz)
                        rw [Nat.add_sub_cancel] at V6
                        clear HE hz
                        go_wp2_with (fail)
                        go_big_quiet (first | (go_at_call 57; refine Calls.quiet_of (v := .int .u64 (A : Int)) ?_; with_reducible exact cA _ _) | (go_at_call 57; refine Calls.quiet_of (v := .int .u64 (B : Int)) ?_; with_reducible exact cB _ _) | (go_at_call 57; refine Calls.quiet_of (v := .int .u64 (C : Int)) ?_; with_reducible exact cC _ _) | (go_at_call 57; refine Calls.quiet_of (v := .int .u64 (D : Int)) ?_; with_reducible exact cD _ _))
                        go_wp2_with (fail)
                        go_roundw
                        case rel => exact ⟨k + 32, m4, rfl, by omega, V6.out.draw _⟩
                        case measure => simp [lenV]
                      · have hz1 : ((Z4 : Int) == 0) = false := by simp; omega
                        clear HE hz
                        go_wp2_with (fail)
                        go_big_quiet (first | (go_at_call 57; refine Calls.quiet_of (v := .int .u64 (A : Int)) ?_; with_reducible exact cA _ _) | (go_at_call 57; refine Calls.quiet_of (v := .int .u64 (B : Int)) ?_; with_reducible exact cB _ _) | (go_at_call 57; refine Calls.quiet_of (v := .int .u64 (C : Int)) ?_; with_reducible exact cC _ _) | (go_at_call 57; refine Calls.quiet_of (v := .int .u64 (D : Int)) ?_; with_reducible exact cD _ _))
                        go_wp2_with (fail)
                        go_roundw
                        case rel => exact ⟨k, m4 + 32, rfl, by omega, HM.out.draw _⟩
                        case measure => simp [lenV]; omega
                    · have b32 : ¬ ((32 : Int) < (m : Int)) := by omega
                      have b32b : decide ((32 : Int) < (m : Int)) = false := by simp; omega
                      go_wp2_with (fail)
                      go_big_quiet (fail)
                      go_wp2_with (fail)
                      go_roundw
                      case rel => exact ⟨k, m, rfl, by omega, HM.out.draw _⟩
                      case measure => simp [lenV]; omega
                · have hz1 : ((Z2 : Int) == 0) = false := by simp; omega
                  clear HE
                  go_big_quiet (first | (go_at_call 57; refine Calls.quiet_of (v := .int .u64 (A2 : Int)) ?_; with_reducible exact cA2 _ _) | (go_at_call 57; refine Calls.quiet_of (v := .int .u64 (B2 : Int)) ?_; with_reducible exact cB2 _ _))
                  go_wp2_with (fail)
                  go_roundw
                  case rel => exact ⟨k2, m3 + 16, rfl, by omega, V3.out.draw _⟩
                  case measure => simp [lenV]
              · have b16 : ¬ ((16 : Int) < (m2 : Int)) := by omega
                have b16b : decide ((16 : Int) < (m2 : Int)) = false := by simp; omega
                go_big_quiet (fail)
                go_wp2_with (fail)
                go_roundw
                case rel => exact ⟨k2, m2, rfl, by omega, V3.out.draw _⟩
                case measure => simp [lenV]; omega
            · have hz1 : ((Z : Int) == 0) = false := by simp; omega
              clear hz HE
              go_wp2_with (go_at_call 57; refine Calls.mono (by with_reducible exact cA0 _) ?_; rintro e w1 ⟨rfl, q, rfl⟩)
              go_roundw
              case rel => exact ⟨k + 1, m2 + 8, rfl, by omega, V1.out.draw q⟩
              case measure => simp [lenV]
          · have b8 : ¬ ((8 : Int) < (m1 : Int)) := by omega
            have b8b : decide ((8 : Int) < (m1 : Int)) = false := by simp; omega
            by_cases h1 : m1 = 0
            · subst h1
              go_wp2_with (fail)
              go_roundw
              case rel => exact ⟨k, 0, rfl, by omega, V1.out.zero k⟩
              case measure => simp [lenV]
            · go_wp2_with (fail)
              go_roundw
              case rel => exact ⟨k + 1, m1, rfl, by omega, V1.out⟩
              case measure => simp [lenV]
      · obtain ⟨x1, x2, x3, g1, g2, g3, hno, hyes⟩ := hhigh (by omega)
        have hge : ¬ ((x0.toNat : Int) < 128) := by omega
        have hged : decide ((x0.toNat : Int) < 128) = false := by simp; omega
        have hTr := Utf8Tabs_below HT.out HM.out.below
        have hf0 := hTr.1 x0.toNat lx
        have hXlt : Lib.firstT x0.toNat < 256 := by rcases Lib.firstT_cases x0.toNat with h | h | h | h | h | h | h | h | h <;> omega
        have ha0 := (hTr.2 (Lib.firstT x0.toNat / 16) (by omega)).1
        have ha1 := (hTr.2 (Lib.firstT x0.toNat / 16) (by omega)).2
        rw [Nat.mul_comm] at ha0 ha1
        obtain ⟨X, hX⟩ : ∃ X, Lib.firstT x0.toNat = X := ⟨_, rfl⟩
        rw [hX] at hf0 hXlt ha0 ha1 hno hyes
        have h7 := and_seven ⟨X, hXlt⟩
        simp only at h7
        obtain ⟨LO, hLO⟩ : ∃ LO, Lib.accLo (X / 16) = LO := ⟨_, rfl⟩
        obtain ⟨HI, hHI⟩ : ∃ HI, Lib.accHi (X / 16) = HI := ⟨_, rfl⟩
        rw [hLO] at ha0 hno hyes
        rw [hHI] at ha1 hno hyes
        have l1 := x1.toNat_lt
        have l2 := x2.toNat_lt
        have l3 := x3.toNat_lt
        have VV : Hid (∀ w2, Below wr.heap.size wr w2 → Vd w ANS g k (m1 + 1) w2) := fun w2 b => HM.out.grow hg b
        have HB := Lib.hid HM.out.below
        clear hTr hX hLO hHI hlow hhigh
        by_cases s2 : X % 8 = 2
        · as_aux_lemma =>
            have hSZ : (X : Int) % 8 = 2 := by omega
            have HN : Hid ((m1 + 1 < 2 ∨ x1.toNat < LO ∨ HI < x1.toNat) → ANS = false) := fun q => hno (by rw [s2]; simp only [Lib.checkN, Nat.reduceEqDiff, if_true, if_false]; rw [if_pos q])
            have HY : Hid (¬ (m1 + 1 < 2 ∨ x1.toNat < LO ∨ HI < x1.toNat) → Vd w ANS g (k + 2) (m1 + 1 - 2) wr) := fun q => hyes 2 (by rw [s2]; simp only [Lib.checkN, Nat.reduceEqDiff, if_true, if_false]; rw [if_neg q])
            clear hno hyes
            go_upto_region 18 with fail
            go_cut [103] from 85 to 103 (fun c wx => c = .bool (decide (m1 + 1 < 2 ∨ x1.toNat < LO ∨ HI < x1.toNat)) ∧ Below wr.heap.size wr wx)
            case first =>
              by_cases q0 : m1 + 1 < 2
              · have z0 : (m1 : Int) + 1 < 2 := by omega
                have d0 : decide ((m1 : Int) + 1 < 2) = true := by simp; omega
                go_big_quiet (fail)
                go_wp2_with (fail)
                go_meet
                exact ⟨congrArg Value.bool (decide_eq_true (p := m1 + 1 < 2 ∨ x1.toNat < LO ∨ HI < x1.toNat) (by omega)).symm, below_drewN ((Below.refl _ _).alloc (Nat.le_refl _) _) _⟩
              · have z0 : ¬ ((m1 : Int) + 1 < 2) := by omega
                have d0 : decide ((m1 : Int) + 1 < 2) = false := by simp; omega
                have e1 := g1 (by omega)
                have y1 : (1 : Int) < (m1 : Int) + 1 := by omega
                by_cases q1 : x1.toNat < LO
                · have z1 : (x1.toNat : Int) < (LO : Int) := by omega
                  have d1 : decide ((x1.toNat : Int) < (LO : Int)) = true := by simp; omega
                  go_big_quiet (fail)
                  go_wp2_with (fail)
                  go_meet
                  exact ⟨congrArg Value.bool (decide_eq_true (p := m1 + 1 < 2 ∨ x1.toNat < LO ∨ HI < x1.toNat) (by omega)).symm, below_drewN ((Below.refl _ _).alloc (Nat.le_refl _) _) _⟩
                · have z1 : ¬ ((x1.toNat : Int) < (LO : Int)) := by omega
                  have d1 : decide ((x1.toNat : Int) < (LO : Int)) = false := by simp; omega
                  by_cases q2 : HI < x1.toNat
                  · have z2 : (HI : Int) < (x1.toNat : Int) := by omega
                    have d2 : decide ((HI : Int) < (x1.toNat : Int)) = true := by simp; omega
                    go_big_quiet (fail)
                    go_wp2_with (fail)
                    go_meet
                    exact ⟨congrArg Value.bool (decide_eq_true (p := m1 + 1 < 2 ∨ x1.toNat < LO ∨ HI < x1.toNat) (by omega)).symm, below_drewN ((Below.refl _ _).alloc (Nat.le_refl _) _) _⟩
                  · have z2 : ¬ ((HI : Int) < (x1.toNat : Int)) := by omega
                    have d2 : decide ((HI : Int) < (x1.toNat : Int)) = false := by simp; omega
                    go_big_quiet (fail)
                    go_wp2_with (fail)
                    go_meet
                    exact ⟨congrArg Value.bool (decide_eq_false (p := m1 + 1 < 2 ∨ x1.toNat < LO ∨ HI < x1.toNat) (by omega)).symm, below_drewN ((Below.refl _ _).alloc (Nat.le_refl _) _) _⟩
            case rest =>
              obtain ⟨rfl, hbc⟩ := hcut
              by_cases hb : m1 + 1 < 2 ∨ x1.toNat < LO ∨ HI < x1.toNat
              · have hbd : decide (m1 + 1 < 2 ∨ x1.toNat < LO ∨ HI < x1.toNat) = true := decide_eq_true hb
                obtain rfl : ANS = false := HN.out hb
                have HB2 := Lib.hid (HB.out.trans (hbc.mono HB.out.size))
                clear hbc HN HY VV
                go_wp2_with (fail)
                all_goals (go_ret; exact ⟨rfl, HB2.out⟩)
              · have hbd : decide (m1 + 1 < 2 ∨ x1.toNat < LO ∨ HI < x1.toNat) = false := decide_eq_false hb
                have V2 := Lib.hid ((HY.out hb).grow hg hbc)
                clear hbc HN HY VV
                obtain ⟨m2, rfl⟩ : ∃ m2, m1 = m2 + 1 := ⟨m1 - 1, by omega⟩
                have em : m2 + 1 + 1 - 2 = m2 := by omega
                rw [em] at V2
                by_cases hz : m2 = 0
                · subst hz
                  go_wp2_with (fail)
                  go_roundw
                  case rel => exact ⟨k, 0, rfl, by omega, V2.out.zero k⟩
                  case measure => simp [lenV]
                · go_wp2_with (fail)
                  go_roundw
                  case rel => exact ⟨k + 2, m2, rfl, by omega, V2.out⟩
                  case measure => simp [lenV]; omega
        by_cases s3 : X % 8 = 3
        · as_aux_lemma =>
            have hSZ : (X : Int) % 8 = 3 := by omega
            have HN : Hid ((m1 + 1 < 3 ∨ x1.toNat < LO ∨ HI < x1.toNat ∨ x2.toNat < 128 ∨ 191 < x2.toNat) → ANS = false) := fun q => hno (by rw [s3]; simp only [Lib.checkN, Nat.reduceEqDiff, if_true, if_false]; rw [if_pos q])
            have HY : Hid (¬ (m1 + 1 < 3 ∨ x1.toNat < LO ∨ HI < x1.toNat ∨ x2.toNat < 128 ∨ 191 < x2.toNat) → Vd w ANS g (k + 3) (m1 + 1 - 3) wr) := fun q => hyes 3 (by rw [s3]; simp only [Lib.checkN, Nat.reduceEqDiff, if_true, if_false]; rw [if_neg q])
            clear hno hyes
            go_upto_region 22 with fail
            go_cut [138] from 108 to 138 (fun c wx => c = .bool (decide (m1 + 1 < 3 ∨ x1.toNat < LO ∨ HI < x1.toNat ∨ x2.toNat < 128 ∨ 191 < x2.toNat)) ∧ Below wr.heap.size wr wx)
            case first =>
              by_cases q0 : m1 + 1 < 3
              · have z0 : (m1 : Int) + 1 < 3 := by omega
                have d0 : decide ((m1 : Int) + 1 < 3) = true := by simp; omega
                go_big_quiet (fail)
                go_wp2_with (fail)
                go_meet
                exact ⟨congrArg Value.bool (decide_eq_true (p := m1 + 1 < 3 ∨ x1.toNat < LO ∨ HI < x1.toNat ∨ x2.toNat < 128 ∨ 191 < x2.toNat) (by omega)).symm, below_drewN ((Below.refl _ _).alloc (Nat.le_refl _) _) _⟩
              · have z0 : ¬ ((m1 : Int) + 1 < 3) := by omega
                have d0 : decide ((m1 : Int) + 1 < 3) = false := by simp; omega
                have e1 := g1 (by omega)
                have y1 : (1 : Int) < (m1 : Int) + 1 := by omega
                have e2 := g2 (by omega)
                have y2 : (2 : Int) < (m1 : Int) + 1 := by omega
                by_cases q1 : x1.toNat < LO
                · have z1 : (x1.toNat : Int) < (LO : Int) := by omega
                  have d1 : decide ((x1.toNat : Int) < (LO : Int)) = true := by simp; omega
                  go_big_quiet (fail)
                  go_wp2_with (fail)
                  go_meet
                  exact ⟨congrArg Value.bool (decide_eq_true (p := m1 + 1 < 3 ∨ x1.toNat < LO ∨ HI < x1.toNat ∨ x2.toNat < 128 ∨ 191 < x2.toNat) (by omega)).symm, below_drewN ((Below.refl _ _).alloc (Nat.le_refl _) _) _⟩
                · have z1 : ¬ ((x1.toNat : Int) < (LO : Int)) := by omega
                  have d1 : decide ((x1.toNat : Int) < (LO : Int)) = false := by simp; omega
                  by_cases q2 : HI < x1.toNat
                  · have z2 : (HI : Int) < (x1.toNat : Int) := by omega
                    have d2 : decide ((HI : Int) < (x1.toNat : Int)) = true := by simp; omega
                    go_big_quiet (fail)
                    go_wp2_with (fail)
                    go_meet
                    exact ⟨congrArg Value.bool (decide_eq_true (p := m1 + 1 < 3 ∨ x1.toNat < LO ∨ HI < x1.toNat ∨ x2.toNat < 128 ∨ 191 < x2.toNat) (by omega)).symm, below_drewN ((Below.refl _ _).alloc (Nat.le_refl _) _) _⟩
                  · have z2 : ¬ ((HI : Int) < (x1.toNat : Int)) := by omega
                    have d2 : decide ((HI : Int) < (x1.toNat : Int)) = false := by simp; omega
                    by_cases q3 : x2.toNat < 128
                    · have z3 : (x2.toNat : Int) < 128 := by omega
                      have d3 : decide ((x2.toNat : Int) < 128) = true := by simp; omega
                      go_big_quiet (fail)
                      go_wp2_with (fail)
                      go_meet
                      exact ⟨congrArg Value.bool (decide_eq_true (p := m1 + 1 < 3 ∨ x1.toNat < LO ∨ HI < x1.toNat ∨ x2.toNat < 128 ∨ 191 < x2.toNat) (by omega)).symm, below_drewN ((Below.refl _ _).alloc (Nat.le_refl _) _) _⟩
                    · have z3 : ¬ ((x2.toNat : Int) < 128) := by omega
                      have d3 : decide ((x2.toNat : Int) < 128) = false := by simp; omega
                      by_cases q4 : 191 < x2.toNat
                      · have z4 : 191 < (x2.toNat : Int) := by omega
                        have d4 : decide (191 < (x2.toNat : Int)) = true := by simp; omega
                        go_big_quiet (fail)
                        go_wp2_with (fail)
                        go_meet
                        exact ⟨congrArg Value.bool (decide_eq_true (p := m1 + 1 < 3 ∨ x1.toNat < LO ∨ HI < x1.toNat ∨ x2.toNat < 128 ∨ 191 < x2.toNat) (by omega)).symm, below_drewN ((Below.refl _ _).alloc (Nat.le_refl _) _) _⟩
                      · have z4 : ¬ (191 < (x2.toNat : Int)) := by omega
                        have d4 : decide (191 < (x2.toNat : Int)) = false := by simp; omega
                        go_big_quiet (fail)
                        go_wp2_with (fail)
                        go_meet
                        exact ⟨congrArg Value.bool (decide_eq_false (p := m1 + 1 < 3 ∨ x1.toNat < LO ∨ HI < x1.toNat ∨ x2.toNat < 128 ∨ 191 < x2.toNat) (by omega)).symm, below_drewN ((Below.refl _ _).alloc (Nat.le_refl _) _) _⟩
            case rest =>
              obtain ⟨rfl, hbc⟩ := hcut
              by_cases hb : m1 + 1 < 3 ∨ x1.toNat < LO ∨ HI < x1.toNat ∨ x2.toNat < 128 ∨ 191 < x2.toNat
              · have hbd : decide (m1 + 1 < 3 ∨ x1.toNat < LO ∨ HI < x1.toNat ∨ x2.toNat < 128 ∨ 191 < x2.toNat) = true := decide_eq_true hb
                obtain rfl : ANS = false := HN.out hb
                have HB2 := Lib.hid (HB.out.trans (hbc.mono HB.out.size))
                clear hbc HN HY VV
                go_wp2_with (fail)
                all_goals (go_ret; exact ⟨rfl, HB2.out⟩)
              · have hbd : decide (m1 + 1 < 3 ∨ x1.toNat < LO ∨ HI < x1.toNat ∨ x2.toNat < 128 ∨ 191 < x2.toNat) = false := decide_eq_false hb
                have V2 := Lib.hid ((HY.out hb).grow hg hbc)
                clear hbc HN HY VV
                obtain ⟨m2, rfl⟩ : ∃ m2, m1 = m2 + 2 := ⟨m1 - 2, by omega⟩
                have em : m2 + 2 + 1 - 3 = m2 := by omega
                rw [em] at V2
                by_cases hz : m2 = 0
                · subst hz
                  go_wp2_with (fail)
                  go_roundw
                  case rel => exact ⟨k, 0, rfl, by omega, V2.out.zero k⟩
                  case measure => simp [lenV]
                · go_wp2_with (fail)
                  go_roundw
                  case rel => exact ⟨k + 3, m2, rfl, by omega, V2.out⟩
                  case measure => simp [lenV]; omega
        by_cases s4 : X % 8 = 4
        · as_aux_lemma =>
            have hSZ : (X : Int) % 8 = 4 := by omega
            have HN : Hid ((m1 + 1 < 4 ∨ x1.toNat < LO ∨ HI < x1.toNat ∨ x2.toNat < 128 ∨ 191 < x2.toNat ∨ x3.toNat < 128 ∨ 191 < x3.toNat) → ANS = false) := fun q => hno (by rw [s4]; simp only [Lib.checkN, Nat.reduceEqDiff, if_true, if_false]; rw [if_pos q])
            have HY : Hid (¬ (m1 + 1 < 4 ∨ x1.toNat < LO ∨ HI < x1.toNat ∨ x2.toNat < 128 ∨ 191 < x2.toNat ∨ x3.toNat < 128 ∨ 191 < x3.toNat) → Vd w ANS g (k + 4) (m1 + 1 - 4) wr) := fun q => hyes 4 (by rw [s4]; simp only [Lib.checkN, Nat.reduceEqDiff, if_true, if_false]; rw [if_neg q])
            clear hno hyes
            go_upto_region 26 with fail
            go_cut [185] from 143 to 185 (fun c wx => c = .bool (decide (m1 + 1 < 4 ∨ x1.toNat < LO ∨ HI < x1.toNat ∨ x2.toNat < 128 ∨ 191 < x2.toNat ∨ x3.toNat < 128 ∨ 191 < x3.toNat)) ∧ Below wr.heap.size wr wx)
            case first =>
              by_cases q0 : m1 + 1 < 4
              · have z0 : (m1 : Int) + 1 < 4 := by omega
                have d0 : decide ((m1 : Int) + 1 < 4) = true := by simp; omega
                go_big_quiet (fail)
                go_wp2_with (fail)
                go_meet
                exact ⟨congrArg Value.bool (decide_eq_true (p := m1 + 1 < 4 ∨ x1.toNat < LO ∨ HI < x1.toNat ∨ x2.toNat < 128 ∨ 191 < x2.toNat ∨ x3.toNat < 128 ∨ 191 < x3.toNat) (by omega)).symm, below_drewN ((Below.refl _ _).alloc (Nat.le_refl _) _) _⟩
              · have z0 : ¬ ((m1 : Int) + 1 < 4) := by omega
                have d0 : decide ((m1 : Int) + 1 < 4) = false := by simp; omega
                have e1 := g1 (by omega)
                have y1 : (1 : Int) < (m1 : Int) + 1 := by omega
                have e2 := g2 (by omega)
                have y2 : (2 : Int) < (m1 : Int) + 1 := by omega
                have e3 := g3 (by omega)
                have y3 : (3 : Int) < (m1 : Int) + 1 := by omega
                by_cases q1 : x1.toNat < LO
                · have z1 : (x1.toNat : Int) < (LO : Int) := by omega
                  have d1 : decide ((x1.toNat : Int) < (LO : Int)) = true := by simp; omega
                  go_big_quiet (fail)
                  go_wp2_with (fail)
                  go_meet
                  exact ⟨congrArg Value.bool (decide_eq_true (p := m1 + 1 < 4 ∨ x1.toNat < LO ∨ HI < x1.toNat ∨ x2.toNat < 128 ∨ 191 < x2.toNat ∨ x3.toNat < 128 ∨ 191 < x3.toNat) (by omega)).symm, below_drewN ((Below.refl _ _).alloc (Nat.le_refl _) _) _⟩
                · have z1 : ¬ ((x1.toNat : Int) < (LO : Int)) := by omega
                  have d1 : decide ((x1.toNat : Int) < (LO : Int)) = false := by simp; omega
                  by_cases q2 : HI < x1.toNat
                  · have z2 : (HI : Int) < (x1.toNat : Int) := by omega
                    have d2 : decide ((HI : Int) < (x1.toNat : Int)) = true := by simp; omega
                    go_big_quiet (fail)
                    go_wp2_with (fail)
                    go_meet
                    exact ⟨congrArg Value.bool (decide_eq_true (p := m1 + 1 < 4 ∨ x1.toNat < LO ∨ HI < x1.toNat ∨ x2.toNat < 128 ∨ 191 < x2.toNat ∨ x3.toNat < 128 ∨ 191 < x3.toNat) (by omega)).symm, below_drewN ((Below.refl _ _).alloc (Nat.le_refl _) _) _⟩
                  · have z2 : ¬ ((HI : Int) < (x1.toNat : Int)) := by omega
                    have d2 : decide ((HI : Int) < (x1.toNat : Int)) = false := by simp; omega
                    by_cases q3 : x2.toNat < 128
                    · have z3 : (x2.toNat : Int) < 128 := by omega
                      have d3 : decide ((x2.toNat : Int) < 128) = true := by simp; omega
                      go_big_quiet (fail)
                      go_wp2_with (fail)
                      go_meet
                      exact ⟨congrArg Value.bool (decide_eq_true (p := m1 + 1 < 4 ∨ x1.toNat < LO ∨ HI < x1.toNat ∨ x2.toNat < 128 ∨ 191 < x2.toNat ∨ x3.toNat < 128 ∨ 191 < x3.toNat) (by omega)).symm, below_drewN ((Below.refl _ _).alloc (Nat.le_refl _) _) _⟩
                    · have z3 : ¬ ((x2.toNat : Int) < 128) := by omega
                      have d3 : decide ((x2.toNat : Int) < 128) = false := by simp; omega
                      by_cases q4 : 191 < x2.toNat
                      · have z4 : 191 < (x2.toNat : Int) := by omega
                        have d4 : decide (191 < (x2.toNat : Int)) = true := by simp; omega
                        go_big_quiet (fail)
                        go_wp2_with (fail)
                        go_meet
                        exact ⟨congrArg Value.bool (decide_eq_true (p := m1 + 1 < 4 ∨ x1.toNat < LO ∨ HI < x1.toNat ∨ x2.toNat < 128 ∨ 191 < x2.toNat ∨ x3.toNat < 128 ∨ 191 < x3.toNat) (by omega)).symm, below_drewN ((Below.refl _ _).alloc (Nat.le_refl _) _) _⟩
                      · have z4 : ¬ (191 < (x2.toNat : Int)) := by omega
                        have d4 : decide (191 < (x2.toNat : Int)) = false := by simp; omega
                        by_cases q5 : x3.toNat < 128
                        · have z5 : (x3.toNat : Int) < 128 := by omega
                          have d5 : decide ((x3.toNat : Int) < 128) = true := by simp; omega
                          go_big_quiet (fail)
                          go_wp2_with (fail)
                          go_meet
                          exact ⟨congrArg Value.bool (decide_eq_true (p := m1 + 1 < 4 ∨ x1.toNat < LO ∨ HI < x1.toNat ∨ x2.toNat < 128 ∨ 191 < x2.toNat ∨ x3.toNat < 128 ∨ 191 < x3.toNat) (by omega)).symm, below_drewN ((Below.refl _ _).alloc (Nat.le_refl _) _) _⟩
                        · have z5 : ¬ ((x3.toNat : Int) < 128) := by omega
                          have d5 : decide ((x3.toNat : Int) < 128) = false := by simp; omega
                          by_cases q6 : 191 < x3.toNat
                          · have z6 : 191 < (x3.toNat : Int) := by omega
                            have d6 : decide (191 < (x3.toNat : Int)) = true := by simp; omega
                            go_big_quiet (fail)
                            go_wp2_with (fail)
                            go_meet
                            exact ⟨congrArg Value.bool (decide_eq_true (p := m1 + 1 < 4 ∨ x1.toNat < LO ∨ HI < x1.toNat ∨ x2.toNat < 128 ∨ 191 < x2.toNat ∨ x3.toNat < 128 ∨ 191 < x3.toNat) (by omega)).symm, below_drewN ((Below.refl _ _).alloc (Nat.le_refl _) _) _⟩
                          · have z6 : ¬ (191 < (x3.toNat : Int)) := by omega
                            have d6 : decide (191 < (x3.toNat : Int)) = false := by simp; omega
                            go_big_quiet (fail)
                            go_wp2_with (fail)
                            go_meet
                            exact ⟨congrArg Value.bool (decide_eq_false (p := m1 + 1 < 4 ∨ x1.toNat < LO ∨ HI < x1.toNat ∨ x2.toNat < 128 ∨ 191 < x2.toNat ∨ x3.toNat < 128 ∨ 191 < x3.toNat) (by omega)).symm, below_drewN ((Below.refl _ _).alloc (Nat.le_refl _) _) _⟩
            case rest =>
              obtain ⟨rfl, hbc⟩ := hcut
              by_cases hb : m1 + 1 < 4 ∨ x1.toNat < LO ∨ HI < x1.toNat ∨ x2.toNat < 128 ∨ 191 < x2.toNat ∨ x3.toNat < 128 ∨ 191 < x3.toNat
              · have hbd : decide (m1 + 1 < 4 ∨ x1.toNat < LO ∨ HI < x1.toNat ∨ x2.toNat < 128 ∨ 191 < x2.toNat ∨ x3.toNat < 128 ∨ 191 < x3.toNat) = true := decide_eq_true hb
                obtain rfl : ANS = false := HN.out hb
                have HB2 := Lib.hid (HB.out.trans (hbc.mono HB.out.size))
                clear hbc HN HY VV
                go_wp2_with (fail)
                all_goals (go_ret; exact ⟨rfl, HB2.out⟩)
              · have hbd : decide (m1 + 1 < 4 ∨ x1.toNat < LO ∨ HI < x1.toNat ∨ x2.toNat < 128 ∨ 191 < x2.toNat ∨ x3.toNat < 128 ∨ 191 < x3.toNat) = false := decide_eq_false hb
                have V2 := Lib.hid ((HY.out hb).grow hg hbc)
                clear hbc HN HY VV
                obtain ⟨m2, rfl⟩ : ∃ m2, m1 = m2 + 3 := ⟨m1 - 3, by omega⟩
                have em : m2 + 3 + 1 - 4 = m2 := by omega
                rw [em] at V2
                by_cases hz : m2 = 0
                · subst hz
                  go_wp2_with (fail)
                  go_roundw
                  case rel => exact ⟨k, 0, rfl, by omega, V2.out.zero k⟩
                  case measure => simp [lenV]
                · go_wp2_with (fail)
                  go_roundw
                  case rel => exact ⟨k + 4, m2, rfl, by omega, V2.out⟩
                  case measure => simp [lenV]; omega
        · have e2b : (((X : Int) % 8) == 2) = false := by simp; omega
          have e3b : (((X : Int) % 8) == 3) = false := by simp; omega
          have e4b : (((X : Int) % 8) == 4) = false := by simp; omega
          obtain rfl : ANS = false := hno (by simp only [Lib.checkN, s2, s3, s4, if_false])
          clear hno hyes VV
          go_wp2_with (fail)
          all_goals (go_ret; exact ⟨rfl, HB.out.trans (((Below.refl _ _).alloc (Nat.le_refl _) _).mono HB.out.size)⟩)
    · obtain rfl : m = 0 := by omega
      obtain rfl : ANS = true := HM.out.done
      have HB := Lib.hid HM.out.below
      go_wp2_with (fail)
      go_ret
      exact ⟨rfl, HB.out⟩

end Go.Proofs.YtgemkjickljedaaGreatDoor
