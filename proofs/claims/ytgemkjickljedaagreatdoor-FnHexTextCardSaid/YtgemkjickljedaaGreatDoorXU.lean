/- What types.Unescape answers: the bytes that the automaton reads. Conditions: at most 20000 bytes. -/
import Derived.Test.YtgemkjickljedaaGreatDoorXT
namespace Go.Proofs.YtgemkjickljedaaGreatDoor.Lit
open Go.ChangeShapes Go.WideShapes Go.ChangeAt Go.RowKit

def stE : St → Bool
  | .n => false
  | _ => true
def stL : St → Bool
  | .l => true
  | _ => false
def stO : St → ByteArray
  | .o1 d => ⟨#[d]⟩
  | .o2 d e => ⟨#[d, e]⟩
  | _ => ⟨#[]⟩
def stK : St → Prop
  | .o1 d => oct d = true
  | .o2 d e => oct d = true ∧ oct e = true
  | _ => True
theorem cat0 (c : UInt8) : (⟨#[]⟩ : ByteArray) ++ ⟨#[c]⟩ = ⟨#[c]⟩ := str_ext (by simp)
theorem cat1 (d c : UInt8) : (⟨#[d]⟩ : ByteArray) ++ ⟨#[c]⟩ = ⟨#[d, c]⟩ := str_ext (by simp)
theorem cat2 (d e c : UInt8) : (⟨#[d, e]⟩ : ByteArray) ++ ⟨#[c]⟩ = ⟨#[d, e, c]⟩ := str_ext (by simp)
theorem escv_oct {c : UInt8} (h : oct c = true) : escv c = c := by
  unfold escv
  rw [if_neg, if_neg, if_neg, if_neg, if_neg]
  all_goals (rintro rfl; revert h; decide)

set_option maxHeartbeats 8000000 in
set_option maxRecDepth 100000 in
theorem unesc_any (s : ByteArray) (w : World) (hs : s.size ≤ 20000) :
    Calls Tryz.prog 37 #[.string s] w fun e w' => ∃ v, e = .returned (.tuple #[v, .nilIface]) ∧ w'.ownsRow w.heap.size 5 1 v (un .n s.data.toList).length (vals (un .n s.data.toList)) ∧ Below w.heap.size w w' := by
  have hlen : s.data.toList.length = s.size := by simp
  obtain ⟨R, hR⟩ : ∃ R, un .n s.data.toList = R := ⟨_, rfl⟩
  have HR0 : Hid (un .n s.data.toList = R) := hR
  rw [hR]
  clear hR
  have HLEN : Hid (s.data.toList.length = s.size) := hlen
  clear hlen
  have HF : Hid (Bf w (w.alloc (.cells #[.slice none 0 0, .int .i64 0, .int .i8 0] 78)) []) := Bf.fresh w
  go_enter Tryz.func37, Tryz.ntmps37
  go_wp2_with (fail)
  go_loopw [4, 5, 6, 8] (fun ev lv ov iv wr => ∃ (st : St) (acc : List UInt8) (i : Nat), ev = .bool (stE st) ∧ lv = .bool (stL st) ∧ ov = .string (stO st) ∧ iv = .int .i64 i ∧ i ≤ s.size ∧ acc.length ≤ 3 * i ∧ Hid (stK st ∧ acc ++ un st (s.data.toList.drop i) = R ∧ Bf w wr acc)) (fun _ _ _ iv _ => s.size - (intOf iv).toNat)
  case atStart => exact ⟨.n, [], 0, rfl, rfl, rfl, rfl, Nat.zero_le _, by simp, trivial, HR0.out, HF.out⟩
  case round =>
    obtain ⟨st, acc, i, hE, hL, hO, rfl, hi, hacc, HM⟩ := hrel
    have HB : Hid (Bf w wr acc) := HM.out.2.2
    by_cases hlt : i < s.size
    · have hget := get_of hlt
      obtain ⟨c, hc⟩ : ∃ c, s[i] = c := ⟨_, rfl⟩
      rw [hc] at hget
      have hcl := c.toNat_lt
      have HD : Hid (s.data.toList.drop i = c :: s.data.toList.drop (i + 1)) := drop1' hget
      clear hget
      cases st with
      | n =>
        obtain rfl := hE
        obtain rfl := hL
        obtain rfl := hO
        dsimp only [stE, stL, stO] at *
        by_cases h92 : c = 92
        · have d92 : ((c.toNat : Int) == 92) = true := by rw [h92]; rfl
          have HU : Hid (acc ++ un .e (s.data.toList.drop (i + 1)) = R) := by
            show _ = _
            rw [← HM.out.2.1, HD.out, h92, un_s]
          clear h92
          go_wp2_with (go_at_call 53; refine Calls.mono (by with_reducible exact regular_any _ _ _) ?_; rintro e wq ⟨rfl, rfl⟩)
          go_roundw
          case rel => exact ⟨.e, acc, i + 1, rfl, rfl, rfl, by simp, by omega, by first | omega | (simp; omega), trivial, HU.out, HB.out⟩
          case measure => simp [intOf]; omega
        · have d92 : ((c.toNat : Int) == 92) = false := by rw [beq_eq_false_iff_ne]; intro e; exact h92 ((u8_eq c 92 (by decide)).2 (by omega))
          have HU : Hid ((acc ++ [c]) ++ un .n (s.data.toList.drop (i + 1)) = R) := by
            show _ = _
            rw [← HM.out.2.1, HD.out, un_n _ h92]; simp
          clear h92
          go_wp2_with (first
              | (go_at_call 53; refine Calls.mono (by with_reducible exact regular_any _ _ _) ?_; rintro e wq ⟨rfl, rfl⟩)
              | (go_at_call 51; refine Calls.mono (by with_reducible exact HB.out.write (by first | omega | (simp; omega)) c) ?_; rintro e wz ⟨rfl, hwz⟩; have Hwz : Hid (Bf w wz (acc ++ [c])) := hwz; clear hwz))
          go_roundw
          case rel => exact ⟨.n, (acc ++ [c]), i + 1, rfl, rfl, rfl, by simp, by omega, by first | omega | (simp; omega), trivial, HU.out, Hwz.out⟩
          case measure => simp [intOf]; omega
      | e =>
        obtain rfl := hE
        obtain rfl := hL
        obtain rfl := hO
        dsimp only [stE, stL, stO] at *
        by_cases h92 : c = 92
        · have d92 : ((c.toNat : Int) == 92) = true := by rw [h92]; rfl
          have HU : Hid ((acc ++ [c]) ++ un .n (s.data.toList.drop (i + 1)) = R) := by
            show _ = _
            rw [← HM.out.2.1, HD.out, h92, un_ev _ (by decide) (by decide) (by decide), show escv 92 = 92 by decide]; simp
          clear h92
          go_wp2_with (first
              | (go_at_call 53; refine Calls.mono (by with_reducible exact regular_any _ _ _) ?_; rintro e wq ⟨rfl, rfl⟩)
              | (go_at_call 51; refine Calls.mono (by with_reducible exact HB.out.write (by first | omega | (simp; omega)) c) ?_; rintro e wz ⟨rfl, hwz⟩; have Hwz : Hid (Bf w wz (acc ++ [c])) := hwz; clear hwz))
          go_roundw
          case rel => exact ⟨.n, (acc ++ [c]), i + 1, rfl, rfl, rfl, by simp, by omega, by first | omega | (simp; omega), trivial, HU.out, Hwz.out⟩
          case measure => simp [intOf]; omega
        · have d92 : ((c.toNat : Int) == 92) = false := by rw [beq_eq_false_iff_ne]; intro e; exact h92 ((u8_eq c 92 (by decide)).2 (by omega))
          by_cases h10 : c = 10
          · have d10 : ((c.toNat : Int) == 10) = true := by rw [h10]; rfl
            have HU : Hid (acc ++ un .n (s.data.toList.drop (i + 1)) = R) := by
              show _ = _
              rw [← HM.out.2.1, HD.out, h10, un_e10]
            clear h10 h92
            go_wp2_with (go_at_call 53; refine Calls.mono (by with_reducible exact regular_any _ _ _) ?_; rintro e wq ⟨rfl, rfl⟩)
            go_roundw
            case rel => exact ⟨.n, acc, i + 1, rfl, rfl, rfl, by simp, by omega, by first | omega | (simp; omega), trivial, HU.out, HB.out⟩
            case measure => simp [intOf]; omega
          · have d10 : ((c.toNat : Int) == 10) = false := by rw [beq_eq_false_iff_ne]; intro e; exact h10 ((u8_eq c 10 (by decide)).2 (by omega))
            by_cases h13 : c = 13
            · have d13 : ((c.toNat : Int) == 13) = true := by rw [h13]; rfl
              have HU : Hid (acc ++ un .l (s.data.toList.drop (i + 1)) = R) := by
                show _ = _
                rw [← HM.out.2.1, HD.out, h13, un_e13]
              clear h10 h92 h13
              go_wp2_with (go_at_call 53; refine Calls.mono (by with_reducible exact regular_any _ _ _) ?_; rintro e wq ⟨rfl, rfl⟩)
              go_roundw
              case rel => exact ⟨.l, acc, i + 1, rfl, rfl, rfl, by simp, by omega, by first | omega | (simp; omega), trivial, HU.out, HB.out⟩
              case measure => simp [intOf]; omega
            · have d13 : ((c.toNat : Int) == 13) = false := by rw [beq_eq_false_iff_ne]; intro e; exact h13 ((u8_eq c 13 (by decide)).2 (by omega))
              by_cases ho : oct c = true
              · have hx := fun w => escaped_any c w
                rw [ho, escv_oct ho] at hx
                have hcv := fun w => conv_oct c ho w
                have hcat := cat0 c
                have HU : Hid (acc ++ un (.o1 c) (s.data.toList.drop (i + 1)) = R) := by
                  show _ = _
                  rw [← HM.out.2.1, HD.out, un_eo _ ho]
                have HK : Hid (oct c = true) := ho
                clear h92 h10 h13 ho
                go_wp2_with (first
                    | (go_at_call 53; refine Calls.mono (by with_reducible exact regular_any _ _ _) ?_; rintro e wq ⟨rfl, rfl⟩)
                    | (go_at_call 54; refine Calls.mono (by with_reducible exact hx _) ?_; rintro e wq ⟨rfl, rfl⟩))
                go_roundw
                case rel => exact ⟨(.o1 c), acc, i + 1, rfl, rfl, rfl, by simp, by omega, by first | omega | (simp; omega), HK.out, HU.out, HB.out⟩
                case measure => simp [intOf]; omega
              · have ho' : oct c = false := by simpa using ho
                have hx := fun w => escaped_any c w
                rw [ho'] at hx
                have HU : Hid ((acc ++ [escv c]) ++ un .n (s.data.toList.drop (i + 1)) = R) := by
                  show _ = _
                  rw [← HM.out.2.1, HD.out, un_ev _ ho' h10 h13]; simp
                clear h92 h10 h13 ho ho'
                go_wp2_with (first
                    | (go_at_call 53; refine Calls.mono (by with_reducible exact regular_any _ _ _) ?_; rintro e wq ⟨rfl, rfl⟩)
                    | (go_at_call 54; refine Calls.mono (by with_reducible exact hx _) ?_; rintro e wq ⟨rfl, rfl⟩)
                    | (go_at_call 51; refine Calls.mono (by with_reducible exact HB.out.write (by first | omega | (simp; omega)) (escv c)) ?_; rintro e wz ⟨rfl, hwz⟩; have Hwz : Hid (Bf w wz (acc ++ [(escv c)])) := hwz; clear hwz))
                go_roundw
                case rel => exact ⟨.n, (acc ++ [escv c]), i + 1, rfl, rfl, rfl, by simp, by omega, by first | omega | (simp; omega), trivial, HU.out, Hwz.out⟩
                case measure => simp [intOf]; omega
      | l =>
        obtain rfl := hE
        obtain rfl := hL
        obtain rfl := hO
        dsimp only [stE, stL, stO] at *
        by_cases h10 : c = 10
        · have d10 : ((c.toNat : Int) == 10) = true := by rw [h10]; rfl
          have HU : Hid (acc ++ un .n (s.data.toList.drop (i + 1)) = R) := by
            show _ = _
            rw [← HM.out.2.1, HD.out, h10, un_l10]
          clear h10
          go_wp2
          go_roundw
          case rel => exact ⟨.n, acc, i + 1, rfl, rfl, rfl, by simp, by omega, by first | omega | (simp; omega), trivial, HU.out, HB.out⟩
          case measure => simp [intOf]; omega
        · have d10 : ((c.toNat : Int) == 10) = false := by rw [beq_eq_false_iff_ne]; intro e; exact h10 ((u8_eq c 10 (by decide)).2 (by omega))
          by_cases h92 : c = 92
          · have d92 : ((c.toNat : Int) == 92) = true := by rw [h92]; rfl
            have HU : Hid (acc ++ un .e (s.data.toList.drop (i + 1)) = R) := by
              show _ = _
              rw [← HM.out.2.1, HD.out, un_l _ h10, h92, un_s]
            clear h92
            go_wp2_with (go_at_call 53; refine Calls.mono (by with_reducible exact regular_any _ _ _) ?_; rintro e wq ⟨rfl, rfl⟩)
            go_roundw
            case rel => exact ⟨.e, acc, i + 1, rfl, rfl, rfl, by simp, by omega, by first | omega | (simp; omega), trivial, HU.out, HB.out⟩
            case measure => simp [intOf]; omega
          · have d92 : ((c.toNat : Int) == 92) = false := by rw [beq_eq_false_iff_ne]; intro e; exact h92 ((u8_eq c 92 (by decide)).2 (by omega))
            have HU : Hid ((acc ++ [c]) ++ un .n (s.data.toList.drop (i + 1)) = R) := by
              show _ = _
              rw [← HM.out.2.1, HD.out, un_l _ h10, un_n _ h92]; simp
            clear h92
            go_wp2_with (first
                | (go_at_call 53; refine Calls.mono (by with_reducible exact regular_any _ _ _) ?_; rintro e wq ⟨rfl, rfl⟩)
                | (go_at_call 51; refine Calls.mono (by with_reducible exact HB.out.write (by first | omega | (simp; omega)) c) ?_; rintro e wz ⟨rfl, hwz⟩; have Hwz : Hid (Bf w wz (acc ++ [c])) := hwz; clear hwz))
            go_roundw
            case rel => exact ⟨.n, (acc ++ [c]), i + 1, rfl, rfl, rfl, by simp, by omega, by first | omega | (simp; omega), trivial, HU.out, Hwz.out⟩
            case measure => simp [intOf]; omega
      | o1 d =>
        obtain rfl := hE
        obtain rfl := hL
        obtain rfl := hO
        dsimp only [stE, stL, stO] at *
        have HK : Hid (oct d = true) := HM.out.1
        have hsz : (⟨#[d]⟩ : ByteArray).size = 1 := rfl
        by_cases ho : oct c = true
        · have hcv := fun w => conv_oct c ho w
          have hcat := cat1 d c
          have hsz2 : (⟨#[d, c]⟩ : ByteArray).size = 2 := rfl
          have HU : Hid (acc ++ un (.o2 d c) (s.data.toList.drop (i + 1)) = R) := by
            show _ = _
            rw [← HM.out.2.1, HD.out, un_o1o _ ho]
          have HO : Hid (oct c = true) := ho
          go_wp2_with (go_at_call 50; refine Calls.mono (by with_reducible exact has_oct _ _) ?_; rintro e wa ⟨rfl, bwa⟩; have Hwa : Hid (Bf w wa acc) := HB.out.old bwa; clear bwa)
          go_roundw
          case rel => exact ⟨(.o2 d c), acc, i + 1, rfl, rfl, rfl, by simp, by omega, by first | omega | (simp; omega), ⟨HK.out, HO.out⟩, HU.out, Hwa.out⟩
          case measure => simp [intOf]; omega
        · have ho' : oct c = false := by simpa using ho
          clear ho
          by_cases h92 : c = 92
          · have d92 : ((c.toNat : Int) == 92) = true := by rw [h92]; rfl
            have HU : Hid ((acc ++ [(v1 d)]) ++ un .e (s.data.toList.drop (i + 1)) = R) := by
              show _ = _
              rw [← HM.out.2.1, HD.out, un_o1 _ ho', h92, un_s]; simp
            clear h92
            go_wp2_with (first
                | (go_at_call 50; refine Calls.mono (by with_reducible exact has_oct _ _) ?_; rintro e wa ⟨rfl, bwa⟩; have Hwa : Hid (Bf w wa acc) := HB.out.old bwa; clear bwa)
                | (go_at_call 52; refine Calls.mono (by with_reducible exact byteOct1 d HK.out _) ?_; rintro e wb ⟨rfl, bwb⟩; have Hwb : Hid (Bf w wb acc) := Hwa.out.old bwb; clear bwb)
                | (go_at_call 51; refine Calls.mono (by with_reducible exact Hwb.out.write (by first | omega | (simp; omega)) (v1 d)) ?_; rintro e wd ⟨rfl, hwd⟩; have Hwd : Hid (Bf w wd (acc ++ [(v1 d)])) := hwd; clear hwd)
                | (go_at_call 53; refine Calls.mono (by with_reducible exact regular_any _ _ _) ?_; rintro e wq ⟨rfl, rfl⟩))
            go_roundw
            case rel => exact ⟨.e, (acc ++ [(v1 d)]), i + 1, rfl, rfl, rfl, by simp, by omega, by first | omega | (simp; omega), trivial, HU.out, Hwd.out⟩
            case measure => simp [intOf]; omega
          · have d92 : ((c.toNat : Int) == 92) = false := by rw [beq_eq_false_iff_ne]; intro e; exact h92 ((u8_eq c 92 (by decide)).2 (by omega))
            have HU : Hid (((acc ++ [(v1 d)]) ++ [c]) ++ un .n (s.data.toList.drop (i + 1)) = R) := by
              show _ = _
              rw [← HM.out.2.1, HD.out, un_o1 _ ho', un_n _ h92]; simp
            clear h92
            go_wp2_with (first
                | (go_at_call 50; refine Calls.mono (by with_reducible exact has_oct _ _) ?_; rintro e wa ⟨rfl, bwa⟩; have Hwa : Hid (Bf w wa acc) := HB.out.old bwa; clear bwa)
                | (go_at_call 52; refine Calls.mono (by with_reducible exact byteOct1 d HK.out _) ?_; rintro e wb ⟨rfl, bwb⟩; have Hwb : Hid (Bf w wb acc) := Hwa.out.old bwb; clear bwb)
                | (go_at_call 51; refine Calls.mono (by with_reducible exact Hwb.out.write (by first | omega | (simp; omega)) (v1 d)) ?_; rintro e wd ⟨rfl, hwd⟩; have Hwd : Hid (Bf w wd (acc ++ [(v1 d)])) := hwd; clear hwd)
                | (go_at_call 53; refine Calls.mono (by with_reducible exact regular_any _ _ _) ?_; rintro e wq ⟨rfl, rfl⟩)
                | (go_at_call 51; refine Calls.mono (by with_reducible exact Hwd.out.write (by first | omega | (simp; omega)) c) ?_; rintro e wz ⟨rfl, hwz⟩; have Hwz : Hid (Bf w wz ((acc ++ [(v1 d)]) ++ [c])) := hwz; clear hwz))
            go_roundw
            case rel => exact ⟨.n, ((acc ++ [(v1 d)]) ++ [c]), i + 1, rfl, rfl, rfl, by simp, by omega, by first | omega | (simp; omega), trivial, HU.out, Hwz.out⟩
            case measure => simp [intOf]; omega
      | o2 d f =>
        obtain rfl := hE
        obtain rfl := hL
        obtain rfl := hO
        dsimp only [stE, stL, stO] at *
        have HK : Hid (oct d = true ∧ oct f = true) := HM.out.1
        have hsz : (⟨#[d, f]⟩ : ByteArray).size = 2 := rfl
        by_cases ho : oct c = true
        · have hcv := fun w => conv_oct c ho w
          have hcat := cat2 d f c
          have hsz2 : (⟨#[d, f, c]⟩ : ByteArray).size = 3 := rfl
          have HU : Hid ((acc ++ [v3 d f c]) ++ un .n (s.data.toList.drop (i + 1)) = R) := by
            show _ = _
            rw [← HM.out.2.1, HD.out, un_o2o _ ho]; simp
          have HO : Hid (oct c = true) := ho
          go_wp2_with (first
              | (go_at_call 50; refine Calls.mono (by with_reducible exact has_oct _ _) ?_; rintro e wa ⟨rfl, bwa⟩; have Hwa : Hid (Bf w wa acc) := HB.out.old bwa; clear bwa)
              | (go_at_call 52; refine Calls.mono (by with_reducible exact byteOct3 d f c HK.out.1 HK.out.2 HO.out _) ?_; rintro e wb ⟨rfl, bwb⟩; have Hwb : Hid (Bf w wb acc) := Hwa.out.old bwb; clear bwb)
              | (go_at_call 51; refine Calls.mono (by with_reducible exact Hwb.out.write (by first | omega | (simp; omega)) (v3 d f c)) ?_; rintro e wz ⟨rfl, hwz⟩; have Hwz : Hid (Bf w wz (acc ++ [(v3 d f c)])) := hwz; clear hwz))
          go_roundw
          case rel => exact ⟨.n, (acc ++ [v3 d f c]), i + 1, rfl, rfl, rfl, by simp, by omega, by first | omega | (simp; omega), trivial, HU.out, Hwz.out⟩
          case measure => simp [intOf]; omega
        · have ho' : oct c = false := by simpa using ho
          clear ho
          by_cases h92 : c = 92
          · have d92 : ((c.toNat : Int) == 92) = true := by rw [h92]; rfl
            have HU : Hid ((acc ++ [(v2 d f)]) ++ un .e (s.data.toList.drop (i + 1)) = R) := by
              show _ = _
              rw [← HM.out.2.1, HD.out, un_o2 _ ho', h92, un_s]; simp
            clear h92
            go_wp2_with (first
                | (go_at_call 50; refine Calls.mono (by with_reducible exact has_oct _ _) ?_; rintro e wa ⟨rfl, bwa⟩; have Hwa : Hid (Bf w wa acc) := HB.out.old bwa; clear bwa)
                | (go_at_call 52; refine Calls.mono (by with_reducible exact byteOct2 d f HK.out.1 HK.out.2 _) ?_; rintro e wb ⟨rfl, bwb⟩; have Hwb : Hid (Bf w wb acc) := Hwa.out.old bwb; clear bwb)
                | (go_at_call 51; refine Calls.mono (by with_reducible exact Hwb.out.write (by first | omega | (simp; omega)) (v2 d f)) ?_; rintro e wd ⟨rfl, hwd⟩; have Hwd : Hid (Bf w wd (acc ++ [(v2 d f)])) := hwd; clear hwd)
                | (go_at_call 53; refine Calls.mono (by with_reducible exact regular_any _ _ _) ?_; rintro e wq ⟨rfl, rfl⟩))
            go_roundw
            case rel => exact ⟨.e, (acc ++ [(v2 d f)]), i + 1, rfl, rfl, rfl, by simp, by omega, by first | omega | (simp; omega), trivial, HU.out, Hwd.out⟩
            case measure => simp [intOf]; omega
          · have d92 : ((c.toNat : Int) == 92) = false := by rw [beq_eq_false_iff_ne]; intro e; exact h92 ((u8_eq c 92 (by decide)).2 (by omega))
            have HU : Hid (((acc ++ [(v2 d f)]) ++ [c]) ++ un .n (s.data.toList.drop (i + 1)) = R) := by
              show _ = _
              rw [← HM.out.2.1, HD.out, un_o2 _ ho', un_n _ h92]; simp
            clear h92
            go_wp2_with (first
                | (go_at_call 50; refine Calls.mono (by with_reducible exact has_oct _ _) ?_; rintro e wa ⟨rfl, bwa⟩; have Hwa : Hid (Bf w wa acc) := HB.out.old bwa; clear bwa)
                | (go_at_call 52; refine Calls.mono (by with_reducible exact byteOct2 d f HK.out.1 HK.out.2 _) ?_; rintro e wb ⟨rfl, bwb⟩; have Hwb : Hid (Bf w wb acc) := Hwa.out.old bwb; clear bwb)
                | (go_at_call 51; refine Calls.mono (by with_reducible exact Hwb.out.write (by first | omega | (simp; omega)) (v2 d f)) ?_; rintro e wd ⟨rfl, hwd⟩; have Hwd : Hid (Bf w wd (acc ++ [(v2 d f)])) := hwd; clear hwd)
                | (go_at_call 53; refine Calls.mono (by with_reducible exact regular_any _ _ _) ?_; rintro e wq ⟨rfl, rfl⟩)
                | (go_at_call 51; refine Calls.mono (by with_reducible exact Hwd.out.write (by first | omega | (simp; omega)) c) ?_; rintro e wz ⟨rfl, hwz⟩; have Hwz : Hid (Bf w wz ((acc ++ [(v2 d f)]) ++ [c])) := hwz; clear hwz))
            go_roundw
            case rel => exact ⟨.n, ((acc ++ [(v2 d f)]) ++ [c]), i + 1, rfl, rfl, rfl, by simp, by omega, by first | omega | (simp; omega), trivial, HU.out, Hwz.out⟩
            case measure => simp [intOf]; omega
    · have HDN : Hid (s.data.toList.drop i = []) := List.drop_eq_nil_of_le (by have := HLEN.out; omega)
      have hend : ∀ (wx : World), Bf w wx R → Calls Tryz.prog 55 #[.pointer (some ⟨w.heap.size, 0, none⟩)] wx fun e w' => ∃ v, e = .returned v ∧ w'.ownsRow w.heap.size 5 1 v R.length (vals R) ∧ Below w.heap.size w w' := fun wx hb =>
        (Tryz.Buffer_Bytes w.heap.size w.heap.size (vals R) wx hb.1).mono fun e w' ⟨v, h1, h2, n, h3⟩ => ⟨v, h1, by rwa [show (vals R).length = R.length by simp [vals]] at h2, by subst h3; exact below_drewN hb.2 n⟩
      have HE : Hid (∀ (wx : World), Bf w wx R → Calls Tryz.prog 55 #[.pointer (some ⟨w.heap.size, 0, none⟩)] wx fun e w' => ∃ v, e = .returned v ∧ w'.ownsRow w.heap.size 5 1 v R.length (vals R) ∧ Below w.heap.size w w') := hend
      clear hend
      cases st with
      | n =>
        obtain rfl := hE
        obtain rfl := hL
        obtain rfl := hO
        dsimp only [stE, stL, stO] at *
        have HQ : Hid (Bf w wr R) := by
          have h := HM.out.2.1
          rw [HDN.out] at h
          have h2 : acc = R := by rw [← h]; simp [un]
          rw [← h2]; exact HB.out
        go_wp2_with (first
            | (go_at_call 55; refine Calls.mono (by with_reducible exact HE.out _ HQ.out) ?_; rintro e wy ⟨v, rfl, hv, hb⟩))
        go_ret2
        exact ⟨v, rfl, hv, hb⟩
      | e =>
        obtain rfl := hE
        obtain rfl := hL
        obtain rfl := hO
        dsimp only [stE, stL, stO] at *
        have HQ : Hid (Bf w wr R) := by
          have h := HM.out.2.1
          rw [HDN.out] at h
          have h2 : acc = R := by rw [← h]; simp [un]
          rw [← h2]; exact HB.out
        go_wp2_with (first
            | (go_at_call 55; refine Calls.mono (by with_reducible exact HE.out _ HQ.out) ?_; rintro e wy ⟨v, rfl, hv, hb⟩))
        go_ret2
        exact ⟨v, rfl, hv, hb⟩
      | l =>
        obtain rfl := hE
        obtain rfl := hL
        obtain rfl := hO
        dsimp only [stE, stL, stO] at *
        have HQ : Hid (Bf w wr R) := by
          have h := HM.out.2.1
          rw [HDN.out] at h
          have h2 : acc = R := by rw [← h]; simp [un]
          rw [← h2]; exact HB.out
        go_wp2_with (first
            | (go_at_call 55; refine Calls.mono (by with_reducible exact HE.out _ HQ.out) ?_; rintro e wy ⟨v, rfl, hv, hb⟩))
        go_ret2
        exact ⟨v, rfl, hv, hb⟩
      | o1 d =>
        obtain rfl := hE
        obtain rfl := hL
        obtain rfl := hO
        dsimp only [stE, stL, stO] at *
        have HK : Hid (oct d = true) := HM.out.1
        have hsz : (⟨#[d]⟩ : ByteArray).size = 1 := rfl
        have HQ : Hid (acc ++ [(v1 d)] = R) := by
          have h := HM.out.2.1
          rw [HDN.out] at h
          exact h
        go_wp2_with (first
            | (go_at_call 52; refine Calls.mono (by with_reducible exact byteOct1 d HK.out _) ?_; rintro e wb ⟨rfl, bwb⟩; have Hwb : Hid (Bf w wb acc) := HB.out.old bwb; clear bwb)
            | (go_at_call 51; refine Calls.mono (by with_reducible exact Hwb.out.write (by first | omega | (simp; omega)) (v1 d)) ?_; rintro e wd ⟨rfl, hwd⟩; have Hwd : Hid (Bf w wd (acc ++ [(v1 d)])) := hwd; clear hwd)
            | (go_at_call 55; refine Calls.mono (by with_reducible exact HE.out _ (by rw [← HQ.out]; exact Hwd.out)) ?_; rintro e wy ⟨v, rfl, hv, hb⟩))
        go_ret2
        exact ⟨v, rfl, hv, hb⟩
      | o2 d f =>
        obtain rfl := hE
        obtain rfl := hL
        obtain rfl := hO
        dsimp only [stE, stL, stO] at *
        have HK : Hid (oct d = true ∧ oct f = true) := HM.out.1
        have hsz : (⟨#[d, f]⟩ : ByteArray).size = 2 := rfl
        have HQ : Hid (acc ++ [(v2 d f)] = R) := by
          have h := HM.out.2.1
          rw [HDN.out] at h
          exact h
        go_wp2_with (first
            | (go_at_call 52; refine Calls.mono (by with_reducible exact byteOct2 d f HK.out.1 HK.out.2 _) ?_; rintro e wb ⟨rfl, bwb⟩; have Hwb : Hid (Bf w wb acc) := HB.out.old bwb; clear bwb)
            | (go_at_call 51; refine Calls.mono (by with_reducible exact Hwb.out.write (by first | omega | (simp; omega)) (v2 d f)) ?_; rintro e wd ⟨rfl, hwd⟩; have Hwd : Hid (Bf w wd (acc ++ [(v2 d f)])) := hwd; clear hwd)
            | (go_at_call 55; refine Calls.mono (by with_reducible exact HE.out _ (by rw [← HQ.out]; exact Hwd.out)) ?_; rintro e wy ⟨v, rfl, hv, hb⟩))
        go_ret2
        exact ⟨v, rfl, hv, hb⟩

end Go.Proofs.YtgemkjickljedaaGreatDoor.Lit
