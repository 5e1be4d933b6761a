/- What utf16.Encode answers of code points. Conditions: at most 4096 code points. -/
import Derived.Test.YtgemkjickljedaaGreatDoorUN
namespace Go.Proofs.YtgemkjickljedaaGreatDoor
open Go.ChangeShapes Go.WideShapes Go.ChangeAt Go.RowKit

theorem cunits_pair {c : Nat} (h : ¬ c < 65536) : cunits c = [55296 + (c - 65536) / 1024, 56320 + (c - 65536) % 1024] := by rw [cunits, if_neg h]
theorem u16s_twice (l : List Nat) : (u16s l).length ≤ 2 * l.length := by
  induction l with
  | nil => simp [u16s]
  | cons a t ih =>
    have : (cunits a).length ≤ 2 := by unfold cunits; split <;> simp
    simp only [u16s, List.flatMap_cons, List.length_append, List.length_cons] at ih ⊢; omega

/-- The next place of a row that is being filled. -/
theorem fill_one (A : List Value) (r : Nat) (z u : Value) : (A ++ List.replicate (r + 1) z).set A.length u = (A ++ [u]) ++ List.replicate r z := by
  rw [List.set_append_right _ _ (Nat.le_refl _), Nat.sub_self, List.replicate_succ, List.set_cons_zero]; simp

set_option maxHeartbeats 4000000 in
set_option maxRecDepth 100000 in
theorem Encode_any (cs : List Nat) (hok : ∀ j (h : j < cs.length), okc cs[j]) (n g cap B0 : Nat) (w : World) (hn : n = cs.length) (hlen : n ≤ 4096)
    (hs : w.ownsRow B0 21 1 (.slice (some ⟨g, 0, none⟩) n cap) n (vals32 cs)) :
    Calls Tryz.prog 42 #[.slice (some ⟨g, 0, none⟩) n cap] w fun e w' => ∃ g' m cap', m = (u16s cs).length ∧ e = .returned (.slice (some ⟨g', 0, none⟩) m cap') ∧ w'.ownsRow w.heap.size 67 1 (.slice (some ⟨g', 0, none⟩) m m) m (vals16 (u16s cs)) ∧ Below w.heap.size w w' := by
  obtain ⟨i1, hi1, hy0, hy1, hy2⟩ := info_parts Tryz.info67
  have HOK : Hid (∀ j (h : j < cs.length), okc cs[j]) := hok
  have HN : Hid (n = cs.length) := hn
  have HS : Hid (w.ownsRow B0 21 1 (.slice (some ⟨g, 0, none⟩) n cap) n (vals32 cs)) := hs
  have hgw : g < w.heap.size := (hs.lt g rfl).2
  have htw := u16s_twice cs
  clear hok hn hs
  go_enter Tryz.func42, Tryz.ntmps42
  go_wp2_with (fail)
  go_loop [3, 15] (fun nv kv => ∃ (k p : Nat), kv = .int .i64 k ∧ nv = .int .i64 p ∧ k ≤ n ∧ p ≤ n + k ∧ Hid (p + k = n + (u16s (cs.take k)).length)) (fun _ kv => n - (intOf kv).toNat)
  case atStart => exact ⟨0, n, rfl, rfl, Nat.zero_le _, by omega, by show n + 0 = n + (u16s (cs.take 0)).length; rfl⟩
  case round =>
    obtain ⟨k, p, rfl, rfl, hk, hp, HP⟩ := hrel
    by_cases hlt : k < n
    · have hlt' : k < cs.length := by have := HN.out; omega
      have hnext := u16s_len cs k hlt'
      have hle := u16s_le cs k hlt'
      have hok := HOK.out k hlt'
      have hcell : w.cell? ⟨g, k, none⟩ = some (.int .i32 (cs[k] : Int)) := own_cell HS.out k (vals32_at (List.getElem?_eq_getElem hlt'))
      obtain ⟨c, hc⟩ : ∃ c, cs[k] = c := ⟨_, rfl⟩
      rw [hc] at hcell hok hnext hle
      obtain ⟨z, hz⟩ : ∃ z : Int, z = (c : Int) := ⟨_, rfl⟩
      rw [← hz] at hcell
      by_cases hbig : c < 65536
      · have d1 : decide (65536 ≤ z) = false := by simp; omega
        have HP2 : Hid (p + (k + 1) = n + (u16s (cs.take (k + 1))).length) := by
          show p + (k + 1) = _
          rw [hnext, u16_bmp hbig]; have := HP.out; simp only [List.length_cons, List.length_nil]; omega
        clear hnext hle hok hc hz hbig
        go_wp2
        go_round
        case rel => exact ⟨k + 1, p, by simp, rfl, by omega, by omega, HP2⟩
        case measure => simp [intOf]; omega
      · have d1 : decide (65536 ≤ z) = true := by simp; omega
        have HP2 : Hid (p + 1 + (k + 1) = n + (u16s (cs.take (k + 1))).length) := by
          show p + 1 + (k + 1) = _
          rw [hnext, cunits_pair hbig]; have := HP.out; simp only [List.length_cons, List.length_nil]; omega
        clear hnext hle hok hc hz hbig
        go_wp2
        go_round
        case rel => exact ⟨k + 1, p + 1, by simp, by simp, by omega, by omega, HP2⟩
        case measure => simp [intOf]; omega
    · have hkn : n = k := by omega
      have hpm : p = (u16s cs).length := by
        have h1 := HP.out; rw [← hkn, HN.out, List.take_length] at h1; omega
      have HPM : Hid (p = (u16s cs).length) := hpm
      obtain ⟨m, hm⟩ : ∃ m, p = m := ⟨_, rfl⟩
      subst hkn
      subst hm
      clear hpm HP
      go_wp2_with
        (at_make; refine wpList_make_full _ rfl _ _ 64 rfl w.heap.size 67 i1 (.int .u16 0) 1 Tryz.underlying64 hi1 hy0 hy1 .i64 .i64 _ _ p rfl rfl (by omega) (by omega) (by rw [hy2]; omega) (by unfold maxLen; omega) (Nat.le_refl _) ?_; intro w2 hown2 hgrow2
         have hb2 := (Below.refl w.heap.size w).grown hgrow2 (Nat.le_refl _) (fun k hk => by cases hk)
         rw [show (Value.int .u16 0).cells = #[Value.int .u16 0] from rfl, toList_madeCells_one] at hown2
         clear hgrow2)
      go_loopw [3, 28] (fun nv kv wr => ∃ (k q : Nat), kv = .int .i64 k ∧ nv = .int .i64 q ∧ k ≤ n ∧ q ≤ p ∧
          Hid (q = (u16s (cs.take k)).length ∧ wr.ownsRow w.heap.size 67 1 (.slice (some ⟨w.heap.size, 0, none⟩) p p) p (vals16 (u16s (cs.take k)) ++ List.replicate (p - q) (.int .u16 0)) ∧ Below w.heap.size w wr)) (fun _ kv _ => n - (intOf kv).toNat)
      case atStart => exact ⟨0, 0, rfl, rfl, Nat.zero_le _, Nat.zero_le _, rfl, by simpa [u16s, vals16] using hown2, hb2⟩
      case round =>
        obtain ⟨k, q, rfl, rfl, hk, hq, HR⟩ := hrel
        by_cases hlt : k < n
        · have hlt' : k < cs.length := by have := HN.out; omega
          have hnext := u16s_len cs k hlt'
          have hle := u16s_le cs k hlt'
          have hok := HOK.out k hlt'
          have hcell : wr.cell? ⟨g, k, none⟩ = some (.int .i32 (cs[k] : Int)) := (below_cell HR.out.2.2 hgw).trans (own_cell HS.out k (vals32_at (List.getElem?_eq_getElem hlt')))
          have hsn := u16s_snoc (cs.take k) cs[k]
          rw [← take_snoc hlt'] at hsn
          obtain ⟨c, hc⟩ : ∃ c, cs[k] = c := ⟨_, rfl⟩
          rw [hc] at hcell hok hnext hle hsn
          have hql := HR.out.1
          rw [← hql] at hnext hle
          rw [← HPM.out] at hle
          obtain ⟨z, hz⟩ : ∃ z : Int, z = (c : Int) := ⟨_, rfl⟩
          rw [← hz] at hcell
          by_cases hbig : c < 65536
          · rw [u16_bmp hbig] at hnext hle hsn
            simp only [List.length_cons, List.length_nil] at hnext hle
            have hqp : q < p := by omega
            have hrow : wr.ownsRow w.heap.size 67 1 (.slice (some ⟨w.heap.size, 0, none⟩) p p) p (vals16 (u16s (cs.take k)) ++ List.replicate ((p - (q + 1)) + 1) (.int .u16 0)) := by
              have := HR.out.2.1; rwa [show p - q = (p - (q + 1)) + 1 by omega] at this
            have hvl : (vals16 (u16s (cs.take k))).length = q := by rw [vals16_len, hql]
            have hat : wr.cell? ⟨w.heap.size, q, none⟩ = some (.int .u16 0) := own_cell hrow q (by rw [List.getElem?_append_right (by omega), hvl]; simp)
            have hfz : wr.frozen? ⟨w.heap.size, q, none⟩ = false := hrow.frozenAt q
            have hst := (hrow.stored q (.int .u16 z)).1
            rw [← hvl, fill_one, hvl] at hst
            have hv : vals16 (u16s (cs.take (k + 1))) = vals16 (u16s (cs.take k)) ++ [.int .u16 z] := by rw [hsn, vals16_snoc, hz]
            have HK : Hid (q + 1 = (u16s (cs.take (k + 1))).length ∧ (wr.setCell ⟨w.heap.size, q, none⟩ (.int .u16 z)).ownsRow w.heap.size 67 1 (.slice (some ⟨w.heap.size, 0, none⟩) p p) p (vals16 (u16s (cs.take (k + 1))) ++ List.replicate (p - (q + 1)) (.int .u16 0)) ∧
                Below w.heap.size w (wr.setCell ⟨w.heap.size, q, none⟩ (.int .u16 z))) := ⟨by omega, by rw [hv]; exact hst, HR.out.2.2.setCell (p := ⟨w.heap.size, q, none⟩) (Nat.le_refl _) _⟩
            have hR := fun w => runeLen_small z (by unfold okc at hok; omega) w
            have z0 : 0 ≤ z := by omega
            have z1 : z < 65536 := by omega
            clear hnext hle hsn hok hc hz hbig hst hvl hrow hql hv
            go_wp2_with (go_at_call 59; refine Calls.mono (by with_reducible exact hR _) ?_; rintro e w3 ⟨rfl, rfl⟩)
            go_roundw
            case rel => exact ⟨k + 1, q + 1, by simp, by simp, by omega, by omega, HK.out⟩
            case measure => simp [intOf]; omega
          · rw [cunits_pair hbig] at hnext hle hsn
            simp only [List.length_cons, List.length_nil] at hnext hle
            have hqp : q + 1 < p := by omega
            have hqp0 : q < p := by omega
            have hrow : wr.ownsRow w.heap.size 67 1 (.slice (some ⟨w.heap.size, 0, none⟩) p p) p (vals16 (u16s (cs.take k)) ++ List.replicate ((p - (q + 2)) + 1 + 1) (.int .u16 0)) := by
              have := HR.out.2.1; rwa [show p - q = (p - (q + 2)) + 1 + 1 by omega] at this
            have hvl : (vals16 (u16s (cs.take k))).length = q := by rw [vals16_len, hql]
            obtain ⟨x, hx⟩ : ∃ x : Int, x = ((55296 + (c - 65536) / 1024 : Nat) : Int) := ⟨_, rfl⟩
            obtain ⟨y, hy⟩ : ∃ y : Int, y = ((56320 + (c - 65536) % 1024 : Nat) : Int) := ⟨_, rfl⟩
            have hat : wr.cell? ⟨w.heap.size, q, none⟩ = some (.int .u16 0) := own_cell hrow q (by rw [List.getElem?_append_right (by omega), hvl]; simp)
            have hat1 : wr.cell? ⟨w.heap.size, q + 1, none⟩ = some (.int .u16 0) := own_cell hrow (q + 1) (by rw [List.getElem?_append_right (by omega), hvl, show q + 1 - q = 1 by omega]; simp)
            have hfz : wr.frozen? ⟨w.heap.size, q, none⟩ = false := hrow.frozenAt q
            have hfz1 : wr.frozen? ⟨w.heap.size, q + 1, none⟩ = false := hrow.frozenAt (q + 1)
            have hst := (hrow.stored q (.int .u16 x)).1
            rw [← hvl, fill_one, hvl] at hst
            have hst2 := (hst.stored (q + 1) (.int .u16 y)).1
            have hvl2 : (vals16 (u16s (cs.take k)) ++ [Value.int .u16 x]).length = q + 1 := by rw [List.length_append, hvl]; rfl
            rw [← hvl2, fill_one, hvl2] at hst2
            have hv : vals16 (u16s (cs.take (k + 1))) = vals16 (u16s (cs.take k)) ++ [.int .u16 x] ++ [.int .u16 y] := by rw [hsn, hx, hy]; simp [vals16]
            have HK : Hid (q + 2 = (u16s (cs.take (k + 1))).length ∧ ((wr.setCell ⟨w.heap.size, q, none⟩ (.int .u16 x)).setCell ⟨w.heap.size, q + 1, none⟩ (.int .u16 y)).ownsRow w.heap.size 67 1 (.slice (some ⟨w.heap.size, 0, none⟩) p p) p (vals16 (u16s (cs.take (k + 1))) ++ List.replicate (p - (q + 2)) (.int .u16 0)) ∧
                Below w.heap.size w ((wr.setCell ⟨w.heap.size, q, none⟩ (.int .u16 x)).setCell ⟨w.heap.size, q + 1, none⟩ (.int .u16 y))) :=
              ⟨by omega, by rw [hv]; exact hst2, (HR.out.2.2.setCell (p := ⟨w.heap.size, q, none⟩) (Nat.le_refl _) _).setCell (p := ⟨w.heap.size, q + 1, none⟩) (Nat.le_refl _) _⟩
            have hc1 : 65536 ≤ c ∧ c ≤ 1114111 := by unfold okc at hok; omega
            have hR := fun w => runeLen_big z (by omega) w
            have hE := fun w => encodeRune_any c z x y hz hc1.1 hc1.2 hx hy w
            have x0 : 0 ≤ x := by omega
            have x1 : x < 65536 := by omega
            have y0 : 0 ≤ y := by omega
            have y1 : y < 65536 := by omega
            have q1 : (q : Int) + 1 < (p : Int) := by omega
            have q2 : (p : Int) ≤ 8192 := by omega
            have q3 : 0 ≤ (q : Int) + 1 := by omega
            have q4 : (q : Int) + 1 ≤ 9223372036854775807 := by omega
            clear hnext hle hsn hok hc hz hbig hst hst2 hvl hvl2 hrow hql hv hx hy hc1
            go_wp2_with (first
              | (go_at_call 59; refine Calls.mono (by with_reducible exact hR _) ?_; rintro e w3 ⟨rfl, rfl⟩)
              | (go_at_call 60; refine Calls.mono (by with_reducible exact hE _) ?_; rintro e w3 ⟨rfl, rfl⟩))
            go_roundw
            case rel => exact ⟨k + 1, q + 2, by simp, by simp, by omega, by omega, HK.out⟩
            case measure => simp [intOf]; omega
        · have hkn : k = n := by omega
          have hqp : p = q := by rw [HPM.out, HR.out.1, hkn, HN.out, List.take_length]
          have HF : Hid (p = (u16s cs).length ∧ wr.ownsRow w.heap.size 67 1 (.slice (some ⟨w.heap.size, 0, none⟩) p p) p (vals16 (u16s cs)) ∧ Below w.heap.size w wr) := by
            refine ⟨HPM.out, ?_, HR.out.2.2⟩
            have := HR.out.2.1
            rw [hqp, Nat.sub_self, hkn, HN.out, List.take_length, List.replicate_zero, List.append_nil] at this
            rw [hqp]; exact this
          subst hqp
          clear hkn
          go_wp2
          go_ret
          exact ⟨_, _, _, HF.out.1, rfl, HF.out.2⟩

end Go.Proofs.YtgemkjickljedaaGreatDoor
