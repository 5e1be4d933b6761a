/- The law FnHexText answers true of whatever text. Conditions: the listed variables are laid as the program's text lays them. -/
import Derived.Test.YtgemkjickljedaaGreatDoorWL
import Derived.Test.YtgemkjickljedaaGreatDoorVX
import Derived.Test.YtgemkjickljedaaGreatDoorUS
import Derived.Test.YtgemkjickljedaaGreatDoorUM
namespace Go.Proofs.YtgemkjickljedaaGreatDoor
open Go.ChangeShapes Go.WideShapes Go.ChangeAt Go.RowKit

theorem mk3_cons {l : List UInt8} (h : mk3 l = true) : l = 239 :: 187 :: 191 :: l.drop 3 := by
  have e : l.take 3 = [239, 187, 191] := eq_of_beq h
  have := List.take_append_drop 3 l
  rw [e] at this
  exact this.symm
theorem any_drop {l : List UInt8} {p : UInt8 → Bool} {n : Nat} (h : l.any p = false) : (l.drop n).any p = false :=
  List.any_eq_false.2 fun x hx => List.any_eq_false.1 h x (List.mem_of_mem_drop hx)

/-- Of bytes that are no UTF-16BE the reader tells what is said of them. -/
theorem told_of {l : List UInt8} {T : ByteArray} {B : Bool} (h : Txt l T B true) (hm : marked l = false) : Told (trm l) T ∧ B = true := by
  obtain ⟨_, h2, h3⟩ := h
  cases hk : mk3 l with
  | true =>
    obtain ⟨rfl, hB, h⟩ := h2 hm hk
    obtain ⟨hv, hd⟩ := h rfl
    refine ⟨.inl ?_, hB⟩
    unfold trm
    rw [if_pos hk]
    rw [mk3_cons hk, valid_mark] at hv
    exact ⟨hv, clean_ctl (any_drop hd), rfl⟩
  | false =>
    obtain ⟨ha, hn, rfl, hB⟩ := h3 hm hk rfl
    refine ⟨?_, hB⟩
    unfold trm
    rw [if_neg (by rw [hk]; simp)]
    cases hh : l.any high with
    | false =>
      cases hc : l.any ctl with
      | false => exact .inl ⟨valid_low hh, hc, by rw [docB_low l hh hc hn]⟩
      | true => exact .inr ⟨.inr hc, hn, rfl⟩
    | true =>
      refine .inr ⟨.inl ?_, hn, rfl⟩
      cases hv : Lib.validD l with
      | false => rfl
      | true => rw [ha hv] at hh; cases hh

/-- What impl.HexText answers, where something is told. -/
theorem hexText_any (s : ByteArray) (l : List UInt8) (T : ByteArray) (B : Bool) (ev : Value) (TT : TypeId) (pv : Value) (w : World) (hs : s.size ≤ 4096) (hd : Lib.Hx.decode s.data.toList = (l, .ok)) (hl : l.length ≤ 4096) (hX : Txt l T B true) (hedge : NoEdge l) (h92 : l.any (· == 92) = false ∨ marked l = true)
    (hE2 : w.cell? ⟨2, 0, none⟩ = some (.iface TT pv)) (hE4 : w.cell? ⟨4, 0, none⟩ = some ev) (hT : Lib.Utf8Tabs 0 1 w) (hD : DocTab w) :
    Calls Tryz.prog 10 #[.string s] w fun e w' => e = .returned (.tuple #[.string (if B = true then T else ⟨#[]⟩), .bool B]) ∧ Below w.heap.size w w' := by
  have l2 := block_lt_of_cell hE2
  have l4 := block_lt_of_cell hE4
  cases hm : marked l with
  | true =>
    obtain ⟨rfl, rfl, he⟩ := hX.1 hm
    have hbe : be l = true := by unfold be; exact decide_eq_true ⟨hm, he rfl⟩
    have hx := fun w' (b : Below w.heap.size w w') => hx_be s l ev TT pv w' hs hd hl hbe ((below_cell b l4).trans hE4) ((below_cell b l2).trans hE2) hedge
    cases hb : narB l with
    | true => exact lit_any s (narS l) w fun w' b => (hx w' b).mono fun e w'' ⟨ev, h1, h2, _, h4⟩ => ⟨by rw [h1, h2 hb], h4⟩
    | false =>
      refine lit_err s w fun w' b => (hx w' b).mono fun e w'' ⟨ev, h1, _, h3, h4⟩ => ?_
      obtain ⟨T, p, rfl⟩ := h3 hb
      exact ⟨T, p, by rw [h1, narS_not hb], h4⟩
  | false =>
    obtain ⟨ht, rfl⟩ := told_of hX hm
    have hbe : be l = false := by unfold be; rw [hm]; simp
    have h92' : l.any (· == 92) = false := by
      rcases h92 with h | h
      · exact h
      · rw [hm] at h; cases h
    exact lit_any s T w fun w' b => hx_tx s l ev T w' hs hd hl hbe h92' ht ((below_cell b l4).trans hE4) (Utf8Tabs_below hT b) (hD.below b)

set_option maxHeartbeats 2000000 in
set_option maxRecDepth 100000 in
theorem law_hx (s : ByteArray) (T : TypeId) (pv ev : Value) (w : World) (hE2 : w.cell? ⟨2, 0, none⟩ = some (.iface T pv)) (hE4 : w.cell? ⟨4, 0, none⟩ = some ev) (hT : Lib.Utf8Tabs 0 1 w) (hD : DocTab w) : Calls Tryz.prog 3 #[.string s] w fun e w' => e = .returned (.bool true) ∧ Below w.heap.size w w' := by
  have l2 := block_lt_of_cell hE2
  have l4 := block_lt_of_cell hE4
  have HW : Hid (∀ w', Below w.heap.size w w' → Calls Tryz.prog 4 #[] w' fun e w'' => e = .returned (.bool true) ∧ Below w'.heap.size w' w'') := fun w' b => widens_any T pv w' ((below_cell b l2).trans hE2)
  by_cases h1 : 2147483647 < s.size
  · have d1 : decide (2147483647 < (s.size : Int)) = true := by simp; omega
    clear hE2 hE4 h1 hT hD HW
    go_enter Tryz.func3, Tryz.ntmps3
    go_wp2
    go_ret
    exact ⟨rfl, Below.refl _ _⟩
  have d1 : decide (2147483647 < (s.size : Int)) = false := by simp; omega
  by_cases h2 : 4096 < s.size
  · have d2 : decide (4096 < (s.size : Int)) = true := by simp; omega
    have hw := HW.out w (Below.refl _ _)
    clear hE2 hE4 hT hD HW h1 h2
    go_enter Tryz.func3, Tryz.ntmps3
    go_wp2_with (go_at_call 4; refine Calls.mono (by with_reducible exact hw) ?_; rintro e w1 ⟨rfl, b1⟩)
    go_ret
    exact ⟨rfl, b1⟩
  have d2 : decide (4096 < (s.size : Int)) = false := by simp; omega
  by_cases h3 : s.size % 2 = 1
  · have d3 : ((s.size : Int) % 2 == 1) = true := by simp; omega
    have hw := HW.out w (Below.refl _ _)
    clear hE2 hE4 hT hD HW h1 h2 h3
    go_enter Tryz.func3, Tryz.ntmps3
    go_wp2_with (go_at_call 4; refine Calls.mono (by with_reducible exact hw) ?_; rintro e w1 ⟨rfl, b1⟩)
    go_ret
    exact ⟨rfl, b1⟩
  have d3 : ((s.size : Int) % 2 == 1) = false := by simp; omega
  have hsp := specHex_any s w (by omega)
  by_cases hall : AllHex s.data.toList
  · -- digits
    have hlen : s.data.toList.length = s.size := by simp
    have hdec := decode_is s.data.toList hall (by omega)
    obtain ⟨l, hl⟩ : ∃ l, decg (fun k => s.data.toList[k]?.getD 0) (s.data.toList.length / 2) = l := ⟨_, rfl⟩
    have hll : l.length ≤ 2048 := by rw [← hl, decg_len]; omega
    rw [hl] at hdec
    obtain ⟨E, hE⟩ : ∃ E : ByteArray, (⟨l.toArray⟩ : ByteArray) = E := ⟨_, rfl⟩
    have hEl : E.data.toList = l := by rw [← hE]
    have hEs : E.size ≤ 4096 := by rw [Lib.size_eq, hEl]; omega
    have hS : Calls Tryz.prog 5 #[.string s] w fun e w' => e = .returned (.tuple #[.string E, .bool true]) ∧ Below w.heap.size w w' := hsp.mono fun e w' ⟨out, ok, h1, h2, _, h4⟩ => by
      obtain ⟨rfl, ho⟩ := h2 hall
      have ho2 := ho (by omega)
      rw [hdec, hE] at ho2
      rw [ho2] at h1
      exact ⟨h1, h4⟩
    obtain ⟨X, B, K, hX, hTx⟩ := textOf_any E hEs
    rw [hEl] at hX
    have HTX : Hid (∀ w', Below w.heap.size w w' → Calls Tryz.prog 6 #[.string E] w' fun e w'' => e = .returned (.tuple #[.string X, .bool B, .bool K]) ∧ Below w'.heap.size w' w'') := fun w' b => hTx w' (Utf8Tabs_below hT b)
    cases K
    · clear hE2 hE4 hT hD hX hTx hsp hall hlen hdec hl hll hE hEl hEs h1 h2 h3
      go_enter Tryz.func3, Tryz.ntmps3
      go_wp2_with (first
        | (go_at_call 5; refine Calls.mono (by with_reducible exact hS) ?_; rintro e w1 ⟨rfl, b1⟩; have B1 := Lib.hid b1; clear b1 hS)
        | (go_at_call 6; refine Calls.mono (by with_reducible exact HTX.out _ B1.out) ?_; rintro e w2 ⟨rfl, b2⟩; have B2 := Lib.hid (B1.out.trans (b2.mono B1.out.size)); clear b2)
        | (go_at_call 4; refine Calls.mono (by with_reducible exact HW.out _ B2.out) ?_; rintro e w3 ⟨rfl, b3⟩; have B3 := Lib.hid (B2.out.trans (b3.mono B2.out.size)); clear b3))
      go_ret
      exact ⟨rfl, B3.out⟩
    · have hEd : ∀ w', Calls Tryz.prog 7 #[.string E] w' fun e w'' => (e = .returned (.bool true) ∨ (e = .returned (.bool false) ∧ NoEdge l)) ∧ Below w'.heap.size w' w'' := fun w' => (edge_any E w' hEs).mono fun e w'' ⟨r, he, hne, hb⟩ => by
        rw [hEl] at hne
        cases r
        · exact ⟨.inr ⟨he, hne rfl⟩, hb⟩
        · exact ⟨.inl he, hb⟩
      have hBI : ∀ w', Calls Tryz.prog 8 #[.string E, .int .u8 92] w' fun e w'' => e = .returned (.bool (l.any (· == 92))) ∧ w'' = w' := fun w' => by
        have := byteIn_any E 92 w' hEs
        rw [hEl] at this
        exact this
      have hMK : ∀ w', Calls Tryz.prog 9 #[.string E] w' fun e w'' => e = .returned (.bool (marked l)) ∧ w'' = w' := fun w' => by
        have := marked_any E w'
        rw [hEl] at this
        exact this
      have HH : Hid ((l.any (· == 92) = false ∨ marked l = true) → NoEdge l → ∀ w', Below w.heap.size w w' → Calls Tryz.prog 10 #[.string s] w' fun e w'' => e = .returned (.tuple #[.string (if B = true then X else ⟨#[]⟩), .bool B]) ∧ Below w'.heap.size w' w'') :=
        fun h92 hne w' b => hexText_any s l X B ev T pv w' (by omega) hdec (by omega) hX hne h92 ((below_cell b l2).trans hE2) ((below_cell b l4).trans hE4) (Utf8Tabs_below hT b) (hD.below b)
      obtain ⟨c, hc⟩ : ∃ c, l.any (· == 92) = c := ⟨_, rfl⟩
      obtain ⟨m, hm⟩ : ∃ m, marked l = m := ⟨_, rfl⟩
      obtain ⟨G, hG⟩ : ∃ G : Prop, G = NoEdge l := ⟨_, rfl⟩
      rw [hc, hm, ← hG] at HH
      rw [hc] at hBI
      rw [hm] at hMK
      rw [← hG] at hEd
      clear hE2 hE4 hT hD hX hTx hsp hall hlen hdec hl hll hE hEl hEs h1 h2 h3 hc hm hG
      by_cases hgo : c = false ∨ m = true
      · have HG : Hid (G → ∀ w', Below w.heap.size w w' → Calls Tryz.prog 10 #[.string s] w' fun e w'' => e = .returned (.tuple #[.string (if B = true then X else ⟨#[]⟩), .bool B]) ∧ Below w'.heap.size w' w'') := HH.out hgo
        clear HH
        obtain ⟨Y, hY, hYB⟩ : ∃ Y : ByteArray, (if B = true then X else ⟨#[]⟩) = Y ∧ (B = true → Y = X) := ⟨_, rfl, fun h => by rw [if_pos h]⟩
        rw [hY] at HG
        clear hY
        cases B
        · clear hYB
          rcases hgo with rfl | rfl
          · go_enter Tryz.func3, Tryz.ntmps3
            go_wp2_with (first
              | (go_at_call 5; refine Calls.mono (by with_reducible exact hS) ?_; rintro e w1 ⟨rfl, b1⟩; have B1 := Lib.hid b1; clear b1 hS)
              | (go_at_call 6; refine Calls.mono (by with_reducible exact HTX.out _ B1.out) ?_; rintro e w2 ⟨rfl, b2⟩; have B2 := Lib.hid (B1.out.trans (b2.mono B1.out.size)); clear b2)
              | (go_at_call 7; refine Calls.mono (by with_reducible exact hEd _) ?_; rintro e w3 ⟨he, b3⟩; have B3 := Lib.hid (B2.out.trans (b3.mono B2.out.size)); clear b3 hEd; rcases he with rfl | ⟨rfl, hne⟩))
            all_goals first
              | (go_wp2_with (go_at_call 4; refine Calls.mono (by with_reducible exact HW.out _ B3.out) ?_; rintro e w6 ⟨rfl, b6⟩; have B6 := Lib.hid (B3.out.trans (b6.mono B3.out.size)); clear b6)
                 go_ret
                 exact ⟨rfl, B6.out⟩)
              | (have HG2 := Lib.hid (HG.out hne)
                 clear HG
                 go_wp2_with (first
                   | (go_at_call 8; refine Calls.mono (by with_reducible exact hBI _) ?_; rintro e w4 ⟨rfl, rfl⟩)
                   | (go_at_call 9; refine Calls.mono (by with_reducible exact hMK _) ?_; rintro e w5 ⟨rfl, rfl⟩)
                   | (go_at_call 10; refine Calls.mono (by with_reducible exact HG2.out _ B3.out) ?_; rintro e w7 ⟨rfl, b7⟩; have B7 := Lib.hid (B3.out.trans (b7.mono B3.out.size)); clear b7)
                   | (go_at_call 4; refine Calls.mono (by with_reducible exact HW.out _ B7.out) ?_; rintro e w8 ⟨rfl, b8⟩; have B8 := Lib.hid (B7.out.trans (b8.mono B7.out.size)); clear b8))
                 go_ret
                 exact ⟨rfl, B8.out⟩)
          · cases c
            · go_enter Tryz.func3, Tryz.ntmps3
              go_wp2_with (first
                | (go_at_call 5; refine Calls.mono (by with_reducible exact hS) ?_; rintro e w1 ⟨rfl, b1⟩; have B1 := Lib.hid b1; clear b1 hS)
                | (go_at_call 6; refine Calls.mono (by with_reducible exact HTX.out _ B1.out) ?_; rintro e w2 ⟨rfl, b2⟩; have B2 := Lib.hid (B1.out.trans (b2.mono B1.out.size)); clear b2)
                | (go_at_call 7; refine Calls.mono (by with_reducible exact hEd _) ?_; rintro e w3 ⟨he, b3⟩; have B3 := Lib.hid (B2.out.trans (b3.mono B2.out.size)); clear b3 hEd; rcases he with rfl | ⟨rfl, hne⟩))
              all_goals first
                | (go_wp2_with (go_at_call 4; refine Calls.mono (by with_reducible exact HW.out _ B3.out) ?_; rintro e w6 ⟨rfl, b6⟩; have B6 := Lib.hid (B3.out.trans (b6.mono B3.out.size)); clear b6)
                   go_ret
                   exact ⟨rfl, B6.out⟩)
                | (have HG2 := Lib.hid (HG.out hne)
                   clear HG
                   go_wp2_with (first
                     | (go_at_call 8; refine Calls.mono (by with_reducible exact hBI _) ?_; rintro e w4 ⟨rfl, rfl⟩)
                     | (go_at_call 9; refine Calls.mono (by with_reducible exact hMK _) ?_; rintro e w5 ⟨rfl, rfl⟩)
                     | (go_at_call 10; refine Calls.mono (by with_reducible exact HG2.out _ B3.out) ?_; rintro e w7 ⟨rfl, b7⟩; have B7 := Lib.hid (B3.out.trans (b7.mono B3.out.size)); clear b7)
                     | (go_at_call 4; refine Calls.mono (by with_reducible exact HW.out _ B7.out) ?_; rintro e w8 ⟨rfl, b8⟩; have B8 := Lib.hid (B7.out.trans (b8.mono B7.out.size)); clear b8))
                   go_ret
                   exact ⟨rfl, B8.out⟩)
            · go_enter Tryz.func3, Tryz.ntmps3
              go_wp2_with (first
                | (go_at_call 5; refine Calls.mono (by with_reducible exact hS) ?_; rintro e w1 ⟨rfl, b1⟩; have B1 := Lib.hid b1; clear b1 hS)
                | (go_at_call 6; refine Calls.mono (by with_reducible exact HTX.out _ B1.out) ?_; rintro e w2 ⟨rfl, b2⟩; have B2 := Lib.hid (B1.out.trans (b2.mono B1.out.size)); clear b2)
                | (go_at_call 7; refine Calls.mono (by with_reducible exact hEd _) ?_; rintro e w3 ⟨he, b3⟩; have B3 := Lib.hid (B2.out.trans (b3.mono B2.out.size)); clear b3 hEd; rcases he with rfl | ⟨rfl, hne⟩))
              all_goals first
                | (go_wp2_with (go_at_call 4; refine Calls.mono (by with_reducible exact HW.out _ B3.out) ?_; rintro e w6 ⟨rfl, b6⟩; have B6 := Lib.hid (B3.out.trans (b6.mono B3.out.size)); clear b6)
                   go_ret
                   exact ⟨rfl, B6.out⟩)
                | (have HG2 := Lib.hid (HG.out hne)
                   clear HG
                   go_wp2_with (first
                     | (go_at_call 8; refine Calls.mono (by with_reducible exact hBI _) ?_; rintro e w4 ⟨rfl, rfl⟩)
                     | (go_at_call 9; refine Calls.mono (by with_reducible exact hMK _) ?_; rintro e w5 ⟨rfl, rfl⟩)
                     | (go_at_call 10; refine Calls.mono (by with_reducible exact HG2.out _ B3.out) ?_; rintro e w7 ⟨rfl, b7⟩; have B7 := Lib.hid (B3.out.trans (b7.mono B3.out.size)); clear b7)
                     | (go_at_call 4; refine Calls.mono (by with_reducible exact HW.out _ B7.out) ?_; rintro e w8 ⟨rfl, b8⟩; have B8 := Lib.hid (B7.out.trans (b8.mono B7.out.size)); clear b8))
                   go_ret
                   exact ⟨rfl, B8.out⟩)
        · obtain rfl := hYB rfl
          clear hYB
          rcases hgo with rfl | rfl
          · go_enter Tryz.func3, Tryz.ntmps3
            go_wp2_with (first
              | (go_at_call 5; refine Calls.mono (by with_reducible exact hS) ?_; rintro e w1 ⟨rfl, b1⟩; have B1 := Lib.hid b1; clear b1 hS)
              | (go_at_call 6; refine Calls.mono (by with_reducible exact HTX.out _ B1.out) ?_; rintro e w2 ⟨rfl, b2⟩; have B2 := Lib.hid (B1.out.trans (b2.mono B1.out.size)); clear b2)
              | (go_at_call 7; refine Calls.mono (by with_reducible exact hEd _) ?_; rintro e w3 ⟨he, b3⟩; have B3 := Lib.hid (B2.out.trans (b3.mono B2.out.size)); clear b3 hEd; rcases he with rfl | ⟨rfl, hne⟩))
            all_goals first
              | (go_wp2_with (go_at_call 4; refine Calls.mono (by with_reducible exact HW.out _ B3.out) ?_; rintro e w6 ⟨rfl, b6⟩; have B6 := Lib.hid (B3.out.trans (b6.mono B3.out.size)); clear b6)
                 go_ret
                 exact ⟨rfl, B6.out⟩)
              | (have HG2 := Lib.hid (HG.out hne)
                 clear HG
                 go_wp2_with (first
                   | (go_at_call 8; refine Calls.mono (by with_reducible exact hBI _) ?_; rintro e w4 ⟨rfl, rfl⟩)
                   | (go_at_call 9; refine Calls.mono (by with_reducible exact hMK _) ?_; rintro e w5 ⟨rfl, rfl⟩)
                   | (go_at_call 10; refine Calls.mono (by with_reducible exact HG2.out _ B3.out) ?_; rintro e w7 ⟨rfl, b7⟩; have B7 := Lib.hid (B3.out.trans (b7.mono B3.out.size)); clear b7)
                   | (go_at_call 4; refine Calls.mono (by with_reducible exact HW.out _ B7.out) ?_; rintro e w8 ⟨rfl, b8⟩; have B8 := Lib.hid (B7.out.trans (b8.mono B7.out.size)); clear b8))
                 go_ret
                 exact ⟨rfl, B8.out⟩)
          · cases c
            · go_enter Tryz.func3, Tryz.ntmps3
              go_wp2_with (first
                | (go_at_call 5; refine Calls.mono (by with_reducible exact hS) ?_; rintro e w1 ⟨rfl, b1⟩; have B1 := Lib.hid b1; clear b1 hS)
                | (go_at_call 6; refine Calls.mono (by with_reducible exact HTX.out _ B1.out) ?_; rintro e w2 ⟨rfl, b2⟩; have B2 := Lib.hid (B1.out.trans (b2.mono B1.out.size)); clear b2)
                | (go_at_call 7; refine Calls.mono (by with_reducible exact hEd _) ?_; rintro e w3 ⟨he, b3⟩; have B3 := Lib.hid (B2.out.trans (b3.mono B2.out.size)); clear b3 hEd; rcases he with rfl | ⟨rfl, hne⟩))
              all_goals first
                | (go_wp2_with (go_at_call 4; refine Calls.mono (by with_reducible exact HW.out _ B3.out) ?_; rintro e w6 ⟨rfl, b6⟩; have B6 := Lib.hid (B3.out.trans (b6.mono B3.out.size)); clear b6)
                   go_ret
                   exact ⟨rfl, B6.out⟩)
                | (have HG2 := Lib.hid (HG.out hne)
                   clear HG
                   go_wp2_with (first
                     | (go_at_call 8; refine Calls.mono (by with_reducible exact hBI _) ?_; rintro e w4 ⟨rfl, rfl⟩)
                     | (go_at_call 9; refine Calls.mono (by with_reducible exact hMK _) ?_; rintro e w5 ⟨rfl, rfl⟩)
                     | (go_at_call 10; refine Calls.mono (by with_reducible exact HG2.out _ B3.out) ?_; rintro e w7 ⟨rfl, b7⟩; have B7 := Lib.hid (B3.out.trans (b7.mono B3.out.size)); clear b7)
                     | (go_at_call 4; refine Calls.mono (by with_reducible exact HW.out _ B7.out) ?_; rintro e w8 ⟨rfl, b8⟩; have B8 := Lib.hid (B7.out.trans (b8.mono B7.out.size)); clear b8))
                   go_ret
                   exact ⟨rfl, B8.out⟩)
            · go_enter Tryz.func3, Tryz.ntmps3
              go_wp2_with (first
                | (go_at_call 5; refine Calls.mono (by with_reducible exact hS) ?_; rintro e w1 ⟨rfl, b1⟩; have B1 := Lib.hid b1; clear b1 hS)
                | (go_at_call 6; refine Calls.mono (by with_reducible exact HTX.out _ B1.out) ?_; rintro e w2 ⟨rfl, b2⟩; have B2 := Lib.hid (B1.out.trans (b2.mono B1.out.size)); clear b2)
                | (go_at_call 7; refine Calls.mono (by with_reducible exact hEd _) ?_; rintro e w3 ⟨he, b3⟩; have B3 := Lib.hid (B2.out.trans (b3.mono B2.out.size)); clear b3 hEd; rcases he with rfl | ⟨rfl, hne⟩))
              all_goals first
                | (go_wp2_with (go_at_call 4; refine Calls.mono (by with_reducible exact HW.out _ B3.out) ?_; rintro e w6 ⟨rfl, b6⟩; have B6 := Lib.hid (B3.out.trans (b6.mono B3.out.size)); clear b6)
                   go_ret
                   exact ⟨rfl, B6.out⟩)
                | (have HG2 := Lib.hid (HG.out hne)
                   clear HG
                   go_wp2_with (first
                     | (go_at_call 8; refine Calls.mono (by with_reducible exact hBI _) ?_; rintro e w4 ⟨rfl, rfl⟩)
                     | (go_at_call 9; refine Calls.mono (by with_reducible exact hMK _) ?_; rintro e w5 ⟨rfl, rfl⟩)
                     | (go_at_call 10; refine Calls.mono (by with_reducible exact HG2.out _ B3.out) ?_; rintro e w7 ⟨rfl, b7⟩; have B7 := Lib.hid (B3.out.trans (b7.mono B3.out.size)); clear b7)
                     | (go_at_call 4; refine Calls.mono (by with_reducible exact HW.out _ B7.out) ?_; rintro e w8 ⟨rfl, b8⟩; have B8 := Lib.hid (B7.out.trans (b8.mono B7.out.size)); clear b8))
                   go_ret
                   exact ⟨rfl, B8.out⟩)
      · obtain rfl : c = true := by cases c <;> simp_all
        obtain rfl : m = false := by cases m <;> simp_all
        clear HH hgo
        go_enter Tryz.func3, Tryz.ntmps3
        go_wp2_with (first
          | (go_at_call 5; refine Calls.mono (by with_reducible exact hS) ?_; rintro e w1 ⟨rfl, b1⟩; have B1 := Lib.hid b1; clear b1 hS)
          | (go_at_call 6; refine Calls.mono (by with_reducible exact HTX.out _ B1.out) ?_; rintro e w2 ⟨rfl, b2⟩; have B2 := Lib.hid (B1.out.trans (b2.mono B1.out.size)); clear b2)
          | (go_at_call 7; refine Calls.mono (by with_reducible exact hEd _) ?_; rintro e w3 ⟨he, b3⟩; have B3 := Lib.hid (B2.out.trans (b3.mono B2.out.size)); clear b3 hEd; rcases he with rfl | ⟨rfl, hne⟩))
        all_goals
          (go_wp2_with (first
            | (go_at_call 8; refine Calls.mono (by with_reducible exact hBI _) ?_; rintro e w4 ⟨rfl, rfl⟩)
            | (go_at_call 9; refine Calls.mono (by with_reducible exact hMK _) ?_; rintro e w5 ⟨rfl, rfl⟩)
            | (go_at_call 4; refine Calls.mono (by with_reducible exact HW.out _ B3.out) ?_; rintro e w6 ⟨rfl, b6⟩; have B6 := Lib.hid (B3.out.trans (b6.mono B3.out.size)); clear b6)))
        all_goals
          go_ret
          exact ⟨rfl, B6.out⟩
  · have hS : Calls Tryz.prog 5 #[.string s] w fun e w' => e = .returned (.tuple #[.string ⟨#[]⟩, .bool false]) ∧ Below w.heap.size w w' := hsp.mono fun e w' ⟨out, ok, h1, _, h3, h4⟩ => by
      obtain ⟨rfl, rfl⟩ := h3 hall
      exact ⟨h1, h4⟩
    obtain ⟨X, B, K, _, hTx⟩ := textOf_any ⟨#[]⟩ (by decide)
    have HTX : Hid (∀ w', Below w.heap.size w w' → Calls Tryz.prog 6 #[.string ⟨#[]⟩] w' fun e w'' => e = .returned (.tuple #[.string X, .bool B, .bool K]) ∧ Below w'.heap.size w' w'') := fun w' b => hTx w' (Utf8Tabs_below hT b)
    clear hE2 hE4 hT hD hTx hsp hall h1 h2 h3
    go_enter Tryz.func3, Tryz.ntmps3
    go_wp2_with (first
      | (go_at_call 5; refine Calls.mono (by with_reducible exact hS) ?_; rintro e w1 ⟨rfl, b1⟩; have B1 := Lib.hid b1; clear b1 hS)
      | (go_at_call 6; refine Calls.mono (by with_reducible exact HTX.out _ B1.out) ?_; rintro e w2 ⟨rfl, b2⟩; have B2 := Lib.hid (B1.out.trans (b2.mono B1.out.size)); clear b2)
      | (go_at_call 4; refine Calls.mono (by with_reducible exact HW.out _ B2.out) ?_; rintro e w3 ⟨rfl, b3⟩; have B3 := Lib.hid (B2.out.trans (b3.mono B2.out.size)); clear b3))
    go_ret
    exact ⟨rfl, B3.out⟩

end Go.Proofs.YtgemkjickljedaaGreatDoor
