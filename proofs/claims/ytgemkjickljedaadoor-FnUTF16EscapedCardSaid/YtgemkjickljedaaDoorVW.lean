/- The law FnUTF16Escaped answers true of whatever text. Conditions: the tables of unicode/utf8 and the error of UTF-16BE are laid. -/
import Derived.Test.YtgemkjickljedaaDoorVU
import Derived.Test.YtgemkjickljedaaDoorVV
import Derived.Test.YtgemkjickljedaaDoorUS
namespace Go.Proofs.YtgemkjickljedaaDoor
open Go.ChangeShapes Go.WideShapes Go.ChangeAt Go.RowKit

theorem be_wide (cs : List Nat) : be (wide cs) = true := by
  unfold be
  have h := wide_len cs
  exact decide_eq_true ⟨by simp [wide, marked], by omega⟩

/-- What the law's calls answer of a text of at most 4096 bytes. -/
theorem parts (s : ByteArray) (cs : List Nat) (hR : Rs s.data.toList cs) (henc : encs cs = s.data.toList) (hok : ∀ c ∈ cs, okc c) (hr : Conv.runesFrom s s.size 0 #[] = (vals32 cs).toArray) (hs : s.size ≤ 4096) (T : TypeId) (pv : Value) (w : World) (hE : w.cell? ⟨3, 0, none⟩ = some (.iface T pv))
    (hV : ∀ w', Below w.heap.size w w' → Calls Tryd.prog 38 #[.string s] w' fun e w'' => e = .returned (.bool true) ∧ Below w'.heap.size w' w'') :
    ∃ X E : ByteArray, X = ⟨(wide cs).toArray⟩ ∧ (∀ w', Below w.heap.size w w' → Calls Tryd.prog 22 #[.string s] w' fun e w'' => e = .returned (.tuple #[.string E, .bool true]) ∧ Below w'.heap.size w' w'') ∧
      (∀ w', Calls Tryd.prog 18 #[.string E] w' fun e w'' => e = .returned (.tuple #[.string X, .bool true]) ∧ Below w'.heap.size w' w'') ∧
      ((∀ c ∈ cs, c ≠ 57344) → ∀ w', Below w.heap.size w w' → Calls Tryd.prog 23 #[.string E] w' fun e w'' => e = .returned (.tuple #[.string s, .bool true]) ∧ Below w'.heap.size w' w'') := by
  have hl := hR.len
  have hsl : s.data.toList.length = s.size := by simp
  have hu : (u16s cs).length ≤ 4096 := by
    have := units_enc cs hok
    rw [henc] at this; omega
  have hwl := wide_len cs
  have hel := Lit.escs_len (wide cs)
  obtain ⟨hun, hrt, hnp⟩ := Lit.escs_un (wide cs)
  have hEs : (⟨(Lit.escs (wide cs)).toArray⟩ : ByteArray).size ≤ 20000 := by
    show (Lit.escs (wide cs)).toArray.size ≤ 20000
    rw [List.size_toArray]; omega
  have l3 := block_lt_of_cell hE
  refine ⟨⟨(wide cs).toArray⟩, ⟨(Lit.escs (wide cs)).toArray⟩, rfl, fun w' b => u16esc_any s cs hr hok (by omega) hu w' (hV w' b), fun w' => ?_, fun hne w' b => ?_⟩
  · refine (Lit.litBytes_any _ w' hEs).mono fun e w'' ⟨S, ok, h1, h2, h3, h4⟩ => ?_
    obtain rfl := h3 hnp
    have h5 := h2 rfl hrt
    have h6 : S = ⟨(wide cs).toArray⟩ := str_ext (h5.trans hun)
    rw [h6] at h1
    exact ⟨h1, h4⟩
  · have hn := narS_some (narO_wide cs hok)
    have hS : narS (wide cs) = s := by rw [hn.1, henc]
    have hnb := hn.2
    refine lit_any _ s w' fun w'' b2 => ?_
    have h := sl2s_any ⟨(Lit.escs (wide cs)).toArray⟩ ⟨(wide cs).toArray⟩ T pv w'' hEs hun (wide_size cs hu) (be_wide cs) ((below_cell (b.trans (b2.mono b.size)) l3).trans hE) (noEdge_wide cs hok hne) hnb
    have e1 : (⟨(wide cs).toArray⟩ : ByteArray).data.toList = wide cs := rfl
    rw [e1, hS] at h
    exact h

set_option maxHeartbeats 1000000 in
set_option maxRecDepth 100000 in
theorem law_e16 (s : ByteArray) (T : TypeId) (pv : Value) (w : World) (hE : w.cell? ⟨3, 0, none⟩ = some (.iface T pv)) (hT : Lib.Utf8Tabs 0 1 w) : Calls Tryd.prog 7 #[.string s] w fun e w' => e = .returned (.bool true) ∧ Below w.heap.size w w' := by
  have l3 : 3 < w.heap.size := block_lt_of_cell hE
  have hW := fun w' (b : Below w.heap.size w w') => widens_any T pv w' ((below_cell b l3).trans hE)
  by_cases h1 : 2147483647 < s.size
  · have d1 : decide (2147483647 < (s.size : Int)) = true := by simp; omega
    clear hW hE h1 hT
    go_enter Tryd.func7, Tryd.ntmps7
    go_wp2
    go_ret
    exact ⟨rfl, Below.refl _ _⟩
  · have d1 : decide (2147483647 < (s.size : Int)) = false := by simp; omega
    have HW : Hid (∀ w', Below w.heap.size w w' → Calls Tryd.prog 15 #[] w' fun e w'' => e = .returned (.bool true) ∧ Below w'.heap.size w' w'') := hW
    have hV : ∀ w', Below w.heap.size w w' → Calls Tryd.prog 38 #[.string s] w' fun e w'' => e = .returned (.bool (Lib.validD s.data.toList)) ∧ Below w'.heap.size w' w'' := fun w' b => Tryd.utf8_ValidString s w' (by omega) (Utf8Tabs_below hT b)
    clear hW hT
    cases hv : Lib.validD s.data.toList with
    | false =>
      rw [hv] at hV
      have hD := wide_no s w (hV w (Below.refl _ _))
      clear hE h1 hV hv l3
      go_enter Tryd.func7, Tryd.ntmps7
      go_wp2_with (first
        | (go_at_call 21; refine Calls.mono (by with_reducible exact hD) ?_; rintro e w1 ⟨rfl, b1⟩; have B1 := Lib.hid b1; clear b1 hD)
        | (go_at_call 15; refine Calls.mono (by with_reducible exact HW.out _ B1.out) ?_; rintro e w2 ⟨rfl, b2⟩))
      go_ret
      exact ⟨rfl, B1.out.trans (b2.mono B1.out.size)⟩
    | true =>
      rw [hv] at hV
      obtain ⟨cs, hR, henc, hok, hcl, hr⟩ := valid_text s hv
      have hD := wide_any s cs hR (by omega) w (hV w (Below.refl _ _))
      by_cases h2 : 4096 < s.size
      · have d2 : decide (4096 < (s.size : Int)) = true := by simp; omega
        clear hE h1 hV hv l3 h2 hR henc hok hcl hr
        generalize (⟨(wide cs).toArray⟩ : ByteArray) = X at *
        go_enter Tryd.func7, Tryd.ntmps7
        go_wp2_with (first
          | (go_at_call 21; refine Calls.mono (by with_reducible exact hD) ?_; rintro e w1 ⟨rfl, b1⟩; have B1 := Lib.hid b1; clear b1 hD)
          | (go_at_call 15; refine Calls.mono (by with_reducible exact HW.out _ B1.out) ?_; rintro e w2 ⟨rfl, b2⟩))
        go_ret
        exact ⟨rfl, B1.out.trans (b2.mono B1.out.size)⟩
      · have d2 : decide (4096 < (s.size : Int)) = false := by simp; omega
        have hs : s.size ≤ 4096 := by omega
        obtain ⟨X, E, hX, p1, p2, p3⟩ := parts s cs hR henc hok hr hs T pv w hE hV
        rw [← hX] at hD
        have hEd : ∀ w', Calls Tryd.prog 14 #[.string s] w' fun e w'' => (e = .returned (.bool true) ∨ (e = .returned (.bool false) ∧ ∀ c ∈ cs, c ≠ 57344)) ∧ Below w'.heap.size w' w'' := fun w' => (edge_rs s cs hR w' hs).mono fun e w'' ⟨r, he, hne, hb⟩ => by
          cases r
          · exact ⟨.inr ⟨he, hne rfl⟩, hb⟩
          · exact ⟨.inl he, hb⟩
        have P1 := Lib.hid p1
        have P2 := Lib.hid p2
        have P3 := Lib.hid p3
        clear hE h1 hV hv l3 h2 hR henc hok hcl hr hX p1 p2 p3 hs
        go_enter Tryd.func7, Tryd.ntmps7
        go_wp2_with (first
          | (go_at_call 21; refine Calls.mono (by with_reducible exact hD) ?_; rintro e w1 ⟨rfl, b1⟩; have B1 := Lib.hid b1; clear b1 hD)
          | (go_at_call 14; refine Calls.mono (by with_reducible exact hEd _) ?_; rintro e w2 ⟨he, b2⟩
             have B2 := Lib.hid (B1.out.trans (b2.mono B1.out.size))
             clear b2 hEd
             rcases he with rfl | ⟨rfl, hne⟩))
        all_goals first
          | (go_wp2_with (go_at_call 15; refine Calls.mono (by with_reducible exact HW.out _ B2.out) ?_; rintro e w3 ⟨rfl, b3⟩)
             go_ret
             exact ⟨rfl, B2.out.trans (b3.mono B2.out.size)⟩)
          | (have HNE := Lib.hid hne
             clear hne
             go_wp2_with (first
               | (go_at_call 22; refine Calls.mono (by with_reducible exact P1.out _ B2.out) ?_; rintro e w3 ⟨rfl, b3⟩; have B3 := Lib.hid (B2.out.trans (b3.mono B2.out.size)); clear b3)
               | (go_at_call 18; refine Calls.mono (by with_reducible exact P2.out _) ?_; rintro e w4 ⟨rfl, b4⟩; have B4 := Lib.hid (B3.out.trans (b4.mono B3.out.size)); clear b4)
               | (go_at_call 23; refine Calls.mono (by with_reducible exact P3.out HNE.out _ B4.out) ?_; rintro e w5 ⟨rfl, b5⟩; have B5 := Lib.hid (B4.out.trans (b5.mono B4.out.size)); clear b5)
               | (go_at_call 15; refine Calls.mono (by with_reducible exact HW.out _ B5.out) ?_; rintro e w6 ⟨rfl, b6⟩))
             go_ret
             exact ⟨rfl, B5.out.trans (b6.mono B5.out.size)⟩)

end Go.Proofs.YtgemkjickljedaaDoor
