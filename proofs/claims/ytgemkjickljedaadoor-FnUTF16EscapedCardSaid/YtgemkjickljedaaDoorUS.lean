/- What laws.widens answers, and the law FnFromUTF16. Conditions: the error that bytes that are no UTF-16BE have is there. -/
import Derived.Test.YtgemkjickljedaaDoorUM
import Derived.Test.YtgemkjickljedaaDoorUR
namespace Go.Proofs.YtgemkjickljedaaDoor
open Go.ChangeShapes Go.WideShapes Go.ChangeAt Go.RowKit

theorem is16_any (s : ByteArray) (w : World) : Calls Tryd.prog 32 #[.string s] w fun e w' => e = .returned (.bool (Lib.hasPrefix s.data.toList [254, 255])) ∧ w' = w := by
  have h1 := fun w => Tryd.strings_HasPrefix s ⟨#[254, 255]⟩ w
  have h2 : ∀ w, Calls Tryd.prog 56 #[.string s] w fun e w' => e = .returned (.bool (Lib.hasPrefix s.data.toList [254, 255])) ∧ w' = w := by
    intro w
    go_enter Tryd.func56, Tryd.ntmps56
    go_wp2_with (go_at_call 80; refine Calls.mono (by with_reducible exact h1 _) ?_; rintro e w1 ⟨rfl, rfl⟩)
    go_ret
    exact ⟨rfl, rfl⟩
  clear h1
  go_enter Tryd.func32, Tryd.ntmps32
  go_wp2_with (go_at_call 56; refine Calls.mono (by with_reducible exact h2 _) ?_; rintro e w1 ⟨rfl, rfl⟩)
  go_ret
  exact ⟨rfl, rfl⟩

theorem mid_six : narO [254, 255, 0, 97, 32, 172] = some [97, 8364] := by decide +kernel
theorem text_six : narS [254, 255, 0, 97, 32, 172] = ⟨#[97, 226, 130, 172]⟩ ∧ narB [254, 255, 0, 97, 32, 172] = true := by
  have h := narS_some mid_six
  refine ⟨h.1.trans ?_, h.2⟩
  decide +kernel
theorem edge_six : NoEdge [254, 255, 0, 97, 32, 172] := by
  intro _ i h2 he a b ha hb
  have hlt : i + 1 < 6 := (List.getElem?_eq_some_iff.1 hb).1
  rcases (show i = 2 ∨ i = 4 by omega) with rfl | rfl
  · cases ha; cases hb; decide
  · cases ha; cases hb; decide

theorem okc_97 : okc 97 := .inl (by decide)
theorem okc_a : ∀ j (h : j < [97].length), okc [97][j]
  | 0, _ => okc_97

set_option maxRecDepth 100000 in
theorem widens_any (T : TypeId) (pv : Value) (w : World) (hE : w.cell? ⟨3, 0, none⟩ = some (.iface T pv)) : Calls Tryd.prog 15 #[] w fun e w' => e = .returned (.bool true) ∧ Below w.heap.size w w' := by
  have h1 := from16_any ⟨#[254, 255, 0, 97, 32, 172]⟩ T pv w (by decide) hE edge_six
  rw [show narS (ByteArray.mk #[254, 255, 0, 97, 32, 172]).data.toList = ⟨#[97, 226, 130, 172]⟩ from text_six.1, show narB (ByteArray.mk #[254, 255, 0, 97, 32, 172]).data.toList = true from text_six.2] at h1
  have h2 : ∀ w, Calls Tryd.prog 31 #[.string ⟨#[97]⟩] w fun e w' => e = .returned (.string ⟨#[254, 255, 0, 97]⟩) ∧ Below w.heap.size w w' := fun w => by
    have h := of16_any ⟨#[97]⟩ [97] (by rfl) okc_a (by decide) w
    rwa [show (⟨(wide [97]).toArray⟩ : ByteArray) = ⟨#[254, 255, 0, 97]⟩ by decide +kernel] at h
  have h3 : ∀ w, Calls Tryd.prog 32 #[.string ⟨#[254, 255, 0, 97]⟩] w fun e w' => e = .returned (.bool true) ∧ w' = w := fun w => by
    have h := is16_any ⟨#[254, 255, 0, 97]⟩ w
    rwa [show Lib.hasPrefix (ByteArray.mk #[254, 255, 0, 97]).data.toList [254, 255] = true by decide +kernel] at h
  clear hE
  go_enter Tryd.func15, Tryd.ntmps15
  go_wp2_with (first
    | (go_at_call 17; refine Calls.mono (by with_reducible exact h1) ?_; rintro e w1 ⟨rfl, b1⟩; have B1 : Hid (Below w.heap.size w w1) := b1; clear b1)
    | (go_at_call 31; refine Calls.mono (by with_reducible exact h2 _) ?_; rintro e w2 ⟨rfl, b2⟩; have B2 : Hid (Below w.heap.size w w2) := B1.out.trans (b2.mono B1.out.size); clear b2)
    | (go_at_call 32; refine Calls.mono (by with_reducible exact h3 _) ?_; rintro e w3 ⟨rfl, rfl⟩))
  go_ret
  exact ⟨rfl, B2.out⟩

set_option maxRecDepth 100000 in
set_option maxHeartbeats 1000000 in
theorem law_from (s : ByteArray) (T : TypeId) (pv : Value) (w : World) (hE : w.cell? ⟨3, 0, none⟩ = some (.iface T pv)) : Calls Tryd.prog 5 #[.string s] w fun e w' => e = .returned (.bool true) ∧ Below w.heap.size w w' := by
  have l3 : 3 < w.heap.size := block_lt_of_cell hE
  have hW := fun w' (b : Below w.heap.size w w') => widens_any T pv w' ((below_cell b l3).trans hE)
  by_cases h1 : 2147483647 < s.size
  · have d1 : decide (2147483647 < (s.size : Int)) = true := by simp; omega
    clear hW hE h1
    go_enter Tryd.func5, Tryd.ntmps5
    go_wp2
    go_ret
    exact ⟨rfl, Below.refl _ _⟩
  · have d1 : decide (2147483647 < (s.size : Int)) = false := by simp; omega
    by_cases h2 : 4096 < s.size
    · have d2 : decide (4096 < (s.size : Int)) = true := by simp; omega
      have hw := hW w (Below.refl _ _)
      clear hW hE h1 h2
      go_enter Tryd.func5, Tryd.ntmps5
      go_wp2_with (go_at_call 15; refine Calls.mono (by with_reducible exact hw) ?_; rintro e w1 ⟨rfl, b1⟩)
      go_ret
      exact ⟨rfl, b1⟩
    · have d2 : decide (4096 < (s.size : Int)) = false := by simp; omega
      have hs : s.size ≤ 4096 := by omega
      have HW : Hid (∀ w', Below w.heap.size w w' → Calls Tryd.prog 15 #[] w' fun e w'' => e = .returned (.bool true) ∧ Below w'.heap.size w' w'') := hW
      have hEd := edge_any s w hs
      have hN := fun w => narrow_any s w hs
      have HF : Hid (∀ w', Below w.heap.size w w' → NoEdge s.data.toList → Calls Tryd.prog 17 #[.string s] w' fun e w'' => e = .returned (.tuple #[.string (narS s.data.toList), .bool (narB s.data.toList)]) ∧ Below w'.heap.size w' w'') :=
        fun w' b hne => from16_any s T pv w' hs ((below_cell b l3).trans hE) hne
      clear hW hE h1 h2 l3 hs
      obtain ⟨S, hS⟩ : ∃ S, narS s.data.toList = S := ⟨_, rfl⟩
      obtain ⟨b, hb⟩ : ∃ b, narB s.data.toList = b := ⟨_, rfl⟩
      rw [hS, hb] at HF hN
      clear hS hb
      have hsplit : Calls Tryd.prog 14 #[.string s] w fun e w' => (e = .returned (.bool true) ∨ (e = .returned (.bool false) ∧ NoEdge s.data.toList)) ∧ Below w.heap.size w w' := hEd.mono fun e w' ⟨r, he, hne, hb⟩ => by
        cases r
        · exact ⟨.inr ⟨he, hne rfl⟩, hb⟩
        · exact ⟨.inl he, hb⟩
      clear hEd
      go_enter Tryd.func5, Tryd.ntmps5
      go_wp2_with
        (go_at_call 14; refine Calls.mono (by with_reducible exact hsplit) ?_; rintro e w1 ⟨he, b1⟩
         have B1 : Hid (Below w.heap.size w w1) := b1
         clear b1 hsplit
         rcases he with rfl | ⟨rfl, hne⟩)
      all_goals first
        | (go_wp2_with (go_at_call 15; refine Calls.mono (by with_reducible exact HW.out _ B1.out) ?_; rintro e w2 ⟨rfl, b2⟩)
           go_ret
           exact ⟨rfl, B1.out.trans (b2.mono B1.out.size)⟩)
        | (cases b
           · go_wp2_with (first
               | (go_at_call 16; refine Calls.mono (by with_reducible exact hN _) ?_; rintro e w2 ⟨rfl, n, rfl⟩; have B2 : Hid (Below w.heap.size w (w1.drewN n)) := below_drewN B1.out n)
               | (go_at_call 17; refine Calls.mono (by with_reducible exact HF.out _ B2.out hne) ?_; rintro e w3 ⟨rfl, b3⟩; have B3 : Hid (Below w.heap.size w w3) := B2.out.trans (b3.mono B2.out.size); clear b3)
               | (go_at_call 15; refine Calls.mono (by with_reducible exact HW.out _ B3.out) ?_; rintro e w4 ⟨rfl, b4⟩))
             go_ret
             exact ⟨rfl, B3.out.trans (b4.mono B3.out.size)⟩
           · go_wp2_with (first
               | (go_at_call 16; refine Calls.mono (by with_reducible exact hN _) ?_; rintro e w2 ⟨rfl, n, rfl⟩; have B2 : Hid (Below w.heap.size w (w1.drewN n)) := below_drewN B1.out n)
               | (go_at_call 17; refine Calls.mono (by with_reducible exact HF.out _ B2.out hne) ?_; rintro e w3 ⟨rfl, b3⟩; have B3 : Hid (Below w.heap.size w w3) := B2.out.trans (b3.mono B2.out.size); clear b3)
               | (go_at_call 15; refine Calls.mono (by with_reducible exact HW.out _ B3.out) ?_; rintro e w4 ⟨rfl, b4⟩))
             go_ret
             exact ⟨rfl, B3.out.trans (b4.mono B3.out.size)⟩)

end Go.Proofs.YtgemkjickljedaaDoor
