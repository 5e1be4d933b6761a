/- What laws.widens answers, and the law FnFromUTF16. Conditions: the error that bytes that are no UTF-16BE have is there. -/
import Derived.Test.YtgemkjickljedaaGreatDoorUM
import Derived.Test.YtgemkjickljedaaGreatDoorUR
namespace Go.Proofs.YtgemkjickljedaaGreatDoor
open Go.ChangeShapes Go.WideShapes Go.ChangeAt Go.RowKit

theorem is16_any (s : ByteArray) (w : World) : Calls Tryz.prog 13 #[.string s] w fun e w' => e = .returned (.bool (Lib.hasPrefix s.data.toList [254, 255])) ∧ w' = w := by
  have h1 := fun w => Tryz.strings_HasPrefix s ⟨#[254, 255]⟩ w
  have h2 : ∀ w, Calls Tryz.prog 27 #[.string s] w fun e w' => e = .returned (.bool (Lib.hasPrefix s.data.toList [254, 255])) ∧ w' = w := by
    intro w
    go_enter Tryz.func27, Tryz.ntmps27
    go_wp2_with (go_at_call 43; refine Calls.mono (by with_reducible exact h1 _) ?_; rintro e w1 ⟨rfl, rfl⟩)
    go_ret
    exact ⟨rfl, rfl⟩
  clear h1
  go_enter Tryz.func13, Tryz.ntmps13
  go_wp2_with (go_at_call 27; refine Calls.mono (by with_reducible exact h2 _) ?_; rintro e w1 ⟨rfl, rfl⟩)
  go_ret
  exact ⟨rfl, rfl⟩

theorem mid_six : narO [254, 255, 0, 97, 32, 172] = some [97, 8364] := by decide +kernel
theorem text_six : narS [254, 255, 0, 97, 32, 172] = ⟨#[97, 226, 130, 172]⟩ ∧ narB [254, 255, 0, 97, 32, 172] = true := by
  have h := narS_some mid_six
  refine ⟨h.1.trans ?_, h.2⟩
  decide +kernel
theorem edge_six : NoEdge [254, 255, 0, 97, 32, 172] := by
  intro _ i h2 he a b ha hb
  have hlt : i + 1 < 6 := (List.getElem?_eq_some_iff.1 hb).1
  rcases (show i = 2 ∨ i = 4 by omega) with rfl | rfl
  · cases ha; cases hb; decide
  · cases ha; cases hb; decide

theorem okc_97 : okc 97 := .inl (by decide)
theorem okc_a : ∀ j (h : j < [97].length), okc [97][j]
  | 0, _ => okc_97

set_option maxRecDepth 100000 in
theorem widens_any (T : TypeId) (pv : Value) (w : World) (hE : w.cell? ⟨2, 0, none⟩ = some (.iface T pv)) : Calls Tryz.prog 4 #[] w fun e w' => e = .returned (.bool true) ∧ Below w.heap.size w w' := by
  have h1 := from16_any ⟨#[254, 255, 0, 97, 32, 172]⟩ T pv w (by decide) hE edge_six
  rw [show narS (ByteArray.mk #[254, 255, 0, 97, 32, 172]).data.toList = ⟨#[97, 226, 130, 172]⟩ from text_six.1, show narB (ByteArray.mk #[254, 255, 0, 97, 32, 172]).data.toList = true from text_six.2] at h1
  have h2 : ∀ w, Calls Tryz.prog 12 #[.string ⟨#[97]⟩] w fun e w' => e = .returned (.string ⟨#[254, 255, 0, 97]⟩) ∧ Below w.heap.size w w' := fun w => by
    have h := of16_any ⟨#[97]⟩ [97] (by rfl) okc_a (by decide) w
    rwa [show (⟨(wide [97]).toArray⟩ : ByteArray) = ⟨#[254, 255, 0, 97]⟩ by decide +kernel] at h
  have h3 : ∀ w, Calls Tryz.prog 13 #[.string ⟨#[254, 255, 0, 97]⟩] w fun e w' => e = .returned (.bool true) ∧ w' = w := fun w => by
    have h := is16_any ⟨#[254, 255, 0, 97]⟩ w
    rwa [show Lib.hasPrefix (ByteArray.mk #[254, 255, 0, 97]).data.toList [254, 255] = true by decide +kernel] at h
  clear hE
  go_enter Tryz.func4, Tryz.ntmps4
  go_wp2_with (first
    | (go_at_call 11; refine Calls.mono (by with_reducible exact h1) ?_; rintro e w1 ⟨rfl, b1⟩; have B1 : Hid (Below w.heap.size w w1) := b1; clear b1)
    | (go_at_call 12; refine Calls.mono (by with_reducible exact h2 _) ?_; rintro e w2 ⟨rfl, b2⟩; have B2 : Hid (Below w.heap.size w w2) := B1.out.trans (b2.mono B1.out.size); clear b2)
    | (go_at_call 13; refine Calls.mono (by with_reducible exact h3 _) ?_; rintro e w3 ⟨rfl, rfl⟩))
  go_ret
  exact ⟨rfl, B2.out⟩

end Go.Proofs.YtgemkjickljedaaGreatDoor
