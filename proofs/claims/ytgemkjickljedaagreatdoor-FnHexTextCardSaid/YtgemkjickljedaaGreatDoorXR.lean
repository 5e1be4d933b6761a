/- What spec.Returns answers. Conditions: at most 20000 bytes. -/
import Derived.Test.YtgemkjickljedaaGreatDoorXP
import Derived.Test.YtgemkjickljedaaGreatDoorHexW
namespace Go.Proofs.YtgemkjickljedaaGreatDoor.Lit
open Go.ChangeShapes Go.WideShapes Go.ChangeAt Go.RowKit

theorem drop1' {l : List UInt8} {i : Nat} {c : UInt8} (h : l[i]? = some c) : l.drop i = c :: l.drop (i + 1) := by
  obtain ⟨hi, rfl⟩ := List.getElem?_eq_some_iff.1 h
  exact (List.getElem_cons_drop hi).symm
theorem u8_eq (a : UInt8) (n : Nat) (hn : n < 256) : a = UInt8.ofNat n ↔ a.toNat = n := by
  constructor
  · rintro rfl; rw [UInt8.toNat_ofNat']; omega
  · exact u8_of hn

end Go.Proofs.YtgemkjickljedaaGreatDoor.Lit
