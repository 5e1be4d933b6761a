/- What errors.New answers. Conditions: none. -/
import Derived.Test.YtgemkjickljedaaGreatDoorHexW
import Derived.Test.YtgemkjickljedaaGreatDoorShelf
import Derived.Lib.Builder
import Derived.Lib.AppendStr
import Derived.Lib.Walk
import Derived.Laws.Externs
import Derived.WalkLawsBesides
import Derived.WalkSpells
import Derived.ArgAppend
import Derived.WalkSmall
namespace Go.Proofs.YtgemkjickljedaaGreatDoor
open Go.ChangeShapes Go.WideShapes Go.ChangeAt Go.RowKit


theorem own_is {w : World} {B : Nat} {v : Value} {n : Nat} {xs : List Value} (h : w.ownsRow B 5 1 v n xs) : ∃ ao n' cap, v = .slice ao n' cap := by
  rcases h.2 with ⟨hv, _⟩ | ⟨g, cap, cur, hv, _⟩
  · exact ⟨_, _, _, hv⟩
  · exact ⟨_, _, _, hv⟩

theorem new_any (s : ByteArray) (w : World) : Calls Tryz.prog 47 #[.string s] w fun e w' => e = .returned (.iface 94 (.pointer (some ⟨w.heap.size, 0, none⟩))) ∧ Below w.heap.size w w' := by
  go_enter Tryz.func47, Tryz.ntmps47
  go_wp2
  go_ret
  exact ⟨rfl, (Below.refl _ _).alloc (Nat.le_refl _) _⟩

end Go.Proofs.YtgemkjickljedaaGreatDoor
