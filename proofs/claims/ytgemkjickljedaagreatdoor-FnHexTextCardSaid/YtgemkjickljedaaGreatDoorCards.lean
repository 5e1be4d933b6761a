/-
  DERIVED. GIVEN WITH THE SEED: THE CARDS: each row of YtgemkjickljedaaGreatDoorRows.lean that lists a variable, with what it lists TIED to the program's text (the seventh form; the later family's looks); each row that meets fmt, with fmt's text TOLD by the authors' own Lean function (tested against real Go, not proved from fmt's source: count such statements apart). THE CARD IS WHAT COUNTS. Prove the row's statement (the work); the ties are given (YtgemkjickljedaaGreatDoorTie.lean); close each card by the builder's one call (the guide's Derived/Test/ToyasCard.lean, 'card_holds'). Laid BY PROGRAM, IN A SANDBOX (cutbox-door.mjs). By AI agents, Wed Nov 11 2026. No macro, syntax, notation, axiom, sorry.
-/
import Derived.Test.YtgemkjickljedaaGreatDoorRows
import GoSem.ClaimSeven
namespace Go.Proofs.YtgemkjickljedaaGreatDoor
namespace Rows

/-- THE TIED CARD OF 'laws.FnHexText'. -/
def fnHexTextCard : Claim7 := { stood := { row := fnHexTextRow, standIns := [], harness := (true, "2745cc46d4cf790f2a0397621cce7a141fcb3c25f4e68d61ca11b9bb450c42e6"), looks := true }, kinds := [], alts := [], laidByText := true, laidKinds := [.data, .data, .data, .data, .sentinel, .sentinel, .sentinel, .sentinel, .mapped, .sentinel, .pinned], laidTests := true, laidLooks := .later }
def FnHexTextCardSaid : Prop := Claim7.holds Tryz.pinned (.plain (OpenSpec.ofChange fnHexTextSpec)) fnHexTextCard

/-- THE SECOND FORM's CARD OF 'laws.FnHexText'. -/
def fnHexTextUptoCard : Claim7 := { stood := { row := fnHexTextUptoRow, standIns := [], harness := (true, "2745cc46d4cf790f2a0397621cce7a141fcb3c25f4e68d61ca11b9bb450c42e6"), looks := true }, kinds := [], alts := [], laidByText := true, laidKinds := [.data, .data, .data, .data, .sentinel, .sentinel, .sentinel, .sentinel, .mapped, .sentinel, .pinned], laidTests := true, laidLooks := .later }
def FnHexTextUptoCardSaid : Prop := Claim7.holds Tryz.pinned (.plain (OpenSpec.upto fnHexTextSpec)) fnHexTextUptoCard
end Rows
end Go.Proofs.YtgemkjickljedaaGreatDoor
