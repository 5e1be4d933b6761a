/-
  DERIVED. GIVEN WITH THE SEED: THE CARDS: each row of YtnpedhdonfdbmaaDoorRows.lean that lists a variable, with what it lists TIED to the program's text (the seventh form; the later family's looks); each row that meets fmt, with fmt's text TOLD by the authors' own Lean function (tested against real Go, not proved from fmt's source: count such statements apart). THE CARD IS WHAT COUNTS. Prove the row's statement (the work); the ties are given (YtnpedhdonfdbmaaDoorTie.lean); close each card by the builder's one call (the guide's Derived/Test/ToyasCard.lean, 'card_holds'). Laid BY PROGRAM, IN A SANDBOX (cutbox-door.mjs). By AI agents, Wed Nov 11 2026. No macro, syntax, notation, axiom, sorry.
-/
import Derived.Test.YtnpedhdonfdbmaaDoorRows
import GoSem.ClaimSeven
namespace Go.Proofs.YtnpedhdonfdbmaaDoor
namespace Rows

/-- THE TIED CARD OF 'laws.FnDecodeEntry'. -/
def fnDecodeEntryCard : Claim7 := { stood := { row := fnDecodeEntryRow, standIns := [], harness := (true, "4d397576784670727154da7f886e28c73a78e50bcbeef6f4431b13222ee18cff"), looks := true }, kinds := [], alts := [], laidByText := true, laidKinds := [.data, .data, .data, .sentinel, .sentinel, .sentinel], laidTests := true, laidLooks := .later }
def FnDecodeEntryCardSaid : Prop := Claim7.holds Tryd.pinned (.plain (OpenSpec.ofChange fnDecodeEntrySpec)) fnDecodeEntryCard

/-- THE TIED CARD OF 'laws.FnObjectStream'. -/
def fnObjectStreamCard : Claim7 := { stood := { row := fnObjectStreamRow, standIns := [], harness := (true, "4d397576784670727154da7f886e28c73a78e50bcbeef6f4431b13222ee18cff"), looks := true }, kinds := [], alts := [], laidByText := true, laidKinds := [.data, .data, .data, .sentinel, .sentinel, .sentinel, .sentinel, .sentinel], laidTests := true, laidLooks := .later }
def FnObjectStreamCardSaid : Prop := Claim7.holds Tryd.pinned (.plain (OpenSpec.ofChange fnObjectStreamSpec)) fnObjectStreamCard

/-- THE TIED CARD OF 'laws.FnReadTrailer'. -/
def fnReadTrailerCard : Claim7 := { stood := { row := fnReadTrailerRow, standIns := [], harness := (true, "4d397576784670727154da7f886e28c73a78e50bcbeef6f4431b13222ee18cff"), looks := true }, kinds := [], alts := [], laidByText := true, laidKinds := [.sentinel, .sentinel, .sentinel, .sentinel, .sentinel], laidTests := true, laidLooks := .later }
def FnReadTrailerCardSaid : Prop := Claim7.holds Tryd.pinned (.plain (OpenSpec.ofChange fnReadTrailerSpec)) fnReadTrailerCard

/-- THE SECOND FORM's CARD OF 'laws.FnDecodeEntry'. -/
def fnDecodeEntryUptoCard : Claim7 := { stood := { row := fnDecodeEntryUptoRow, standIns := [], harness := (true, "4d397576784670727154da7f886e28c73a78e50bcbeef6f4431b13222ee18cff"), looks := true }, kinds := [], alts := [], laidByText := true, laidKinds := [.data, .data, .data, .sentinel, .sentinel, .sentinel], laidTests := true, laidLooks := .later }
def FnDecodeEntryUptoCardSaid : Prop := Claim7.holds Tryd.pinned (.plain (OpenSpec.upto fnDecodeEntrySpec)) fnDecodeEntryUptoCard

/-- THE SECOND FORM's CARD OF 'laws.FnObjectStream'. -/
def fnObjectStreamUptoCard : Claim7 := { stood := { row := fnObjectStreamUptoRow, standIns := [], harness := (true, "4d397576784670727154da7f886e28c73a78e50bcbeef6f4431b13222ee18cff"), looks := true }, kinds := [], alts := [], laidByText := true, laidKinds := [.data, .data, .data, .sentinel, .sentinel, .sentinel, .sentinel, .sentinel], laidTests := true, laidLooks := .later }
def FnObjectStreamUptoCardSaid : Prop := Claim7.holds Tryd.pinned (.plain (OpenSpec.upto fnObjectStreamSpec)) fnObjectStreamUptoCard

/-- THE SECOND FORM's CARD OF 'laws.FnReadTrailer'. -/
def fnReadTrailerUptoCard : Claim7 := { stood := { row := fnReadTrailerUptoRow, standIns := [], harness := (true, "4d397576784670727154da7f886e28c73a78e50bcbeef6f4431b13222ee18cff"), looks := true }, kinds := [], alts := [], laidByText := true, laidKinds := [.sentinel, .sentinel, .sentinel, .sentinel, .sentinel], laidTests := true, laidLooks := .later }
def FnReadTrailerUptoCardSaid : Prop := Claim7.holds Tryd.pinned (.plain (OpenSpec.upto fnReadTrailerSpec)) fnReadTrailerUptoCard
end Rows
end Go.Proofs.YtnpedhdonfdbmaaDoor
