/-
  DERIVED. GIVEN WITH THE SEED: THE CARDS: each row of YtgemkjickljedaaDoorRows.lean that lists a variable, with what it lists TIED to the program's text (the seventh form; the later family's looks); each row that meets fmt, with fmt's text TOLD by the authors' own Lean function (tested against real Go, not proved from fmt's source: count such statements apart). THE CARD IS WHAT COUNTS. Prove the row's statement (the work); the ties are given (YtgemkjickljedaaDoorTie.lean); close each card by the builder's one call (the guide's Derived/Test/ToyasCard.lean, 'card_holds'). Laid BY PROGRAM, IN A SANDBOX (cutbox-door.mjs). By AI agents, Wed Nov 11 2026. No macro, syntax, notation, axiom, sorry.
-/
import Derived.Test.YtgemkjickljedaaDoorRows
import GoSem.ClaimSeven
namespace Go.Proofs.YtgemkjickljedaaDoor
namespace Rows

/-- THE TIED CARD OF 'laws.FnHex'. -/
def fnHexCard : Claim7 := { stood := { row := fnHexRow, standIns := [], harness := (true, "66a56a9e54909f5f235e654add27ddde8d8c4c2b18720735df79e408f6708ed7"), looks := true }, kinds := [], alts := [], laidByText := true, laidKinds := [.sentinel], laidTests := true, laidLooks := .later }
def FnHexCardSaid : Prop := Claim7.holds Tryd.pinned (.plain (OpenSpec.ofChange fnHexSpec)) fnHexCard

/-- THE TIED CARD OF 'laws.FnDecodeName'. -/
def fnDecodeNameCard : Claim7 := { stood := { row := fnDecodeNameRow, standIns := [], harness := (true, "66a56a9e54909f5f235e654add27ddde8d8c4c2b18720735df79e408f6708ed7"), looks := true }, kinds := [], alts := [], laidByText := true, laidKinds := [.sentinel], laidTests := true, laidLooks := .later }
def FnDecodeNameCardSaid : Prop := Claim7.holds Tryd.pinned (.plain (OpenSpec.ofChange fnDecodeNameSpec)) fnDecodeNameCard

/-- THE TIED CARD OF 'laws.FnFromUTF16'. -/
def fnFromUTF16Card : Claim7 := { stood := { row := fnFromUTF16Row, standIns := [], harness := (true, "66a56a9e54909f5f235e654add27ddde8d8c4c2b18720735df79e408f6708ed7"), looks := true }, kinds := [], alts := [], laidByText := true, laidKinds := [.sentinel], laidTests := true, laidLooks := .later }
def FnFromUTF16CardSaid : Prop := Claim7.holds Tryd.pinned (.plain (OpenSpec.ofChange fnFromUTF16Spec)) fnFromUTF16Card

/-- THE TIED CARD OF 'laws.FnUnescape'. -/
def fnUnescapeCard : Claim7 := { stood := { row := fnUnescapeRow, standIns := [], harness := (true, "66a56a9e54909f5f235e654add27ddde8d8c4c2b18720735df79e408f6708ed7"), looks := true }, kinds := [], alts := [], laidByText := true, laidKinds := [.data, .data, .data, .sentinel, .sentinel, .sentinel], laidTests := true, laidLooks := .later }
def FnUnescapeCardSaid : Prop := Claim7.holds Tryd.pinned (.plain (OpenSpec.ofChange fnUnescapeSpec)) fnUnescapeCard

/-- THE TIED CARD OF 'laws.FnUTF16Escaped'. -/
def fnUTF16EscapedCard : Claim7 := { stood := { row := fnUTF16EscapedRow, standIns := [], harness := (true, "66a56a9e54909f5f235e654add27ddde8d8c4c2b18720735df79e408f6708ed7"), looks := true }, kinds := [], alts := [], laidByText := true, laidKinds := [.data, .data, .data, .data, .sentinel, .sentinel, .sentinel, .mapped, .sentinel, .sentinel, .pinned], laidTests := true, laidLooks := .later }
def FnUTF16EscapedCardSaid : Prop := Claim7.holds Tryd.pinned (.plain (OpenSpec.ofChange fnUTF16EscapedSpec)) fnUTF16EscapedCard

/-- THE SECOND FORM's CARD OF 'laws.FnHex'. -/
def fnHexUptoCard : Claim7 := { stood := { row := fnHexUptoRow, standIns := [], harness := (true, "66a56a9e54909f5f235e654add27ddde8d8c4c2b18720735df79e408f6708ed7"), looks := true }, kinds := [], alts := [], laidByText := true, laidKinds := [.sentinel], laidTests := true, laidLooks := .later }
def FnHexUptoCardSaid : Prop := Claim7.holds Tryd.pinned (.plain (OpenSpec.upto fnHexSpec)) fnHexUptoCard

/-- THE SECOND FORM's CARD OF 'laws.FnDecodeName'. -/
def fnDecodeNameUptoCard : Claim7 := { stood := { row := fnDecodeNameUptoRow, standIns := [], harness := (true, "66a56a9e54909f5f235e654add27ddde8d8c4c2b18720735df79e408f6708ed7"), looks := true }, kinds := [], alts := [], laidByText := true, laidKinds := [.sentinel], laidTests := true, laidLooks := .later }
def FnDecodeNameUptoCardSaid : Prop := Claim7.holds Tryd.pinned (.plain (OpenSpec.upto fnDecodeNameSpec)) fnDecodeNameUptoCard

/-- THE SECOND FORM's CARD OF 'laws.FnFromUTF16'. -/
def fnFromUTF16UptoCard : Claim7 := { stood := { row := fnFromUTF16UptoRow, standIns := [], harness := (true, "66a56a9e54909f5f235e654add27ddde8d8c4c2b18720735df79e408f6708ed7"), looks := true }, kinds := [], alts := [], laidByText := true, laidKinds := [.sentinel], laidTests := true, laidLooks := .later }
def FnFromUTF16UptoCardSaid : Prop := Claim7.holds Tryd.pinned (.plain (OpenSpec.upto fnFromUTF16Spec)) fnFromUTF16UptoCard

/-- THE SECOND FORM's CARD OF 'laws.FnUnescape'. -/
def fnUnescapeUptoCard : Claim7 := { stood := { row := fnUnescapeUptoRow, standIns := [], harness := (true, "66a56a9e54909f5f235e654add27ddde8d8c4c2b18720735df79e408f6708ed7"), looks := true }, kinds := [], alts := [], laidByText := true, laidKinds := [.data, .data, .data, .sentinel, .sentinel, .sentinel], laidTests := true, laidLooks := .later }
def FnUnescapeUptoCardSaid : Prop := Claim7.holds Tryd.pinned (.plain (OpenSpec.upto fnUnescapeSpec)) fnUnescapeUptoCard

/-- THE SECOND FORM's CARD OF 'laws.FnUTF16Escaped'. -/
def fnUTF16EscapedUptoCard : Claim7 := { stood := { row := fnUTF16EscapedUptoRow, standIns := [], harness := (true, "66a56a9e54909f5f235e654add27ddde8d8c4c2b18720735df79e408f6708ed7"), looks := true }, kinds := [], alts := [], laidByText := true, laidKinds := [.data, .data, .data, .data, .sentinel, .sentinel, .sentinel, .mapped, .sentinel, .sentinel, .pinned], laidTests := true, laidLooks := .later }
def FnUTF16EscapedUptoCardSaid : Prop := Claim7.holds Tryd.pinned (.plain (OpenSpec.upto fnUTF16EscapedSpec)) fnUTF16EscapedUptoCard
end Rows
end Go.Proofs.YtgemkjickljedaaDoor
