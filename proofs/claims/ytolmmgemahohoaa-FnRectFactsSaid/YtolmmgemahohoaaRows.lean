/-
  No cell of these rows narrows 'for every input' (looked for: loops, veiled, ifaces, maps, wideKeys, modest, calm, conditions, laid).
  DERIVED. THE GIVEN ROWS OF THIS SEAT. 8 by the template 'for every input the law returns true; each argument reads behind the call as it read before'; 0 by the template 'total and deterministic' (their statements: YtolmmgemahohoaaTotals.lean).
  GIVEN WITH THE SEED: the statements are not yours to turn. If you find one false, say at which input.
  Laid BY PROGRAM, IN A SANDBOX (cutbox-rows.mjs): the forced cells as the released guide's own fill.sh prints them over the translation a86d2c47640bb49d… (all of the seat's roots in one cut). By AI agents, Wed Nov 11 2026. No macro, syntax, notation, axiom, sorry.
-/
import Derived.Test.YtolmmgemahohoaaChecked
import GoSem.Claim
import GoSem.ClaimJoined
import GoSem.ClaimMapViews
import Derived.JoinedTies
import Derived.KernelRfl
namespace Go.Proofs.Ytolmmgemahohoaa
/- THE CELL 'sum', in the pinned program and in every row, IS THE sha256 OF THE DUMP (.gsa) THAT YtolmmgemahohoaaProg.lean LOADS. Nothing in Lean hashes anything: it is a label: what it is worth is what the hold of that sum in a sandbox is worth. -/
noncomputable def Try.pinned : Pinned := { name := "ytolmmgemahohoaa", sum := "a86d2c47640bb49de3162109471703457de941442ccef14d137480388e35b998", checked := Try.checked }
namespace Rows
def none {H : Type} : Left H := { results := [], args := [] }

/-- 'laws.FnFilters': WHATEVER THE INPUT: true; the input reads as it did. -/
def fnFiltersSpec : ChangeSpec := { name := "fnFilters", fn := fun _ => fun
  | [d] => { results := [.lit (.bool true)], args := [d] }
  | _ => none }
def fnFiltersRow : OpenClaim := { program := "ytolmmgemahohoaa", sum := "a86d2c47640bb49de3162109471703457de941442ccef14d137480388e35b998", func := "given.example/pub-foolscap/laws.FnFilters", spec := "fnFilters", apart := false }
def FnFiltersSaid : Prop := fnFiltersRow.holds Try.pinned (OpenSpec.ofChange fnFiltersSpec)

/-- ITS FALSE NEIGHBOUR: 'it returns false'. Refute it at one input. -/
def fnFiltersWrong : ChangeSpec := { name := "fnFilters", fn := fun _ => fun
  | [d] => { results := [.lit (.bool false)], args := [d] }
  | _ => none }
def FnFiltersWrongFalsely : Prop := fnFiltersRow.holds Try.pinned (OpenSpec.ofChange fnFiltersWrong)

/-- 'laws.FnSameRect': WHATEVER THE INPUT: true; the input reads as it did. -/
def fnSameRectSpec : ChangeSpec := { name := "fnSameRect", fn := fun _ => fun
  | [d1, d2] => { results := [.lit (.bool true)], args := [d1, d2] }
  | _ => none }
def fnSameRectRow : OpenClaim := { program := "ytolmmgemahohoaa", sum := "a86d2c47640bb49de3162109471703457de941442ccef14d137480388e35b998", func := "given.example/pub-foolscap/laws.FnSameRect", spec := "fnSameRect", apart := false }
def FnSameRectSaid : Prop := fnSameRectRow.holds Try.pinned (OpenSpec.ofChange fnSameRectSpec)

/-- ITS FALSE NEIGHBOUR: 'it returns false'. Refute it at one input. -/
def fnSameRectWrong : ChangeSpec := { name := "fnSameRect", fn := fun _ => fun
  | [d1, d2] => { results := [.lit (.bool false)], args := [d1, d2] }
  | _ => none }
def FnSameRectWrongFalsely : Prop := fnSameRectRow.holds Try.pinned (OpenSpec.ofChange fnSameRectWrong)

/-- 'laws.FnUserSpace': WHATEVER THE INPUT: true; the input reads as it did. -/
def fnUserSpaceSpec : ChangeSpec := { name := "fnUserSpace", fn := fun _ => fun
  | [d1, d2] => { results := [.lit (.bool true)], args := [d1, d2] }
  | _ => none }
def fnUserSpaceRow : OpenClaim := { program := "ytolmmgemahohoaa", sum := "a86d2c47640bb49de3162109471703457de941442ccef14d137480388e35b998", func := "given.example/pub-foolscap/laws.FnUserSpace", spec := "fnUserSpace", apart := false }
def FnUserSpaceSaid : Prop := fnUserSpaceRow.holds Try.pinned (OpenSpec.ofChange fnUserSpaceSpec)

/-- ITS FALSE NEIGHBOUR: 'it returns false'. Refute it at one input. -/
def fnUserSpaceWrong : ChangeSpec := { name := "fnUserSpace", fn := fun _ => fun
  | [d1, d2] => { results := [.lit (.bool false)], args := [d1, d2] }
  | _ => none }
def FnUserSpaceWrongFalsely : Prop := fnUserSpaceRow.holds Try.pinned (OpenSpec.ofChange fnUserSpaceWrong)

/-- 'laws.FnMoved': WHATEVER THE INPUT: true; the input reads as it did. -/
def fnMovedSpec : ChangeSpec := { name := "fnMoved", fn := fun _ => fun
  | [d1, d2, d3] => { results := [.lit (.bool true)], args := [d1, d2, d3] }
  | _ => none }
def fnMovedRow : OpenClaim := { program := "ytolmmgemahohoaa", sum := "a86d2c47640bb49de3162109471703457de941442ccef14d137480388e35b998", func := "given.example/pub-foolscap/laws.FnMoved", spec := "fnMoved", apart := false }
def FnMovedSaid : Prop := fnMovedRow.holds Try.pinned (OpenSpec.ofChange fnMovedSpec)

/-- ITS FALSE NEIGHBOUR: 'it returns false'. Refute it at one input. -/
def fnMovedWrong : ChangeSpec := { name := "fnMoved", fn := fun _ => fun
  | [d1, d2, d3] => { results := [.lit (.bool false)], args := [d1, d2, d3] }
  | _ => none }
def FnMovedWrongFalsely : Prop := fnMovedRow.holds Try.pinned (OpenSpec.ofChange fnMovedWrong)

/-- 'laws.FnMultiply': WHATEVER THE INPUT: true; the input reads as it did. -/
def fnMultiplySpec : ChangeSpec := { name := "fnMultiply", fn := fun _ => fun
  | [d1, d2, d3, d4] => { results := [.lit (.bool true)], args := [d1, d2, d3, d4] }
  | _ => none }
def fnMultiplyRow : OpenClaim := { program := "ytolmmgemahohoaa", sum := "a86d2c47640bb49de3162109471703457de941442ccef14d137480388e35b998", func := "given.example/pub-foolscap/laws.FnMultiply", spec := "fnMultiply", apart := false }
def FnMultiplySaid : Prop := fnMultiplyRow.holds Try.pinned (OpenSpec.ofChange fnMultiplySpec)

/-- ITS FALSE NEIGHBOUR: 'it returns false'. Refute it at one input. -/
def fnMultiplyWrong : ChangeSpec := { name := "fnMultiply", fn := fun _ => fun
  | [d1, d2, d3, d4] => { results := [.lit (.bool false)], args := [d1, d2, d3, d4] }
  | _ => none }
def FnMultiplyWrongFalsely : Prop := fnMultiplyRow.holds Try.pinned (OpenSpec.ofChange fnMultiplyWrong)

/-- 'laws.FnRectFacts': WHATEVER THE INPUT: true; the input reads as it did. -/
def fnRectFactsSpec : ChangeSpec := { name := "fnRectFacts", fn := fun _ => fun
  | [d] => { results := [.lit (.bool true)], args := [d] }
  | _ => none }
def fnRectFactsRow : OpenClaim := { program := "ytolmmgemahohoaa", sum := "a86d2c47640bb49de3162109471703457de941442ccef14d137480388e35b998", func := "given.example/pub-foolscap/laws.FnRectFacts", spec := "fnRectFacts", apart := false }
def FnRectFactsSaid : Prop := fnRectFactsRow.holds Try.pinned (OpenSpec.ofChange fnRectFactsSpec)

/-- ITS FALSE NEIGHBOUR: 'it returns false'. Refute it at one input. -/
def fnRectFactsWrong : ChangeSpec := { name := "fnRectFacts", fn := fun _ => fun
  | [d] => { results := [.lit (.bool false)], args := [d] }
  | _ => none }
def FnRectFactsWrongFalsely : Prop := fnRectFactsRow.holds Try.pinned (OpenSpec.ofChange fnRectFactsWrong)

/-- 'laws.FnNormalized': WHATEVER THE INPUT: true; the input reads as it did. -/
def fnNormalizedSpec : ChangeSpec := { name := "fnNormalized", fn := fun _ => fun
  | [d1, d2, d3, d4, d5] => { results := [.lit (.bool true)], args := [d1, d2, d3, d4, d5] }
  | _ => none }
def fnNormalizedRow : OpenClaim := { program := "ytolmmgemahohoaa", sum := "a86d2c47640bb49de3162109471703457de941442ccef14d137480388e35b998", func := "given.example/pub-foolscap/laws.FnNormalized", spec := "fnNormalized", apart := false }
def FnNormalizedSaid : Prop := fnNormalizedRow.holds Try.pinned (OpenSpec.ofChange fnNormalizedSpec)

/-- ITS FALSE NEIGHBOUR: 'it returns false'. Refute it at one input. -/
def fnNormalizedWrong : ChangeSpec := { name := "fnNormalized", fn := fun _ => fun
  | [d1, d2, d3, d4, d5] => { results := [.lit (.bool false)], args := [d1, d2, d3, d4, d5] }
  | _ => none }
def FnNormalizedWrongFalsely : Prop := fnNormalizedRow.holds Try.pinned (OpenSpec.ofChange fnNormalizedWrong)

/-- 'laws.FnLowerLeft': WHATEVER THE INPUT: true; the input reads as it did. -/
def fnLowerLeftSpec : ChangeSpec := { name := "fnLowerLeft", fn := fun _ => fun
  | [d1, d2, d3, d4] => { results := [.lit (.bool true)], args := [d1, d2, d3, d4] }
  | _ => none }
def fnLowerLeftRow : OpenClaim := { program := "ytolmmgemahohoaa", sum := "a86d2c47640bb49de3162109471703457de941442ccef14d137480388e35b998", func := "given.example/pub-foolscap/laws.FnLowerLeft", spec := "fnLowerLeft", apart := false }
def FnLowerLeftSaid : Prop := fnLowerLeftRow.holds Try.pinned (OpenSpec.ofChange fnLowerLeftSpec)

/-- ITS FALSE NEIGHBOUR: 'it returns false'. Refute it at one input. -/
def fnLowerLeftWrong : ChangeSpec := { name := "fnLowerLeft", fn := fun _ => fun
  | [d1, d2, d3, d4] => { results := [.lit (.bool false)], args := [d1, d2, d3, d4] }
  | _ => none }
def FnLowerLeftWrongFalsely : Prop := fnLowerLeftRow.holds Try.pinned (OpenSpec.ofChange fnLowerLeftWrong)

/- THE SECOND FORM. 'bulk': how many values and letters a reading holds, each counted each time it is reached (what is shared counts as often as it is met; a slice's spare places count too). A statement '..UptoSaid' is the law's where the arguments, and the package variables that the reading takes, are together of bulk at most 1048576: NARROWER than '..Said'. Prove '..Said' where nothing that the law and all that it calls make is longer than what came in: it says more and counts as full. Else prove '..UptoSaid'. A law counts once. -/
mutual
def uptoBulk {H : Type} : DataW H → Nat
  | .lit (.string bytes) => bytes.length + 1
  | .lit _ => 1
  | .nil => 1
  | .ptr d => uptoBulk d + 1
  | .slice elems spare => uptoBulkAll elems + uptoBulkAll spare + 1
  | .agg parts => uptoBulkAll parts + 1
  | .iface _ d => uptoBulk d + 1
  | .map entries => uptoBulkEntries entries + 1
  | .held _ => 1
def uptoBulkAll {H : Type} : List (DataW H) → Nat
  | [] => 0
  | d :: r => uptoBulk d + uptoBulkAll r
def uptoBulkEntries {H : Type} : List (Lit × DataW H) → Nat
  | [] => 0
  | x :: r => uptoBulkEntry x + uptoBulkEntries r
def uptoBulkEntry {H : Type} : Lit × DataW H → Nat
  | (.string bytes, d) => bytes.length + uptoBulk d + 1
  | (_, d) => uptoBulk d + 1
 end
def uptoSmall : (H : Type) → List (DataW H) → Bool := fun _ ds => decide (uptoBulkAll ds ≤ 1048576)
def OpenSpec.upto (s : _root_.Go.ChangeSpec) : _root_.Go.OpenSpec := { _root_.Go.OpenSpec.ofChange s with cond := some uptoSmall }

/-- 'laws.FnFilters', WHERE WHAT IT READS IS OF BULK AT MOST 1048576: true; the input reads as it did. -/
def fnFiltersUptoRow : OpenClaim := { program := "ytolmmgemahohoaa", sum := "a86d2c47640bb49de3162109471703457de941442ccef14d137480388e35b998", func := "given.example/pub-foolscap/laws.FnFilters", spec := "fnFilters", apart := false, narrowed := true }
def FnFiltersUptoSaid : Prop := fnFiltersUptoRow.holds Try.pinned (OpenSpec.upto fnFiltersSpec)

/-- 'laws.FnSameRect', WHERE WHAT IT READS IS OF BULK AT MOST 1048576: true; the input reads as it did. -/
def fnSameRectUptoRow : OpenClaim := { program := "ytolmmgemahohoaa", sum := "a86d2c47640bb49de3162109471703457de941442ccef14d137480388e35b998", func := "given.example/pub-foolscap/laws.FnSameRect", spec := "fnSameRect", apart := false, narrowed := true }
def FnSameRectUptoSaid : Prop := fnSameRectUptoRow.holds Try.pinned (OpenSpec.upto fnSameRectSpec)

/-- 'laws.FnUserSpace', WHERE WHAT IT READS IS OF BULK AT MOST 1048576: true; the input reads as it did. -/
def fnUserSpaceUptoRow : OpenClaim := { program := "ytolmmgemahohoaa", sum := "a86d2c47640bb49de3162109471703457de941442ccef14d137480388e35b998", func := "given.example/pub-foolscap/laws.FnUserSpace", spec := "fnUserSpace", apart := false, narrowed := true }
def FnUserSpaceUptoSaid : Prop := fnUserSpaceUptoRow.holds Try.pinned (OpenSpec.upto fnUserSpaceSpec)

/-- 'laws.FnMoved', WHERE WHAT IT READS IS OF BULK AT MOST 1048576: true; the input reads as it did. -/
def fnMovedUptoRow : OpenClaim := { program := "ytolmmgemahohoaa", sum := "a86d2c47640bb49de3162109471703457de941442ccef14d137480388e35b998", func := "given.example/pub-foolscap/laws.FnMoved", spec := "fnMoved", apart := false, narrowed := true }
def FnMovedUptoSaid : Prop := fnMovedUptoRow.holds Try.pinned (OpenSpec.upto fnMovedSpec)

/-- 'laws.FnMultiply', WHERE WHAT IT READS IS OF BULK AT MOST 1048576: true; the input reads as it did. -/
def fnMultiplyUptoRow : OpenClaim := { program := "ytolmmgemahohoaa", sum := "a86d2c47640bb49de3162109471703457de941442ccef14d137480388e35b998", func := "given.example/pub-foolscap/laws.FnMultiply", spec := "fnMultiply", apart := false, narrowed := true }
def FnMultiplyUptoSaid : Prop := fnMultiplyUptoRow.holds Try.pinned (OpenSpec.upto fnMultiplySpec)

/-- 'laws.FnRectFacts', WHERE WHAT IT READS IS OF BULK AT MOST 1048576: true; the input reads as it did. -/
def fnRectFactsUptoRow : OpenClaim := { program := "ytolmmgemahohoaa", sum := "a86d2c47640bb49de3162109471703457de941442ccef14d137480388e35b998", func := "given.example/pub-foolscap/laws.FnRectFacts", spec := "fnRectFacts", apart := false, narrowed := true }
def FnRectFactsUptoSaid : Prop := fnRectFactsUptoRow.holds Try.pinned (OpenSpec.upto fnRectFactsSpec)

/-- 'laws.FnNormalized', WHERE WHAT IT READS IS OF BULK AT MOST 1048576: true; the input reads as it did. -/
def fnNormalizedUptoRow : OpenClaim := { program := "ytolmmgemahohoaa", sum := "a86d2c47640bb49de3162109471703457de941442ccef14d137480388e35b998", func := "given.example/pub-foolscap/laws.FnNormalized", spec := "fnNormalized", apart := false, narrowed := true }
def FnNormalizedUptoSaid : Prop := fnNormalizedUptoRow.holds Try.pinned (OpenSpec.upto fnNormalizedSpec)

/-- 'laws.FnLowerLeft', WHERE WHAT IT READS IS OF BULK AT MOST 1048576: true; the input reads as it did. -/
def fnLowerLeftUptoRow : OpenClaim := { program := "ytolmmgemahohoaa", sum := "a86d2c47640bb49de3162109471703457de941442ccef14d137480388e35b998", func := "given.example/pub-foolscap/laws.FnLowerLeft", spec := "fnLowerLeft", apart := false, narrowed := true }
def FnLowerLeftUptoSaid : Prop := fnLowerLeftUptoRow.holds Try.pinned (OpenSpec.upto fnLowerLeftSpec)

end Rows
end Go.Proofs.Ytolmmgemahohoaa
