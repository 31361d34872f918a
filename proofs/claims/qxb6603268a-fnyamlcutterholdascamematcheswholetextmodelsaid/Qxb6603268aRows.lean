/-
  No cell of these rows narrows 'for every input' (looked for: loops, veiled, ifaces, maps, wideKeys, modest, calm, conditions, laid).
  DERIVED. THE GIVEN ROWS OF THIS SEAT. 6 by the template 'for every input the law returns true; each argument reads behind the call as it read before'; 0 by the template 'total and deterministic' (their statements: Qxb6603268aTotals.lean).
  GIVEN WITH THE SEED: the statements are not yours to turn. If you find one false, say at which input.
  Laid BY PROGRAM, IN A SANDBOX (cutbox-rows.mjs): the forced cells as the released guide's own fill.sh prints them over the translation 4aab1ef8bccc93c6… (all of the seat's roots in one cut). By AI agents, Wed Nov 11 2026. No macro, syntax, notation, axiom, sorry.
-/
import Derived.Test.Qxb6603268aChecked
import GoSem.Claim
import GoSem.ClaimJoined
import GoSem.ClaimMapViews
import Derived.JoinedTies
import Derived.KernelRfl
namespace Go.Proofs.Qxb6603268a
/- THE CELL 'sum', in the pinned program and in every row, IS THE sha256 OF THE DUMP (.gsa) THAT Qxb6603268aProg.lean LOADS. Nothing in Lean hashes anything: it is a label: what it is worth is what the hold of that sum in a sandbox is worth. -/
noncomputable def Try.pinned : Pinned := { name := "qxb6603268a", sum := "4aab1ef8bccc93c68b317278174751f2e7c9e8329316d5997b54601248b5613a", checked := Try.checked }
namespace Rows
def none {H : Type} : Left H := { results := [], args := [] }

/-- 'zzlaws_internal_decl_b1.FnQuoteStatesNextDistributesOverUnion': WHATEVER THE INPUT: true; the input reads as it did. -/
def fnQuoteStatesNextDistributesOverUnionSpec : ChangeSpec := { name := "fnQuoteStatesNextDistributesOverUnion", fn := fun _ => fun
  | [d1, d2, d3, d4] => { results := [.lit (.bool true)], args := [d1, d2, d3, d4] }
  | _ => none }
def fnQuoteStatesNextDistributesOverUnionRow : OpenClaim := { program := "qxb6603268a", sum := "4aab1ef8bccc93c68b317278174751f2e7c9e8329316d5997b54601248b5613a", func := "example.com/nearside/nearside/zzlaws_internal_decl_b1.FnQuoteStatesNextDistributesOverUnion", spec := "fnQuoteStatesNextDistributesOverUnion", apart := false }
def FnQuoteStatesNextDistributesOverUnionSaid : Prop := fnQuoteStatesNextDistributesOverUnionRow.holds Try.pinned (OpenSpec.ofChange fnQuoteStatesNextDistributesOverUnionSpec)

/-- ITS FALSE NEIGHBOUR: 'it returns false'. Refute it at one input. -/
def fnQuoteStatesNextDistributesOverUnionWrong : ChangeSpec := { name := "fnQuoteStatesNextDistributesOverUnion", fn := fun _ => fun
  | [d1, d2, d3, d4] => { results := [.lit (.bool false)], args := [d1, d2, d3, d4] }
  | _ => none }
def FnQuoteStatesNextDistributesOverUnionWrongFalsely : Prop := fnQuoteStatesNextDistributesOverUnionRow.holds Try.pinned (OpenSpec.ofChange fnQuoteStatesNextDistributesOverUnionWrong)

/-- 'zzlaws_internal_decl_b1.FnQuoteStatesNextNeverLosesEveryReading': WHATEVER THE INPUT: true; the input reads as it did. -/
def fnQuoteStatesNextNeverLosesEveryReadingSpec : ChangeSpec := { name := "fnQuoteStatesNextNeverLosesEveryReading", fn := fun _ => fun
  | [d1, d2, d3] => { results := [.lit (.bool true)], args := [d1, d2, d3] }
  | _ => none }
def fnQuoteStatesNextNeverLosesEveryReadingRow : OpenClaim := { program := "qxb6603268a", sum := "4aab1ef8bccc93c68b317278174751f2e7c9e8329316d5997b54601248b5613a", func := "example.com/nearside/nearside/zzlaws_internal_decl_b1.FnQuoteStatesNextNeverLosesEveryReading", spec := "fnQuoteStatesNextNeverLosesEveryReading", apart := false }
def FnQuoteStatesNextNeverLosesEveryReadingSaid : Prop := fnQuoteStatesNextNeverLosesEveryReadingRow.holds Try.pinned (OpenSpec.ofChange fnQuoteStatesNextNeverLosesEveryReadingSpec)

/-- ITS FALSE NEIGHBOUR: 'it returns false'. Refute it at one input. -/
def fnQuoteStatesNextNeverLosesEveryReadingWrong : ChangeSpec := { name := "fnQuoteStatesNextNeverLosesEveryReading", fn := fun _ => fun
  | [d1, d2, d3] => { results := [.lit (.bool false)], args := [d1, d2, d3] }
  | _ => none }
def FnQuoteStatesNextNeverLosesEveryReadingWrongFalsely : Prop := fnQuoteStatesNextNeverLosesEveryReadingRow.holds Try.pinned (OpenSpec.ofChange fnQuoteStatesNextNeverLosesEveryReadingWrong)

/-- 'zzlaws_internal_decl_b1.FnYamlCutterHoldMatchesWholeTextModel': WHATEVER THE INPUT: true; the input reads as it did. -/
def fnYamlCutterHoldMatchesWholeTextModelSpec : ChangeSpec := { name := "fnYamlCutterHoldMatchesWholeTextModel", fn := fun _ => fun
  | [d1, d2, d3] => { results := [.lit (.bool true)], args := [d1, d2, d3] }
  | _ => none }
def fnYamlCutterHoldMatchesWholeTextModelRow : OpenClaim := { program := "qxb6603268a", sum := "4aab1ef8bccc93c68b317278174751f2e7c9e8329316d5997b54601248b5613a", func := "example.com/nearside/nearside/zzlaws_internal_decl_b1.FnYamlCutterHoldMatchesWholeTextModel", spec := "fnYamlCutterHoldMatchesWholeTextModel", inPlace := ["internal/bytealg.MakeNoZero"], apart := false }
def FnYamlCutterHoldMatchesWholeTextModelSaid : Prop := fnYamlCutterHoldMatchesWholeTextModelRow.holds Try.pinned (OpenSpec.ofChange fnYamlCutterHoldMatchesWholeTextModelSpec)

/-- ITS FALSE NEIGHBOUR: 'it returns false'. Refute it at one input. -/
def fnYamlCutterHoldMatchesWholeTextModelWrong : ChangeSpec := { name := "fnYamlCutterHoldMatchesWholeTextModel", fn := fun _ => fun
  | [d1, d2, d3] => { results := [.lit (.bool false)], args := [d1, d2, d3] }
  | _ => none }
def FnYamlCutterHoldMatchesWholeTextModelWrongFalsely : Prop := fnYamlCutterHoldMatchesWholeTextModelRow.holds Try.pinned (OpenSpec.ofChange fnYamlCutterHoldMatchesWholeTextModelWrong)

/-- 'zzlaws_internal_decl_b1.FnYamlCutterHoldSplitsFreely': WHATEVER THE INPUT: true; the input reads as it did. -/
def fnYamlCutterHoldSplitsFreelySpec : ChangeSpec := { name := "fnYamlCutterHoldSplitsFreely", fn := fun _ => fun
  | [d1, d2, d3, d4, d5, d6, d7] => { results := [.lit (.bool true)], args := [d1, d2, d3, d4, d5, d6, d7] }
  | _ => none }
def fnYamlCutterHoldSplitsFreelyRow : OpenClaim := { program := "qxb6603268a", sum := "4aab1ef8bccc93c68b317278174751f2e7c9e8329316d5997b54601248b5613a", func := "example.com/nearside/nearside/zzlaws_internal_decl_b1.FnYamlCutterHoldSplitsFreely", spec := "fnYamlCutterHoldSplitsFreely", inPlace := ["internal/bytealg.MakeNoZero"], apart := false }
def FnYamlCutterHoldSplitsFreelySaid : Prop := fnYamlCutterHoldSplitsFreelyRow.holds Try.pinned (OpenSpec.ofChange fnYamlCutterHoldSplitsFreelySpec)

/-- ITS FALSE NEIGHBOUR: 'it returns false'. Refute it at one input. -/
def fnYamlCutterHoldSplitsFreelyWrong : ChangeSpec := { name := "fnYamlCutterHoldSplitsFreely", fn := fun _ => fun
  | [d1, d2, d3, d4, d5, d6, d7] => { results := [.lit (.bool false)], args := [d1, d2, d3, d4, d5, d6, d7] }
  | _ => none }
def FnYamlCutterHoldSplitsFreelyWrongFalsely : Prop := fnYamlCutterHoldSplitsFreelyRow.holds Try.pinned (OpenSpec.ofChange fnYamlCutterHoldSplitsFreelyWrong)

/-- 'zzlaws_internal_decl_b1.FnYamlCutterHoldAsCameMatchesWholeTextModel': WHATEVER THE INPUT: true; the input reads as it did. -/
def fnYamlCutterHoldAsCameMatchesWholeTextModelSpec : ChangeSpec := { name := "fnYamlCutterHoldAsCameMatchesWholeTextModel", fn := fun _ => fun
  | [d1, d2, d3, d4] => { results := [.lit (.bool true)], args := [d1, d2, d3, d4] }
  | _ => none }
def fnYamlCutterHoldAsCameMatchesWholeTextModelRow : OpenClaim := { program := "qxb6603268a", sum := "4aab1ef8bccc93c68b317278174751f2e7c9e8329316d5997b54601248b5613a", func := "example.com/nearside/nearside/zzlaws_internal_decl_b1.FnYamlCutterHoldAsCameMatchesWholeTextModel", spec := "fnYamlCutterHoldAsCameMatchesWholeTextModel", inPlace := ["internal/bytealg.MakeNoZero"], apart := false }
def FnYamlCutterHoldAsCameMatchesWholeTextModelSaid : Prop := fnYamlCutterHoldAsCameMatchesWholeTextModelRow.holds Try.pinned (OpenSpec.ofChange fnYamlCutterHoldAsCameMatchesWholeTextModelSpec)

/-- ITS FALSE NEIGHBOUR: 'it returns false'. Refute it at one input. -/
def fnYamlCutterHoldAsCameMatchesWholeTextModelWrong : ChangeSpec := { name := "fnYamlCutterHoldAsCameMatchesWholeTextModel", fn := fun _ => fun
  | [d1, d2, d3, d4] => { results := [.lit (.bool false)], args := [d1, d2, d3, d4] }
  | _ => none }
def FnYamlCutterHoldAsCameMatchesWholeTextModelWrongFalsely : Prop := fnYamlCutterHoldAsCameMatchesWholeTextModelRow.holds Try.pinned (OpenSpec.ofChange fnYamlCutterHoldAsCameMatchesWholeTextModelWrong)

/-- 'zzlaws_internal_decl_b1.FnYamlCutterHoldAsCameIsHoldByteByByte': WHATEVER THE INPUT: true; the input reads as it did. -/
def fnYamlCutterHoldAsCameIsHoldByteByByteSpec : ChangeSpec := { name := "fnYamlCutterHoldAsCameIsHoldByteByByte", fn := fun _ => fun
  | [d1, d2, d3, d4] => { results := [.lit (.bool true)], args := [d1, d2, d3, d4] }
  | _ => none }
def fnYamlCutterHoldAsCameIsHoldByteByByteRow : OpenClaim := { program := "qxb6603268a", sum := "4aab1ef8bccc93c68b317278174751f2e7c9e8329316d5997b54601248b5613a", func := "example.com/nearside/nearside/zzlaws_internal_decl_b1.FnYamlCutterHoldAsCameIsHoldByteByByte", spec := "fnYamlCutterHoldAsCameIsHoldByteByByte", inPlace := ["internal/bytealg.MakeNoZero"], apart := false }
def FnYamlCutterHoldAsCameIsHoldByteByByteSaid : Prop := fnYamlCutterHoldAsCameIsHoldByteByByteRow.holds Try.pinned (OpenSpec.ofChange fnYamlCutterHoldAsCameIsHoldByteByByteSpec)

/-- ITS FALSE NEIGHBOUR: 'it returns false'. Refute it at one input. -/
def fnYamlCutterHoldAsCameIsHoldByteByByteWrong : ChangeSpec := { name := "fnYamlCutterHoldAsCameIsHoldByteByByte", fn := fun _ => fun
  | [d1, d2, d3, d4] => { results := [.lit (.bool false)], args := [d1, d2, d3, d4] }
  | _ => none }
def FnYamlCutterHoldAsCameIsHoldByteByByteWrongFalsely : Prop := fnYamlCutterHoldAsCameIsHoldByteByByteRow.holds Try.pinned (OpenSpec.ofChange fnYamlCutterHoldAsCameIsHoldByteByByteWrong)

end Rows
end Go.Proofs.Qxb6603268a
