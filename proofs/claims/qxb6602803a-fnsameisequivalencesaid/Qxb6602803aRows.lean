/-
  No cell of these rows narrows 'for every input' (looked for: loops, veiled, ifaces, maps, wideKeys, modest, calm, conditions, laid).
  DERIVED. THE GIVEN ROWS OF THIS SEAT. 5 by the template 'for every input the law returns true; each argument reads behind the call as it read before'; 0 by the template 'total and deterministic' (their statements: Qxb6602803aTotals.lean).
  GIVEN WITH THE SEED: the statements are not yours to turn. If you find one false, say at which input.
  Laid BY PROGRAM, IN A SANDBOX (cutbox-rows.mjs): the forced cells as the released guide's own fill.sh prints them over the translation b546388053843345… (all of the seat's roots in one cut). By AI agents, Wed Nov 11 2026. No macro, syntax, notation, axiom, sorry.
-/
import Derived.Test.Qxb6602803aChecked
import GoSem.Claim
import GoSem.ClaimJoined
import GoSem.ClaimMapViews
import Derived.JoinedTies
import Derived.KernelRfl
namespace Go.Proofs.Qxb6602803a
/- THE CELL 'sum', in the pinned program and in every row, IS THE sha256 OF THE DUMP (.gsa) THAT Qxb6602803aProg.lean LOADS. Nothing in Lean hashes anything: it is a label: what it is worth is what the hold of that sum in a sandbox is worth. -/
noncomputable def Try.pinned : Pinned := { name := "qxb6602803a", sum := "b546388053843345ba1d7cdc1428688f8aa854593644c2ba91d6c853c74ee281", checked := Try.checked }
namespace Rows
def none {H : Type} : Left H := { results := [], args := [] }

/-- 'zzlaws_internal_sqlsink_b1.FnUserInfoOfParts': WHATEVER THE INPUT: true; the input reads as it did. -/
def fnUserInfoOfPartsSpec : ChangeSpec := { name := "fnUserInfoOfParts", fn := fun _ => fun
  | [d1, d2, d3] => { results := [.lit (.bool true)], args := [d1, d2, d3] }
  | _ => none }
def fnUserInfoOfPartsRow : OpenClaim := { program := "qxb6602803a", sum := "b546388053843345ba1d7cdc1428688f8aa854593644c2ba91d6c853c74ee281", func := "example.com/sinkwright/sinkwright/zzlaws_internal_sqlsink_b1.FnUserInfoOfParts", spec := "fnUserInfoOfParts", inPlace := ["internal/bytealg.IndexByteString", "internal/bytealg.IndexString"], named := ["internal/bytealg.MaxLen"], apart := false }
def FnUserInfoOfPartsSaid : Prop := fnUserInfoOfPartsRow.holds Try.pinned (OpenSpec.ofChange fnUserInfoOfPartsSpec)

/-- ITS FALSE NEIGHBOUR: 'it returns false'. Refute it at one input. -/
def fnUserInfoOfPartsWrong : ChangeSpec := { name := "fnUserInfoOfParts", fn := fun _ => fun
  | [d1, d2, d3] => { results := [.lit (.bool false)], args := [d1, d2, d3] }
  | _ => none }
def FnUserInfoOfPartsWrongFalsely : Prop := fnUserInfoOfPartsRow.holds Try.pinned (OpenSpec.ofChange fnUserInfoOfPartsWrong)

/-- 'zzlaws_internal_sqlsink_b1.FnCutPasswordMatchesModel': WHATEVER THE INPUT: true; the input reads as it did. -/
def fnCutPasswordMatchesModelSpec : ChangeSpec := { name := "fnCutPasswordMatchesModel", fn := fun _ => fun
  | [d] => { results := [.lit (.bool true)], args := [d] }
  | _ => none }
def fnCutPasswordMatchesModelRow : OpenClaim := { program := "qxb6602803a", sum := "b546388053843345ba1d7cdc1428688f8aa854593644c2ba91d6c853c74ee281", func := "example.com/sinkwright/sinkwright/zzlaws_internal_sqlsink_b1.FnCutPasswordMatchesModel", spec := "fnCutPasswordMatchesModel", inPlace := ["internal/bytealg.IndexByteString", "internal/bytealg.IndexString"], named := ["internal/bytealg.MaxLen"], apart := false }
def FnCutPasswordMatchesModelSaid : Prop := fnCutPasswordMatchesModelRow.holds Try.pinned (OpenSpec.ofChange fnCutPasswordMatchesModelSpec)

/-- ITS FALSE NEIGHBOUR: 'it returns false'. Refute it at one input. -/
def fnCutPasswordMatchesModelWrong : ChangeSpec := { name := "fnCutPasswordMatchesModel", fn := fun _ => fun
  | [d] => { results := [.lit (.bool false)], args := [d] }
  | _ => none }
def FnCutPasswordMatchesModelWrongFalsely : Prop := fnCutPasswordMatchesModelRow.holds Try.pinned (OpenSpec.ofChange fnCutPasswordMatchesModelWrong)

/-- 'zzlaws_internal_sqlsink_b1.FnCutPasswordIdempotent': WHATEVER THE INPUT: true; the input reads as it did. -/
def fnCutPasswordIdempotentSpec : ChangeSpec := { name := "fnCutPasswordIdempotent", fn := fun _ => fun
  | [d] => { results := [.lit (.bool true)], args := [d] }
  | _ => none }
def fnCutPasswordIdempotentRow : OpenClaim := { program := "qxb6602803a", sum := "b546388053843345ba1d7cdc1428688f8aa854593644c2ba91d6c853c74ee281", func := "example.com/sinkwright/sinkwright/zzlaws_internal_sqlsink_b1.FnCutPasswordIdempotent", spec := "fnCutPasswordIdempotent", inPlace := ["internal/bytealg.IndexByteString", "internal/bytealg.IndexString"], named := ["internal/bytealg.MaxLen"], apart := false }
def FnCutPasswordIdempotentSaid : Prop := fnCutPasswordIdempotentRow.holds Try.pinned (OpenSpec.ofChange fnCutPasswordIdempotentSpec)

/-- ITS FALSE NEIGHBOUR: 'it returns false'. Refute it at one input. -/
def fnCutPasswordIdempotentWrong : ChangeSpec := { name := "fnCutPasswordIdempotent", fn := fun _ => fun
  | [d] => { results := [.lit (.bool false)], args := [d] }
  | _ => none }
def FnCutPasswordIdempotentWrongFalsely : Prop := fnCutPasswordIdempotentRow.holds Try.pinned (OpenSpec.ofChange fnCutPasswordIdempotentWrong)

/-- 'zzlaws_internal_sqlsink_b1.FnCutPasswordOfParts': WHATEVER THE INPUT: true; the input reads as it did. -/
def fnCutPasswordOfPartsSpec : ChangeSpec := { name := "fnCutPasswordOfParts", fn := fun _ => fun
  | [d1, d2, d3, d4] => { results := [.lit (.bool true)], args := [d1, d2, d3, d4] }
  | _ => none }
def fnCutPasswordOfPartsRow : OpenClaim := { program := "qxb6602803a", sum := "b546388053843345ba1d7cdc1428688f8aa854593644c2ba91d6c853c74ee281", func := "example.com/sinkwright/sinkwright/zzlaws_internal_sqlsink_b1.FnCutPasswordOfParts", spec := "fnCutPasswordOfParts", inPlace := ["internal/bytealg.IndexByteString", "internal/bytealg.IndexString"], named := ["internal/bytealg.MaxLen"], apart := false }
def FnCutPasswordOfPartsSaid : Prop := fnCutPasswordOfPartsRow.holds Try.pinned (OpenSpec.ofChange fnCutPasswordOfPartsSpec)

/-- ITS FALSE NEIGHBOUR: 'it returns false'. Refute it at one input. -/
def fnCutPasswordOfPartsWrong : ChangeSpec := { name := "fnCutPasswordOfParts", fn := fun _ => fun
  | [d1, d2, d3, d4] => { results := [.lit (.bool false)], args := [d1, d2, d3, d4] }
  | _ => none }
def FnCutPasswordOfPartsWrongFalsely : Prop := fnCutPasswordOfPartsRow.holds Try.pinned (OpenSpec.ofChange fnCutPasswordOfPartsWrong)

/-- 'zzlaws_internal_sqlsink_b1.FnSameIsEquivalence': WHATEVER THE INPUT: true; the input reads as it did. -/
def fnSameIsEquivalenceSpec : ChangeSpec := { name := "fnSameIsEquivalence", fn := fun _ => fun
  | [d1, d2, d3] => { results := [.lit (.bool true)], args := [d1, d2, d3] }
  | _ => none }
def fnSameIsEquivalenceRow : OpenClaim := { program := "qxb6602803a", sum := "b546388053843345ba1d7cdc1428688f8aa854593644c2ba91d6c853c74ee281", func := "example.com/sinkwright/sinkwright/zzlaws_internal_sqlsink_b1.FnSameIsEquivalence", spec := "fnSameIsEquivalence", apart := false }
def FnSameIsEquivalenceSaid : Prop := fnSameIsEquivalenceRow.holds Try.pinned (OpenSpec.ofChange fnSameIsEquivalenceSpec)

/-- ITS FALSE NEIGHBOUR: 'it returns false'. Refute it at one input. -/
def fnSameIsEquivalenceWrong : ChangeSpec := { name := "fnSameIsEquivalence", fn := fun _ => fun
  | [d1, d2, d3] => { results := [.lit (.bool false)], args := [d1, d2, d3] }
  | _ => none }
def FnSameIsEquivalenceWrongFalsely : Prop := fnSameIsEquivalenceRow.holds Try.pinned (OpenSpec.ofChange fnSameIsEquivalenceWrong)

end Rows
end Go.Proofs.Qxb6602803a
