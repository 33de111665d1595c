/-
  No cell of these rows narrows 'for every input' (looked for: loops, veiled, ifaces, maps, wideKeys, modest, calm, conditions, laid).
  DERIVED. THE GIVEN ROWS OF THIS SEAT. 6 by the template 'for every input the law returns true; each argument reads behind the call as it read before'; 0 by the template 'total and deterministic' (their statements: Qxb6604135aTotals.lean).
  GIVEN WITH THE SEED: the statements are not yours to turn. If you find one false, say at which input.
  Laid BY PROGRAM, IN A SANDBOX (cutbox-rows.mjs): the forced cells as the released guide's own fill.sh prints them over the translation 10434f0455dd6020… (all of the seat's roots in one cut). By AI agents, Wed Nov 11 2026. No macro, syntax, notation, axiom, sorry.
-/
import Derived.Test.Qxb6604135aChecked
import GoSem.Claim
import GoSem.ClaimJoined
import GoSem.ClaimMapViews
import Derived.JoinedTies
import Derived.KernelRfl
namespace Go.Proofs.Qxb6604135a
/- THE CELL 'sum', in the pinned program and in every row, IS THE sha256 OF THE DUMP (.gsa) THAT Qxb6604135aProg.lean LOADS. Nothing in Lean hashes anything: it is a label: what it is worth is what the hold of that sum in a sandbox is worth. -/
noncomputable def Try.pinned : Pinned := { name := "qxb6604135a", sum := "10434f0455dd60207c582452a771b32a1a8c3f21c834104457c9c2c507d50f2f", checked := Try.checked }
namespace Rows
def none {H : Type} : Left H := { results := [], args := [] }

/-- 'zzlaws_internal_jsondoc_b1.FnHex4MatchesDigitTable': WHATEVER THE INPUT: true; the input reads as it did. -/
def fnHex4MatchesDigitTableSpec : ChangeSpec := { name := "fnHex4MatchesDigitTable", fn := fun _ => fun
  | [d] => { results := [.lit (.bool true)], args := [d] }
  | _ => none }
def fnHex4MatchesDigitTableRow : OpenClaim := { program := "qxb6604135a", sum := "10434f0455dd60207c582452a771b32a1a8c3f21c834104457c9c2c507d50f2f", func := "example.com/sextant/sextant/zzlaws_internal_jsondoc_b1.FnHex4MatchesDigitTable", spec := "fnHex4MatchesDigitTable", apart := false }
def FnHex4MatchesDigitTableSaid : Prop := fnHex4MatchesDigitTableRow.holds Try.pinned (OpenSpec.ofChange fnHex4MatchesDigitTableSpec)

/-- ITS FALSE NEIGHBOUR: 'it returns false'. Refute it at one input. -/
def fnHex4MatchesDigitTableWrong : ChangeSpec := { name := "fnHex4MatchesDigitTable", fn := fun _ => fun
  | [d] => { results := [.lit (.bool false)], args := [d] }
  | _ => none }
def FnHex4MatchesDigitTableWrongFalsely : Prop := fnHex4MatchesDigitTableRow.holds Try.pinned (OpenSpec.ofChange fnHex4MatchesDigitTableWrong)

/-- 'zzlaws_internal_jsondoc_b1.FnHex4ReadsBackEncodedValue': WHATEVER THE INPUT: true; the input reads as it did. -/
def fnHex4ReadsBackEncodedValueSpec : ChangeSpec := { name := "fnHex4ReadsBackEncodedValue", fn := fun _ => fun
  | [d1, d2, d3] => { results := [.lit (.bool true)], args := [d1, d2, d3] }
  | _ => none }
def fnHex4ReadsBackEncodedValueRow : OpenClaim := { program := "qxb6604135a", sum := "10434f0455dd60207c582452a771b32a1a8c3f21c834104457c9c2c507d50f2f", func := "example.com/sextant/sextant/zzlaws_internal_jsondoc_b1.FnHex4ReadsBackEncodedValue", spec := "fnHex4ReadsBackEncodedValue", apart := false }
def FnHex4ReadsBackEncodedValueSaid : Prop := fnHex4ReadsBackEncodedValueRow.holds Try.pinned (OpenSpec.ofChange fnHex4ReadsBackEncodedValueSpec)

/-- ITS FALSE NEIGHBOUR: 'it returns false'. Refute it at one input. -/
def fnHex4ReadsBackEncodedValueWrong : ChangeSpec := { name := "fnHex4ReadsBackEncodedValue", fn := fun _ => fun
  | [d1, d2, d3] => { results := [.lit (.bool false)], args := [d1, d2, d3] }
  | _ => none }
def FnHex4ReadsBackEncodedValueWrongFalsely : Prop := fnHex4ReadsBackEncodedValueRow.holds Try.pinned (OpenSpec.ofChange fnHex4ReadsBackEncodedValueWrong)

/-- 'zzlaws_internal_jsondoc_b1.FnAdvanceMatchesLineCount': WHATEVER THE INPUT: true; the input reads as it did. -/
def fnAdvanceMatchesLineCountSpec : ChangeSpec := { name := "fnAdvanceMatchesLineCount", fn := fun _ => fun
  | [d1, d2, d3, d4, d5] => { results := [.lit (.bool true)], args := [d1, d2, d3, d4, d5] }
  | _ => none }
def fnAdvanceMatchesLineCountRow : OpenClaim := { program := "qxb6604135a", sum := "10434f0455dd60207c582452a771b32a1a8c3f21c834104457c9c2c507d50f2f", func := "example.com/sextant/sextant/zzlaws_internal_jsondoc_b1.FnAdvanceMatchesLineCount", spec := "fnAdvanceMatchesLineCount", apart := false }
def FnAdvanceMatchesLineCountSaid : Prop := fnAdvanceMatchesLineCountRow.holds Try.pinned (OpenSpec.ofChange fnAdvanceMatchesLineCountSpec)

/-- ITS FALSE NEIGHBOUR: 'it returns false'. Refute it at one input. -/
def fnAdvanceMatchesLineCountWrong : ChangeSpec := { name := "fnAdvanceMatchesLineCount", fn := fun _ => fun
  | [d1, d2, d3, d4, d5] => { results := [.lit (.bool false)], args := [d1, d2, d3, d4, d5] }
  | _ => none }
def FnAdvanceMatchesLineCountWrongFalsely : Prop := fnAdvanceMatchesLineCountRow.holds Try.pinned (OpenSpec.ofChange fnAdvanceMatchesLineCountWrong)

/-- 'zzlaws_internal_jsondoc_b1.FnFirstLowIsFirstLowBlock': WHATEVER THE INPUT: true; the input reads as it did. -/
def fnFirstLowIsFirstLowBlockSpec : ChangeSpec := { name := "fnFirstLowIsFirstLowBlock", fn := fun _ => fun
  | [d1, d2, d3, d4, d5] => { results := [.lit (.bool true)], args := [d1, d2, d3, d4, d5] }
  | _ => none }
def fnFirstLowIsFirstLowBlockRow : OpenClaim := { program := "qxb6604135a", sum := "10434f0455dd60207c582452a771b32a1a8c3f21c834104457c9c2c507d50f2f", func := "example.com/sextant/sextant/zzlaws_internal_jsondoc_b1.FnFirstLowIsFirstLowBlock", spec := "fnFirstLowIsFirstLowBlock", apart := false }
def FnFirstLowIsFirstLowBlockSaid : Prop := fnFirstLowIsFirstLowBlockRow.holds Try.pinned (OpenSpec.ofChange fnFirstLowIsFirstLowBlockSpec)

/-- ITS FALSE NEIGHBOUR: 'it returns false'. Refute it at one input. -/
def fnFirstLowIsFirstLowBlockWrong : ChangeSpec := { name := "fnFirstLowIsFirstLowBlock", fn := fun _ => fun
  | [d1, d2, d3, d4, d5] => { results := [.lit (.bool false)], args := [d1, d2, d3, d4, d5] }
  | _ => none }
def FnFirstLowIsFirstLowBlockWrongFalsely : Prop := fnFirstLowIsFirstLowBlockRow.holds Try.pinned (OpenSpec.ofChange fnFirstLowIsFirstLowBlockWrong)

/-- 'zzlaws_internal_jsondoc_b1.FnFirstLowOverBuiltLevels': WHATEVER THE INPUT: true; the input reads as it did. -/
def fnFirstLowOverBuiltLevelsSpec : ChangeSpec := { name := "fnFirstLowOverBuiltLevels", fn := fun _ => fun
  | [d1, d2, d3] => { results := [.lit (.bool true)], args := [d1, d2, d3] }
  | _ => none }
def fnFirstLowOverBuiltLevelsRow : OpenClaim := { program := "qxb6604135a", sum := "10434f0455dd60207c582452a771b32a1a8c3f21c834104457c9c2c507d50f2f", func := "example.com/sextant/sextant/zzlaws_internal_jsondoc_b1.FnFirstLowOverBuiltLevels", spec := "fnFirstLowOverBuiltLevels", apart := false }
def FnFirstLowOverBuiltLevelsSaid : Prop := fnFirstLowOverBuiltLevelsRow.holds Try.pinned (OpenSpec.ofChange fnFirstLowOverBuiltLevelsSpec)

/-- ITS FALSE NEIGHBOUR: 'it returns false'. Refute it at one input. -/
def fnFirstLowOverBuiltLevelsWrong : ChangeSpec := { name := "fnFirstLowOverBuiltLevels", fn := fun _ => fun
  | [d1, d2, d3] => { results := [.lit (.bool false)], args := [d1, d2, d3] }
  | _ => none }
def FnFirstLowOverBuiltLevelsWrongFalsely : Prop := fnFirstLowOverBuiltLevelsRow.holds Try.pinned (OpenSpec.ofChange fnFirstLowOverBuiltLevelsWrong)

/-- 'zzlaws_internal_jsondoc_b1.FnFirstLowResumesAndOrdersByDepth': WHATEVER THE INPUT: true; the input reads as it did. -/
def fnFirstLowResumesAndOrdersByDepthSpec : ChangeSpec := { name := "fnFirstLowResumesAndOrdersByDepth", fn := fun _ => fun
  | [d1, d2, d3] => { results := [.lit (.bool true)], args := [d1, d2, d3] }
  | _ => none }
def fnFirstLowResumesAndOrdersByDepthRow : OpenClaim := { program := "qxb6604135a", sum := "10434f0455dd60207c582452a771b32a1a8c3f21c834104457c9c2c507d50f2f", func := "example.com/sextant/sextant/zzlaws_internal_jsondoc_b1.FnFirstLowResumesAndOrdersByDepth", spec := "fnFirstLowResumesAndOrdersByDepth", apart := false }
def FnFirstLowResumesAndOrdersByDepthSaid : Prop := fnFirstLowResumesAndOrdersByDepthRow.holds Try.pinned (OpenSpec.ofChange fnFirstLowResumesAndOrdersByDepthSpec)

/-- ITS FALSE NEIGHBOUR: 'it returns false'. Refute it at one input. -/
def fnFirstLowResumesAndOrdersByDepthWrong : ChangeSpec := { name := "fnFirstLowResumesAndOrdersByDepth", fn := fun _ => fun
  | [d1, d2, d3] => { results := [.lit (.bool false)], args := [d1, d2, d3] }
  | _ => none }
def FnFirstLowResumesAndOrdersByDepthWrongFalsely : Prop := fnFirstLowResumesAndOrdersByDepthRow.holds Try.pinned (OpenSpec.ofChange fnFirstLowResumesAndOrdersByDepthWrong)

end Rows
end Go.Proofs.Qxb6604135a
