/-
  No cell of these rows narrows 'for every input' (looked for: loops, veiled, ifaces, maps, wideKeys, modest, calm, conditions, laid).
  DERIVED. THE GIVEN ROWS OF THIS SEAT. 6 by the template 'for every input the law returns true; each argument reads behind the call as it read before'; 0 by the template 'total and deterministic' (their statements: Qxb6000977aTotals.lean).
  GIVEN WITH THE SEED: the statements are not yours to turn. If you find one false, say at which input.
  Laid BY PROGRAM, IN A SANDBOX (cutbox-rows.mjs): the forced cells as the released guide's own fill.sh prints them over the translation 8f7fce2cdf4bca9f… (all of the seat's roots in one cut). By AI agents, Wed Nov 11 2026. No macro, syntax, notation, axiom, sorry.
-/
import Derived.Test.Qxb6000977aChecked
import GoSem.Claim
import GoSem.ClaimJoined
import GoSem.ClaimMapViews
import Derived.JoinedTies
import Derived.KernelRfl
namespace Go.Proofs.Qxb6000977a
/- THE CELL 'sum', in the pinned program and in every row, IS THE sha256 OF THE DUMP (.gsa) THAT Qxb6000977aProg.lean LOADS. Nothing in Lean hashes anything: it is a label: what it is worth is what the hold of that sum in a sandbox is worth. -/
noncomputable def Try.pinned : Pinned := { name := "qxb6000977a", sum := "8f7fce2cdf4bca9f4e5203c7a551210fb0b7feadd4bc6ee8c8772e72daf31684", checked := Try.checked }
namespace Rows
def none {H : Type} : Left H := { results := [], args := [] }

/-- 'zzlaws_root_b1.FnLeadingTypeReadsTheWrittenType': WHATEVER THE INPUT: true; the input reads as it did. -/
def fnLeadingTypeReadsTheWrittenTypeSpec : ChangeSpec := { name := "fnLeadingTypeReadsTheWrittenType", fn := fun _ => fun
  | [d1, d2] => { results := [.lit (.bool true)], args := [d1, d2] }
  | _ => none }
def fnLeadingTypeReadsTheWrittenTypeRow : OpenClaim := { program := "qxb6000977a", sum := "8f7fce2cdf4bca9f4e5203c7a551210fb0b7feadd4bc6ee8c8772e72daf31684", func := "example.com/agio-ledger/agio-ledger/zzlaws_root_b1.FnLeadingTypeReadsTheWrittenType", spec := "fnLeadingTypeReadsTheWrittenType", inPlace := ["internal/bytealg.IndexByte"], apart := false }
def FnLeadingTypeReadsTheWrittenTypeSaid : Prop := fnLeadingTypeReadsTheWrittenTypeRow.holds Try.pinned (OpenSpec.ofChange fnLeadingTypeReadsTheWrittenTypeSpec)

/-- ITS FALSE NEIGHBOUR: 'it returns false'. Refute it at one input. -/
def fnLeadingTypeReadsTheWrittenTypeWrong : ChangeSpec := { name := "fnLeadingTypeReadsTheWrittenType", fn := fun _ => fun
  | [d1, d2] => { results := [.lit (.bool false)], args := [d1, d2] }
  | _ => none }
def FnLeadingTypeReadsTheWrittenTypeWrongFalsely : Prop := fnLeadingTypeReadsTheWrittenTypeRow.holds Try.pinned (OpenSpec.ofChange fnLeadingTypeReadsTheWrittenTypeWrong)

/-- 'zzlaws_root_b1.FnLeadingTypeKeepsUnderExtension': WHATEVER THE INPUT: true; the input reads as it did. -/
def fnLeadingTypeKeepsUnderExtensionSpec : ChangeSpec := { name := "fnLeadingTypeKeepsUnderExtension", fn := fun _ => fun
  | [d1, d2, d3] => { results := [.lit (.bool true)], args := [d1, d2, d3] }
  | _ => none }
def fnLeadingTypeKeepsUnderExtensionRow : OpenClaim := { program := "qxb6000977a", sum := "8f7fce2cdf4bca9f4e5203c7a551210fb0b7feadd4bc6ee8c8772e72daf31684", func := "example.com/agio-ledger/agio-ledger/zzlaws_root_b1.FnLeadingTypeKeepsUnderExtension", spec := "fnLeadingTypeKeepsUnderExtension", inPlace := ["internal/bytealg.IndexByte"], apart := false }
def FnLeadingTypeKeepsUnderExtensionSaid : Prop := fnLeadingTypeKeepsUnderExtensionRow.holds Try.pinned (OpenSpec.ofChange fnLeadingTypeKeepsUnderExtensionSpec)

/-- ITS FALSE NEIGHBOUR: 'it returns false'. Refute it at one input. -/
def fnLeadingTypeKeepsUnderExtensionWrong : ChangeSpec := { name := "fnLeadingTypeKeepsUnderExtension", fn := fun _ => fun
  | [d1, d2, d3] => { results := [.lit (.bool false)], args := [d1, d2, d3] }
  | _ => none }
def FnLeadingTypeKeepsUnderExtensionWrongFalsely : Prop := fnLeadingTypeKeepsUnderExtensionRow.holds Try.pinned (OpenSpec.ofChange fnLeadingTypeKeepsUnderExtensionWrong)

/-- 'zzlaws_root_b1.FnNameNumbersByFirstAppearance': WHATEVER THE INPUT: true; the input reads as it did. -/
def fnNameNumbersByFirstAppearanceSpec : ChangeSpec := { name := "fnNameNumbersByFirstAppearance", fn := fun _ => fun
  | [d] => { results := [.lit (.bool true)], args := [d] }
  | _ => none }
def fnNameNumbersByFirstAppearanceRow : OpenClaim := { program := "qxb6000977a", sum := "8f7fce2cdf4bca9f4e5203c7a551210fb0b7feadd4bc6ee8c8772e72daf31684", func := "example.com/agio-ledger/agio-ledger/zzlaws_root_b1.FnNameNumbersByFirstAppearance", spec := "fnNameNumbersByFirstAppearance", apart := false }
def FnNameNumbersByFirstAppearanceSaid : Prop := fnNameNumbersByFirstAppearanceRow.holds Try.pinned (OpenSpec.ofChange fnNameNumbersByFirstAppearanceSpec)

/-- ITS FALSE NEIGHBOUR: 'it returns false'. Refute it at one input. -/
def fnNameNumbersByFirstAppearanceWrong : ChangeSpec := { name := "fnNameNumbersByFirstAppearance", fn := fun _ => fun
  | [d] => { results := [.lit (.bool false)], args := [d] }
  | _ => none }
def FnNameNumbersByFirstAppearanceWrongFalsely : Prop := fnNameNumbersByFirstAppearanceRow.holds Try.pinned (OpenSpec.ofChange fnNameNumbersByFirstAppearanceWrong)

/-- 'zzlaws_root_b1.FnNameIdsStayPut': WHATEVER THE INPUT: true; the input reads as it did. -/
def fnNameIdsStayPutSpec : ChangeSpec := { name := "fnNameIdsStayPut", fn := fun _ => fun
  | [d1, d2] => { results := [.lit (.bool true)], args := [d1, d2] }
  | _ => none }
def fnNameIdsStayPutRow : OpenClaim := { program := "qxb6000977a", sum := "8f7fce2cdf4bca9f4e5203c7a551210fb0b7feadd4bc6ee8c8772e72daf31684", func := "example.com/agio-ledger/agio-ledger/zzlaws_root_b1.FnNameIdsStayPut", spec := "fnNameIdsStayPut", apart := false }
def FnNameIdsStayPutSaid : Prop := fnNameIdsStayPutRow.holds Try.pinned (OpenSpec.ofChange fnNameIdsStayPutSpec)

/-- ITS FALSE NEIGHBOUR: 'it returns false'. Refute it at one input. -/
def fnNameIdsStayPutWrong : ChangeSpec := { name := "fnNameIdsStayPut", fn := fun _ => fun
  | [d1, d2] => { results := [.lit (.bool false)], args := [d1, d2] }
  | _ => none }
def FnNameIdsStayPutWrongFalsely : Prop := fnNameIdsStayPutRow.holds Try.pinned (OpenSpec.ofChange fnNameIdsStayPutWrong)

/-- 'zzlaws_root_b1.FnCutForgetsWhatCameAfterTheMark': WHATEVER THE INPUT: true; the input reads as it did. -/
def fnCutForgetsWhatCameAfterTheMarkSpec : ChangeSpec := { name := "fnCutForgetsWhatCameAfterTheMark", fn := fun _ => fun
  | [d1, d2, d3] => { results := [.lit (.bool true)], args := [d1, d2, d3] }
  | _ => none }
def fnCutForgetsWhatCameAfterTheMarkRow : OpenClaim := { program := "qxb6000977a", sum := "8f7fce2cdf4bca9f4e5203c7a551210fb0b7feadd4bc6ee8c8772e72daf31684", func := "example.com/agio-ledger/agio-ledger/zzlaws_root_b1.FnCutForgetsWhatCameAfterTheMark", spec := "fnCutForgetsWhatCameAfterTheMark", apart := false }
def FnCutForgetsWhatCameAfterTheMarkSaid : Prop := fnCutForgetsWhatCameAfterTheMarkRow.holds Try.pinned (OpenSpec.ofChange fnCutForgetsWhatCameAfterTheMarkSpec)

/-- ITS FALSE NEIGHBOUR: 'it returns false'. Refute it at one input. -/
def fnCutForgetsWhatCameAfterTheMarkWrong : ChangeSpec := { name := "fnCutForgetsWhatCameAfterTheMark", fn := fun _ => fun
  | [d1, d2, d3] => { results := [.lit (.bool false)], args := [d1, d2, d3] }
  | _ => none }
def FnCutForgetsWhatCameAfterTheMarkWrongFalsely : Prop := fnCutForgetsWhatCameAfterTheMarkRow.holds Try.pinned (OpenSpec.ofChange fnCutForgetsWhatCameAfterTheMarkWrong)

/-- 'zzlaws_root_b1.FnCutAgainToOneMark': WHATEVER THE INPUT: true; the input reads as it did. -/
def fnCutAgainToOneMarkSpec : ChangeSpec := { name := "fnCutAgainToOneMark", fn := fun _ => fun
  | [d1, d2, d3, d4] => { results := [.lit (.bool true)], args := [d1, d2, d3, d4] }
  | _ => none }
def fnCutAgainToOneMarkRow : OpenClaim := { program := "qxb6000977a", sum := "8f7fce2cdf4bca9f4e5203c7a551210fb0b7feadd4bc6ee8c8772e72daf31684", func := "example.com/agio-ledger/agio-ledger/zzlaws_root_b1.FnCutAgainToOneMark", spec := "fnCutAgainToOneMark", apart := false }
def FnCutAgainToOneMarkSaid : Prop := fnCutAgainToOneMarkRow.holds Try.pinned (OpenSpec.ofChange fnCutAgainToOneMarkSpec)

/-- ITS FALSE NEIGHBOUR: 'it returns false'. Refute it at one input. -/
def fnCutAgainToOneMarkWrong : ChangeSpec := { name := "fnCutAgainToOneMark", fn := fun _ => fun
  | [d1, d2, d3, d4] => { results := [.lit (.bool false)], args := [d1, d2, d3, d4] }
  | _ => none }
def FnCutAgainToOneMarkWrongFalsely : Prop := fnCutAgainToOneMarkRow.holds Try.pinned (OpenSpec.ofChange fnCutAgainToOneMarkWrong)

end Rows
end Go.Proofs.Qxb6000977a
