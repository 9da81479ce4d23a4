/-
  No cell of these rows narrows 'for every input' (looked for: loops, veiled, ifaces, maps, wideKeys, modest, calm, conditions, laid).
  DERIVED. THE GIVEN ROWS OF THIS SEAT. 7 by the template 'for every input the law returns true; each argument reads behind the call as it read before'; 0 by the template 'total and deterministic' (their statements: Qxb6001104aTotals.lean).
  GIVEN WITH THE SEED: the statements are not yours to turn. If you find one false, say at which input.
  Laid BY PROGRAM, IN A SANDBOX (cutbox-rows.mjs): the forced cells as the released guide's own fill.sh prints them over the translation 90bab7b8a68b9713… (all of the seat's roots in one cut). By AI agents, Wed Nov 11 2026. No macro, syntax, notation, axiom, sorry.
-/
import Derived.Test.Qxb6001104aChecked
import GoSem.Claim
import GoSem.ClaimJoined
import GoSem.ClaimMapViews
import Derived.JoinedTies
import Derived.KernelRfl
namespace Go.Proofs.Qxb6001104a
/- THE CELL 'sum', in the pinned program and in every row, IS THE sha256 OF THE DUMP (.gsa) THAT Qxb6001104aProg.lean LOADS. Nothing in Lean hashes anything: it is a label: what it is worth is what the hold of that sum in a sandbox is worth. -/
noncomputable def Try.pinned : Pinned := { name := "qxb6001104a", sum := "90bab7b8a68b971367195215bba843ebeaf7fb19e0864fe6583122ea7a3189c7", checked := Try.checked }
namespace Rows
def none {H : Type} : Left H := { results := [], args := [] }

/-- 'zzlaws_internal_filing_b1.FnDeclarationsRejoinWithoutComments': WHATEVER THE INPUT: true; the input reads as it did. -/
def fnDeclarationsRejoinWithoutCommentsSpec : ChangeSpec := { name := "fnDeclarationsRejoinWithoutComments", fn := fun _ => fun
  | [d] => { results := [.lit (.bool true)], args := [d] }
  | _ => none }
def fnDeclarationsRejoinWithoutCommentsRow : OpenClaim := { program := "qxb6001104a", sum := "90bab7b8a68b971367195215bba843ebeaf7fb19e0864fe6583122ea7a3189c7", func := "example.com/termwright/termwright/zzlaws_internal_filing_b1.FnDeclarationsRejoinWithoutComments", spec := "fnDeclarationsRejoinWithoutComments", inPlace := ["internal/abi.NoEscape", "internal/bytealg.IndexByteString", "internal/bytealg.IndexString"], named := ["internal/bytealg.MaxLen"], apart := false }
def FnDeclarationsRejoinWithoutCommentsSaid : Prop := fnDeclarationsRejoinWithoutCommentsRow.holds Try.pinned (OpenSpec.ofChange fnDeclarationsRejoinWithoutCommentsSpec)

/-- ITS FALSE NEIGHBOUR: 'it returns false'. Refute it at one input. -/
def fnDeclarationsRejoinWithoutCommentsWrong : ChangeSpec := { name := "fnDeclarationsRejoinWithoutComments", fn := fun _ => fun
  | [d] => { results := [.lit (.bool false)], args := [d] }
  | _ => none }
def FnDeclarationsRejoinWithoutCommentsWrongFalsely : Prop := fnDeclarationsRejoinWithoutCommentsRow.holds Try.pinned (OpenSpec.ofChange fnDeclarationsRejoinWithoutCommentsWrong)

/-- 'zzlaws_internal_filing_b1.FnDeclarationsNeverLonger': WHATEVER THE INPUT: true; the input reads as it did. -/
def fnDeclarationsNeverLongerSpec : ChangeSpec := { name := "fnDeclarationsNeverLonger", fn := fun _ => fun
  | [d] => { results := [.lit (.bool true)], args := [d] }
  | _ => none }
def fnDeclarationsNeverLongerRow : OpenClaim := { program := "qxb6001104a", sum := "90bab7b8a68b971367195215bba843ebeaf7fb19e0864fe6583122ea7a3189c7", func := "example.com/termwright/termwright/zzlaws_internal_filing_b1.FnDeclarationsNeverLonger", spec := "fnDeclarationsNeverLonger", inPlace := ["internal/abi.NoEscape", "internal/bytealg.IndexByteString", "internal/bytealg.IndexString"], named := ["internal/bytealg.MaxLen"], apart := false }
def FnDeclarationsNeverLongerSaid : Prop := fnDeclarationsNeverLongerRow.holds Try.pinned (OpenSpec.ofChange fnDeclarationsNeverLongerSpec)

/-- ITS FALSE NEIGHBOUR: 'it returns false'. Refute it at one input. -/
def fnDeclarationsNeverLongerWrong : ChangeSpec := { name := "fnDeclarationsNeverLonger", fn := fun _ => fun
  | [d] => { results := [.lit (.bool false)], args := [d] }
  | _ => none }
def FnDeclarationsNeverLongerWrongFalsely : Prop := fnDeclarationsNeverLongerRow.holds Try.pinned (OpenSpec.ofChange fnDeclarationsNeverLongerWrong)

/-- 'zzlaws_internal_filing_b1.FnDeclarationsLeadingCommentInvisible': WHATEVER THE INPUT: true; the input reads as it did. -/
def fnDeclarationsLeadingCommentInvisibleSpec : ChangeSpec := { name := "fnDeclarationsLeadingCommentInvisible", fn := fun _ => fun
  | [d1, d2] => { results := [.lit (.bool true)], args := [d1, d2] }
  | _ => none }
def fnDeclarationsLeadingCommentInvisibleRow : OpenClaim := { program := "qxb6001104a", sum := "90bab7b8a68b971367195215bba843ebeaf7fb19e0864fe6583122ea7a3189c7", func := "example.com/termwright/termwright/zzlaws_internal_filing_b1.FnDeclarationsLeadingCommentInvisible", spec := "fnDeclarationsLeadingCommentInvisible", inPlace := ["internal/abi.NoEscape", "internal/bytealg.IndexByteString", "internal/bytealg.IndexString"], named := ["internal/bytealg.MaxLen"], apart := false }
def FnDeclarationsLeadingCommentInvisibleSaid : Prop := fnDeclarationsLeadingCommentInvisibleRow.holds Try.pinned (OpenSpec.ofChange fnDeclarationsLeadingCommentInvisibleSpec)

/-- ITS FALSE NEIGHBOUR: 'it returns false'. Refute it at one input. -/
def fnDeclarationsLeadingCommentInvisibleWrong : ChangeSpec := { name := "fnDeclarationsLeadingCommentInvisible", fn := fun _ => fun
  | [d1, d2] => { results := [.lit (.bool false)], args := [d1, d2] }
  | _ => none }
def FnDeclarationsLeadingCommentInvisibleWrongFalsely : Prop := fnDeclarationsLeadingCommentInvisibleRow.holds Try.pinned (OpenSpec.ofChange fnDeclarationsLeadingCommentInvisibleWrong)

/-- 'zzlaws_internal_filing_b1.FnDeclarationsQuotedValueIsOne': WHATEVER THE INPUT: true; the input reads as it did. -/
def fnDeclarationsQuotedValueIsOneSpec : ChangeSpec := { name := "fnDeclarationsQuotedValueIsOne", fn := fun _ => fun
  | [d1, d2] => { results := [.lit (.bool true)], args := [d1, d2] }
  | _ => none }
def fnDeclarationsQuotedValueIsOneRow : OpenClaim := { program := "qxb6001104a", sum := "90bab7b8a68b971367195215bba843ebeaf7fb19e0864fe6583122ea7a3189c7", func := "example.com/termwright/termwright/zzlaws_internal_filing_b1.FnDeclarationsQuotedValueIsOne", spec := "fnDeclarationsQuotedValueIsOne", inPlace := ["internal/abi.NoEscape", "internal/bytealg.IndexByteString", "internal/bytealg.IndexString"], named := ["internal/bytealg.MaxLen"], apart := false }
def FnDeclarationsQuotedValueIsOneSaid : Prop := fnDeclarationsQuotedValueIsOneRow.holds Try.pinned (OpenSpec.ofChange fnDeclarationsQuotedValueIsOneSpec)

/-- ITS FALSE NEIGHBOUR: 'it returns false'. Refute it at one input. -/
def fnDeclarationsQuotedValueIsOneWrong : ChangeSpec := { name := "fnDeclarationsQuotedValueIsOne", fn := fun _ => fun
  | [d1, d2] => { results := [.lit (.bool false)], args := [d1, d2] }
  | _ => none }
def FnDeclarationsQuotedValueIsOneWrongFalsely : Prop := fnDeclarationsQuotedValueIsOneRow.holds Try.pinned (OpenSpec.ofChange fnDeclarationsQuotedValueIsOneWrong)

/-- 'zzlaws_internal_filing_b1.FnChineseNumeralRoundTrip': WHATEVER THE INPUT: true; the input reads as it did. -/
def fnChineseNumeralRoundTripSpec : ChangeSpec := { name := "fnChineseNumeralRoundTrip", fn := fun _ => fun
  | [d1, d2, d3] => { results := [.lit (.bool true)], args := [d1, d2, d3] }
  | _ => none }
def fnChineseNumeralRoundTripRow : OpenClaim := { program := "qxb6001104a", sum := "90bab7b8a68b971367195215bba843ebeaf7fb19e0864fe6583122ea7a3189c7", func := "example.com/termwright/termwright/zzlaws_internal_filing_b1.FnChineseNumeralRoundTrip", spec := "fnChineseNumeralRoundTrip", apart := false }
def FnChineseNumeralRoundTripSaid : Prop := fnChineseNumeralRoundTripRow.holds Try.pinned (OpenSpec.ofChange fnChineseNumeralRoundTripSpec)

/-- ITS FALSE NEIGHBOUR: 'it returns false'. Refute it at one input. -/
def fnChineseNumeralRoundTripWrong : ChangeSpec := { name := "fnChineseNumeralRoundTrip", fn := fun _ => fun
  | [d1, d2, d3] => { results := [.lit (.bool false)], args := [d1, d2, d3] }
  | _ => none }
def FnChineseNumeralRoundTripWrongFalsely : Prop := fnChineseNumeralRoundTripRow.holds Try.pinned (OpenSpec.ofChange fnChineseNumeralRoundTripWrong)

/-- 'zzlaws_internal_filing_b1.FnChineseNumeralShape': WHATEVER THE INPUT: true; the input reads as it did. -/
def fnChineseNumeralShapeSpec : ChangeSpec := { name := "fnChineseNumeralShape", fn := fun _ => fun
  | [d] => { results := [.lit (.bool true)], args := [d] }
  | _ => none }
def fnChineseNumeralShapeRow : OpenClaim := { program := "qxb6001104a", sum := "90bab7b8a68b971367195215bba843ebeaf7fb19e0864fe6583122ea7a3189c7", func := "example.com/termwright/termwright/zzlaws_internal_filing_b1.FnChineseNumeralShape", spec := "fnChineseNumeralShape", apart := false }
def FnChineseNumeralShapeSaid : Prop := fnChineseNumeralShapeRow.holds Try.pinned (OpenSpec.ofChange fnChineseNumeralShapeSpec)

/-- ITS FALSE NEIGHBOUR: 'it returns false'. Refute it at one input. -/
def fnChineseNumeralShapeWrong : ChangeSpec := { name := "fnChineseNumeralShape", fn := fun _ => fun
  | [d] => { results := [.lit (.bool false)], args := [d] }
  | _ => none }
def FnChineseNumeralShapeWrongFalsely : Prop := fnChineseNumeralShapeRow.holds Try.pinned (OpenSpec.ofChange fnChineseNumeralShapeWrong)

/-- 'zzlaws_internal_filing_b1.FnChineseNumeralInjective': WHATEVER THE INPUT: true; the input reads as it did. -/
def fnChineseNumeralInjectiveSpec : ChangeSpec := { name := "fnChineseNumeralInjective", fn := fun _ => fun
  | [d1, d2] => { results := [.lit (.bool true)], args := [d1, d2] }
  | _ => none }
def fnChineseNumeralInjectiveRow : OpenClaim := { program := "qxb6001104a", sum := "90bab7b8a68b971367195215bba843ebeaf7fb19e0864fe6583122ea7a3189c7", func := "example.com/termwright/termwright/zzlaws_internal_filing_b1.FnChineseNumeralInjective", spec := "fnChineseNumeralInjective", apart := false }
def FnChineseNumeralInjectiveSaid : Prop := fnChineseNumeralInjectiveRow.holds Try.pinned (OpenSpec.ofChange fnChineseNumeralInjectiveSpec)

/-- ITS FALSE NEIGHBOUR: 'it returns false'. Refute it at one input. -/
def fnChineseNumeralInjectiveWrong : ChangeSpec := { name := "fnChineseNumeralInjective", fn := fun _ => fun
  | [d1, d2] => { results := [.lit (.bool false)], args := [d1, d2] }
  | _ => none }
def FnChineseNumeralInjectiveWrongFalsely : Prop := fnChineseNumeralInjectiveRow.holds Try.pinned (OpenSpec.ofChange fnChineseNumeralInjectiveWrong)

end Rows
end Go.Proofs.Qxb6001104a
