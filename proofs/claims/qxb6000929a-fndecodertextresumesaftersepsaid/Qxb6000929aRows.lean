/-
  No cell of these rows narrows 'for every input' (looked for: loops, veiled, ifaces, maps, wideKeys, modest, calm, conditions, laid).
  DERIVED. THE GIVEN ROWS OF THIS SEAT. 2 by the template 'for every input the law returns true; each argument reads behind the call as it read before'; 0 by the template 'total and deterministic' (their statements: Qxb6000929aTotals.lean).
  GIVEN WITH THE SEED: the statements are not yours to turn. If you find one false, say at which input.
  Laid BY PROGRAM, IN A SANDBOX (cutbox-rows.mjs): the forced cells as the released guide's own fill.sh prints them over the translation aaa0b80dea688491… (all of the seat's roots in one cut). By AI agents, Wed Nov 11 2026. No macro, syntax, notation, axiom, sorry.
-/
import Derived.Test.Qxb6000929aChecked
import GoSem.Claim
import GoSem.ClaimJoined
import GoSem.ClaimMapViews
import Derived.JoinedTies
import Derived.KernelRfl
namespace Go.Proofs.Qxb6000929a
/- THE CELL 'sum', in the pinned program and in every row, IS THE sha256 OF THE DUMP (.gsa) THAT Qxb6000929aProg.lean LOADS. Nothing in Lean hashes anything: it is a label: what it is worth is what the hold of that sum in a sandbox is worth. -/
noncomputable def Try.pinned : Pinned := { name := "qxb6000929a", sum := "aaa0b80dea6884913f9030ff6b4ed7963a2c39a177e3cb9d904a9ee4a0d374b7", checked := Try.checked }
namespace Rows
def none {H : Type} : Left H := { results := [], args := [] }

/-- 'zzlaws_internal_tpcc_b1.FnDecoderTextSplitsAtEverySep': WHATEVER THE INPUT: true; the input reads as it did. -/
def fnDecoderTextSplitsAtEverySepSpec : ChangeSpec := { name := "fnDecoderTextSplitsAtEverySep", fn := fun _ => fun
  | [d] => { results := [.lit (.bool true)], args := [d] }
  | _ => none }
def fnDecoderTextSplitsAtEverySepRow : OpenClaim := { program := "qxb6000929a", sum := "aaa0b80dea6884913f9030ff6b4ed7963a2c39a177e3cb9d904a9ee4a0d374b7", func := "example.com/forelock/forelock/zzlaws_internal_tpcc_b1.FnDecoderTextSplitsAtEverySep", spec := "fnDecoderTextSplitsAtEverySep", inPlace := ["internal/bytealg.IndexByteString"], apart := false }
def FnDecoderTextSplitsAtEverySepSaid : Prop := fnDecoderTextSplitsAtEverySepRow.holds Try.pinned (OpenSpec.ofChange fnDecoderTextSplitsAtEverySepSpec)

/-- ITS FALSE NEIGHBOUR: 'it returns false'. Refute it at one input. -/
def fnDecoderTextSplitsAtEverySepWrong : ChangeSpec := { name := "fnDecoderTextSplitsAtEverySep", fn := fun _ => fun
  | [d] => { results := [.lit (.bool false)], args := [d] }
  | _ => none }
def FnDecoderTextSplitsAtEverySepWrongFalsely : Prop := fnDecoderTextSplitsAtEverySepRow.holds Try.pinned (OpenSpec.ofChange fnDecoderTextSplitsAtEverySepWrong)

/-- 'zzlaws_internal_tpcc_b1.FnDecoderTextResumesAfterSep': WHATEVER THE INPUT: true; the input reads as it did. -/
def fnDecoderTextResumesAfterSepSpec : ChangeSpec := { name := "fnDecoderTextResumesAfterSep", fn := fun _ => fun
  | [d] => { results := [.lit (.bool true)], args := [d] }
  | _ => none }
def fnDecoderTextResumesAfterSepRow : OpenClaim := { program := "qxb6000929a", sum := "aaa0b80dea6884913f9030ff6b4ed7963a2c39a177e3cb9d904a9ee4a0d374b7", func := "example.com/forelock/forelock/zzlaws_internal_tpcc_b1.FnDecoderTextResumesAfterSep", spec := "fnDecoderTextResumesAfterSep", inPlace := ["internal/bytealg.IndexByteString"], apart := false }
def FnDecoderTextResumesAfterSepSaid : Prop := fnDecoderTextResumesAfterSepRow.holds Try.pinned (OpenSpec.ofChange fnDecoderTextResumesAfterSepSpec)

/-- ITS FALSE NEIGHBOUR: 'it returns false'. Refute it at one input. -/
def fnDecoderTextResumesAfterSepWrong : ChangeSpec := { name := "fnDecoderTextResumesAfterSep", fn := fun _ => fun
  | [d] => { results := [.lit (.bool false)], args := [d] }
  | _ => none }
def FnDecoderTextResumesAfterSepWrongFalsely : Prop := fnDecoderTextResumesAfterSepRow.holds Try.pinned (OpenSpec.ofChange fnDecoderTextResumesAfterSepWrong)

end Rows
end Go.Proofs.Qxb6000929a
