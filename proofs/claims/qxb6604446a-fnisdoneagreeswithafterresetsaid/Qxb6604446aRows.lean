/-
  No cell of these rows narrows 'for every input' (looked for: loops, veiled, ifaces, maps, wideKeys, modest, calm, conditions, laid).
  DERIVED. THE GIVEN ROWS OF THIS SEAT. 4 by the template 'for every input the law returns true; each argument reads behind the call as it read before'; 0 by the template 'total and deterministic' (their statements: Qxb6604446aTotals.lean).
  GIVEN WITH THE SEED: the statements are not yours to turn. If you find one false, say at which input.
  Laid BY PROGRAM, IN A SANDBOX (cutbox-rows.mjs): the forced cells as the released guide's own fill.sh prints them over the translation 46b492780ae5defc… (all of the seat's roots in one cut). By AI agents, Wed Nov 11 2026. No macro, syntax, notation, axiom, sorry.
-/
import Derived.Test.Qxb6604446aChecked
import GoSem.Claim
import GoSem.ClaimJoined
import GoSem.ClaimMapViews
import Derived.JoinedTies
import Derived.KernelRfl
namespace Go.Proofs.Qxb6604446a
/- THE CELL 'sum', in the pinned program and in every row, IS THE sha256 OF THE DUMP (.gsa) THAT Qxb6604446aProg.lean LOADS. Nothing in Lean hashes anything: it is a label: what it is worth is what the hold of that sum in a sandbox is worth. -/
noncomputable def Try.pinned : Pinned := { name := "qxb6604446a", sum := "46b492780ae5defc8dca92e304592643f63f12371dbe917fc8243ca6f4d99420", checked := Try.checked }
namespace Rows
def none {H : Type} : Left H := { results := [], args := [] }

/-- 'zzlaws_root_b1.FnOnceStateStringTable': WHATEVER THE INPUT: true; the input reads as it did. -/
def fnOnceStateStringTableSpec : ChangeSpec := { name := "fnOnceStateStringTable", fn := fun _ => fun
  | [d] => { results := [.lit (.bool true)], args := [d] }
  | _ => none }
def fnOnceStateStringTableRow : OpenClaim := { program := "qxb6604446a", sum := "46b492780ae5defc8dca92e304592643f63f12371dbe917fc8243ca6f4d99420", func := "example.com/onelatch/onelatch/zzlaws_root_b1.FnOnceStateStringTable", spec := "fnOnceStateStringTable", inPlace := ["internal/abi.NoEscape", "internal/bytealg.MakeNoZero"], apart := false }
def FnOnceStateStringTableSaid : Prop := fnOnceStateStringTableRow.holds Try.pinned (OpenSpec.ofChange fnOnceStateStringTableSpec)

/-- ITS FALSE NEIGHBOUR: 'it returns false'. Refute it at one input. -/
def fnOnceStateStringTableWrong : ChangeSpec := { name := "fnOnceStateStringTable", fn := fun _ => fun
  | [d] => { results := [.lit (.bool false)], args := [d] }
  | _ => none }
def FnOnceStateStringTableWrongFalsely : Prop := fnOnceStateStringTableRow.holds Try.pinned (OpenSpec.ofChange fnOnceStateStringTableWrong)

/-- 'zzlaws_root_b1.FnOnceStateStringRoundTrip': WHATEVER THE INPUT: true; the input reads as it did. -/
def fnOnceStateStringRoundTripSpec : ChangeSpec := { name := "fnOnceStateStringRoundTrip", fn := fun _ => fun
  | [d] => { results := [.lit (.bool true)], args := [d] }
  | _ => none }
def fnOnceStateStringRoundTripRow : OpenClaim := { program := "qxb6604446a", sum := "46b492780ae5defc8dca92e304592643f63f12371dbe917fc8243ca6f4d99420", func := "example.com/onelatch/onelatch/zzlaws_root_b1.FnOnceStateStringRoundTrip", spec := "fnOnceStateStringRoundTrip", inPlace := ["internal/abi.NoEscape", "internal/bytealg.MakeNoZero"], apart := false }
def FnOnceStateStringRoundTripSaid : Prop := fnOnceStateStringRoundTripRow.holds Try.pinned (OpenSpec.ofChange fnOnceStateStringRoundTripSpec)

/-- ITS FALSE NEIGHBOUR: 'it returns false'. Refute it at one input. -/
def fnOnceStateStringRoundTripWrong : ChangeSpec := { name := "fnOnceStateStringRoundTrip", fn := fun _ => fun
  | [d] => { results := [.lit (.bool false)], args := [d] }
  | _ => none }
def FnOnceStateStringRoundTripWrongFalsely : Prop := fnOnceStateStringRoundTripRow.holds Try.pinned (OpenSpec.ofChange fnOnceStateStringRoundTripWrong)

/-- 'zzlaws_root_b1.FnAfterResetFlagwise': WHATEVER THE INPUT: true; the input reads as it did. -/
def fnAfterResetFlagwiseSpec : ChangeSpec := { name := "fnAfterResetFlagwise", fn := fun _ => fun
  | [d] => { results := [.lit (.bool true)], args := [d] }
  | _ => none }
def fnAfterResetFlagwiseRow : OpenClaim := { program := "qxb6604446a", sum := "46b492780ae5defc8dca92e304592643f63f12371dbe917fc8243ca6f4d99420", func := "example.com/onelatch/onelatch/zzlaws_root_b1.FnAfterResetFlagwise", spec := "fnAfterResetFlagwise", apart := false }
def FnAfterResetFlagwiseSaid : Prop := fnAfterResetFlagwiseRow.holds Try.pinned (OpenSpec.ofChange fnAfterResetFlagwiseSpec)

/-- ITS FALSE NEIGHBOUR: 'it returns false'. Refute it at one input. -/
def fnAfterResetFlagwiseWrong : ChangeSpec := { name := "fnAfterResetFlagwise", fn := fun _ => fun
  | [d] => { results := [.lit (.bool false)], args := [d] }
  | _ => none }
def FnAfterResetFlagwiseWrongFalsely : Prop := fnAfterResetFlagwiseRow.holds Try.pinned (OpenSpec.ofChange fnAfterResetFlagwiseWrong)

/-- 'zzlaws_root_b1.FnIsDoneAgreesWithAfterReset': WHATEVER THE INPUT: true; the input reads as it did. -/
def fnIsDoneAgreesWithAfterResetSpec : ChangeSpec := { name := "fnIsDoneAgreesWithAfterReset", fn := fun _ => fun
  | [d] => { results := [.lit (.bool true)], args := [d] }
  | _ => none }
def fnIsDoneAgreesWithAfterResetRow : OpenClaim := { program := "qxb6604446a", sum := "46b492780ae5defc8dca92e304592643f63f12371dbe917fc8243ca6f4d99420", func := "example.com/onelatch/onelatch/zzlaws_root_b1.FnIsDoneAgreesWithAfterReset", spec := "fnIsDoneAgreesWithAfterReset", inPlace := ["sync/atomic.StoreUint32", "sync/atomic.LoadUint32"], apart := false }
def FnIsDoneAgreesWithAfterResetSaid : Prop := fnIsDoneAgreesWithAfterResetRow.holds Try.pinned (OpenSpec.ofChange fnIsDoneAgreesWithAfterResetSpec)

/-- ITS FALSE NEIGHBOUR: 'it returns false'. Refute it at one input. -/
def fnIsDoneAgreesWithAfterResetWrong : ChangeSpec := { name := "fnIsDoneAgreesWithAfterReset", fn := fun _ => fun
  | [d] => { results := [.lit (.bool false)], args := [d] }
  | _ => none }
def FnIsDoneAgreesWithAfterResetWrongFalsely : Prop := fnIsDoneAgreesWithAfterResetRow.holds Try.pinned (OpenSpec.ofChange fnIsDoneAgreesWithAfterResetWrong)

end Rows
end Go.Proofs.Qxb6604446a
