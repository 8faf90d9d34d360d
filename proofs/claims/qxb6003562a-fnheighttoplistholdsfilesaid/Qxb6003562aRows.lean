/-
  No cell of these rows narrows 'for every input' (looked for: loops, veiled, ifaces, maps, wideKeys, modest, calm, conditions, laid).
  DERIVED. THE GIVEN ROWS OF THIS SEAT. 4 by the template 'for every input the law returns true; each argument reads behind the call as it read before'; 0 by the template 'total and deterministic' (their statements: Qxb6003562aTotals.lean).
  GIVEN WITH THE SEED: the statements are not yours to turn. If you find one false, say at which input.
  Laid BY PROGRAM, IN A SANDBOX (cutbox-rows.mjs): the forced cells as the released guide's own fill.sh prints them over the translation d752ac5c40ba88fa… (all of the seat's roots in one cut). By AI agents, Wed Nov 11 2026. No macro, syntax, notation, axiom, sorry.
-/
import Derived.Test.Qxb6003562aChecked
import GoSem.Claim
import GoSem.ClaimJoined
import GoSem.ClaimMapViews
import Derived.JoinedTies
import Derived.KernelRfl
namespace Go.Proofs.Qxb6003562a
/- THE CELL 'sum', in the pinned program and in every row, IS THE sha256 OF THE DUMP (.gsa) THAT Qxb6003562aProg.lean LOADS. Nothing in Lean hashes anything: it is a label: what it is worth is what the hold of that sum in a sandbox is worth. -/
noncomputable def Try.pinned : Pinned := { name := "qxb6003562a", sum := "d752ac5c40ba88fa00f81f6ba106ea86f832aff77480bdeef0388be26185e4b7", checked := Try.checked }
namespace Rows
def none {H : Type} : Left H := { results := [], args := [] }

/-- 'zzlaws_root_b2.FnHeightTopListHoldsFile': WHATEVER THE INPUT: true; the input reads as it did. -/
def fnHeightTopListHoldsFileSpec : ChangeSpec := { name := "fnHeightTopListHoldsFile", fn := fun _ => fun
  | [d1, d2, d3] => { results := [.lit (.bool true)], args := [d1, d2, d3] }
  | _ => none }
def fnHeightTopListHoldsFileRow : OpenClaim := { program := "qxb6003562a", sum := "d752ac5c40ba88fa00f81f6ba106ea86f832aff77480bdeef0388be26185e4b7", func := "example.com/ringway/ringway/zzlaws_root_b2.FnHeightTopListHoldsFile", spec := "fnHeightTopListHoldsFile", apart := false }
def FnHeightTopListHoldsFileSaid : Prop := fnHeightTopListHoldsFileRow.holds Try.pinned (OpenSpec.ofChange fnHeightTopListHoldsFileSpec)

/-- ITS FALSE NEIGHBOUR: 'it returns false'. Refute it at one input. -/
def fnHeightTopListHoldsFileWrong : ChangeSpec := { name := "fnHeightTopListHoldsFile", fn := fun _ => fun
  | [d1, d2, d3] => { results := [.lit (.bool false)], args := [d1, d2, d3] }
  | _ => none }
def FnHeightTopListHoldsFileWrongFalsely : Prop := fnHeightTopListHoldsFileRow.holds Try.pinned (OpenSpec.ofChange fnHeightTopListHoldsFileWrong)

/-- 'zzlaws_root_b2.FnHeightMonotoneInSize': WHATEVER THE INPUT: true; the input reads as it did. -/
def fnHeightMonotoneInSizeSpec : ChangeSpec := { name := "fnHeightMonotoneInSize", fn := fun _ => fun
  | [d1, d2, d3, d4] => { results := [.lit (.bool true)], args := [d1, d2, d3, d4] }
  | _ => none }
def fnHeightMonotoneInSizeRow : OpenClaim := { program := "qxb6003562a", sum := "d752ac5c40ba88fa00f81f6ba106ea86f832aff77480bdeef0388be26185e4b7", func := "example.com/ringway/ringway/zzlaws_root_b2.FnHeightMonotoneInSize", spec := "fnHeightMonotoneInSize", apart := false }
def FnHeightMonotoneInSizeSaid : Prop := fnHeightMonotoneInSizeRow.holds Try.pinned (OpenSpec.ofChange fnHeightMonotoneInSizeSpec)

/-- ITS FALSE NEIGHBOUR: 'it returns false'. Refute it at one input. -/
def fnHeightMonotoneInSizeWrong : ChangeSpec := { name := "fnHeightMonotoneInSize", fn := fun _ => fun
  | [d1, d2, d3, d4] => { results := [.lit (.bool false)], args := [d1, d2, d3, d4] }
  | _ => none }
def FnHeightMonotoneInSizeWrongFalsely : Prop := fnHeightMonotoneInSizeRow.holds Try.pinned (OpenSpec.ofChange fnHeightMonotoneInSizeWrong)

/-- 'zzlaws_root_b2.FnHeightOfLevelCapacity': WHATEVER THE INPUT: true; the input reads as it did. -/
def fnHeightOfLevelCapacitySpec : ChangeSpec := { name := "fnHeightOfLevelCapacity", fn := fun _ => fun
  | [d1, d2, d3] => { results := [.lit (.bool true)], args := [d1, d2, d3] }
  | _ => none }
def fnHeightOfLevelCapacityRow : OpenClaim := { program := "qxb6003562a", sum := "d752ac5c40ba88fa00f81f6ba106ea86f832aff77480bdeef0388be26185e4b7", func := "example.com/ringway/ringway/zzlaws_root_b2.FnHeightOfLevelCapacity", spec := "fnHeightOfLevelCapacity", apart := false }
def FnHeightOfLevelCapacitySaid : Prop := fnHeightOfLevelCapacityRow.holds Try.pinned (OpenSpec.ofChange fnHeightOfLevelCapacitySpec)

/-- ITS FALSE NEIGHBOUR: 'it returns false'. Refute it at one input. -/
def fnHeightOfLevelCapacityWrong : ChangeSpec := { name := "fnHeightOfLevelCapacity", fn := fun _ => fun
  | [d1, d2, d3] => { results := [.lit (.bool false)], args := [d1, d2, d3] }
  | _ => none }
def FnHeightOfLevelCapacityWrongFalsely : Prop := fnHeightOfLevelCapacityRow.holds Try.pinned (OpenSpec.ofChange fnHeightOfLevelCapacityWrong)

/-- 'zzlaws_root_b2.FnSpanProductLaw': WHATEVER THE INPUT: true; the input reads as it did. -/
def fnSpanProductLawSpec : ChangeSpec := { name := "fnSpanProductLaw", fn := fun _ => fun
  | [d1, d2, d3, d4] => { results := [.lit (.bool true)], args := [d1, d2, d3, d4] }
  | _ => none }
def fnSpanProductLawRow : OpenClaim := { program := "qxb6003562a", sum := "d752ac5c40ba88fa00f81f6ba106ea86f832aff77480bdeef0388be26185e4b7", func := "example.com/ringway/ringway/zzlaws_root_b2.FnSpanProductLaw", spec := "fnSpanProductLaw", apart := false }
def FnSpanProductLawSaid : Prop := fnSpanProductLawRow.holds Try.pinned (OpenSpec.ofChange fnSpanProductLawSpec)

/-- ITS FALSE NEIGHBOUR: 'it returns false'. Refute it at one input. -/
def fnSpanProductLawWrong : ChangeSpec := { name := "fnSpanProductLaw", fn := fun _ => fun
  | [d1, d2, d3, d4] => { results := [.lit (.bool false)], args := [d1, d2, d3, d4] }
  | _ => none }
def FnSpanProductLawWrongFalsely : Prop := fnSpanProductLawRow.holds Try.pinned (OpenSpec.ofChange fnSpanProductLawWrong)

end Rows
end Go.Proofs.Qxb6003562a
