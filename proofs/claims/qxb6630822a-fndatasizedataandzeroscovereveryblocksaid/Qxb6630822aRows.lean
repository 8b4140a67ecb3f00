/-
  No cell of these rows narrows 'for every input' (looked for: loops, veiled, ifaces, maps, wideKeys, modest, calm, conditions, laid).
  DERIVED. THE GIVEN ROWS OF THIS SEAT. 2 by the template 'for every input the law returns true; each argument reads behind the call as it read before'; 0 by the template 'total and deterministic' (their statements: Qxb6630822aTotals.lean).
  GIVEN WITH THE SEED: the statements are not yours to turn. If you find one false, say at which input.
  Laid BY PROGRAM, IN A SANDBOX (cutbox-rows.mjs): the forced cells as the released guide's own fill.sh prints them over the translation ab5ab6c0255bf5c9… (all of the seat's roots in one cut). By AI agents, Wed Nov 11 2026. No macro, syntax, notation, axiom, sorry.
-/
import Derived.Test.Qxb6630822aChecked
import GoSem.Claim
import GoSem.ClaimJoined
import GoSem.ClaimMapViews
import Derived.JoinedTies
import Derived.KernelRfl
namespace Go.Proofs.Qxb6630822a
/- THE CELL 'sum', in the pinned program and in every row, IS THE sha256 OF THE DUMP (.gsa) THAT Qxb6630822aProg.lean LOADS. Nothing in Lean hashes anything: it is a label: what it is worth is what the hold of that sum in a sandbox is worth. -/
noncomputable def Try.pinned : Pinned := { name := "qxb6630822a", sum := "ab5ab6c0255bf5c93be75a844a244c84e4b3e60b19de0615315d10b68326e61c", checked := Try.checked }
namespace Rows
def none {H : Type} : Left H := { results := [], args := [] }

/-- 'zzlaws_internal_volume_b1.FnDataSizeInsertOneExtent': WHATEVER THE INPUT: true; the input reads as it did. -/
def fnDataSizeInsertOneExtentSpec : ChangeSpec := { name := "fnDataSizeInsertOneExtent", fn := fun _ => fun
  | [d1, d2, d3, d4, d5] => { results := [.lit (.bool true)], args := [d1, d2, d3, d4, d5] }
  | _ => none }
def fnDataSizeInsertOneExtentRow : OpenClaim := { program := "qxb6630822a", sum := "ab5ab6c0255bf5c93be75a844a244c84e4b3e60b19de0615315d10b68326e61c", func := "example.com/chainvault/chainvault/zzlaws_internal_volume_b1.FnDataSizeInsertOneExtent", spec := "fnDataSizeInsertOneExtent", apart := false }
def FnDataSizeInsertOneExtentSaid : Prop := fnDataSizeInsertOneExtentRow.holds Try.pinned (OpenSpec.ofChange fnDataSizeInsertOneExtentSpec)

/-- ITS FALSE NEIGHBOUR: 'it returns false'. Refute it at one input. -/
def fnDataSizeInsertOneExtentWrong : ChangeSpec := { name := "fnDataSizeInsertOneExtent", fn := fun _ => fun
  | [d1, d2, d3, d4, d5] => { results := [.lit (.bool false)], args := [d1, d2, d3, d4, d5] }
  | _ => none }
def FnDataSizeInsertOneExtentWrongFalsely : Prop := fnDataSizeInsertOneExtentRow.holds Try.pinned (OpenSpec.ofChange fnDataSizeInsertOneExtentWrong)

/-- 'zzlaws_internal_volume_b1.FnDataSizeDataAndZerosCoverEveryBlock': WHATEVER THE INPUT: true; the input reads as it did. -/
def fnDataSizeDataAndZerosCoverEveryBlockSpec : ChangeSpec := { name := "fnDataSizeDataAndZerosCoverEveryBlock", fn := fun _ => fun
  | [d1, d2, d3] => { results := [.lit (.bool true)], args := [d1, d2, d3] }
  | _ => none }
def fnDataSizeDataAndZerosCoverEveryBlockRow : OpenClaim := { program := "qxb6630822a", sum := "ab5ab6c0255bf5c93be75a844a244c84e4b3e60b19de0615315d10b68326e61c", func := "example.com/chainvault/chainvault/zzlaws_internal_volume_b1.FnDataSizeDataAndZerosCoverEveryBlock", spec := "fnDataSizeDataAndZerosCoverEveryBlock", apart := false }
def FnDataSizeDataAndZerosCoverEveryBlockSaid : Prop := fnDataSizeDataAndZerosCoverEveryBlockRow.holds Try.pinned (OpenSpec.ofChange fnDataSizeDataAndZerosCoverEveryBlockSpec)

/-- ITS FALSE NEIGHBOUR: 'it returns false'. Refute it at one input. -/
def fnDataSizeDataAndZerosCoverEveryBlockWrong : ChangeSpec := { name := "fnDataSizeDataAndZerosCoverEveryBlock", fn := fun _ => fun
  | [d1, d2, d3] => { results := [.lit (.bool false)], args := [d1, d2, d3] }
  | _ => none }
def FnDataSizeDataAndZerosCoverEveryBlockWrongFalsely : Prop := fnDataSizeDataAndZerosCoverEveryBlockRow.holds Try.pinned (OpenSpec.ofChange fnDataSizeDataAndZerosCoverEveryBlockWrong)

end Rows
end Go.Proofs.Qxb6630822a
