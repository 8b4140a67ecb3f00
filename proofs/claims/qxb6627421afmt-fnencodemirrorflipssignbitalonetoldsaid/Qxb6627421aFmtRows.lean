/-
  No cell of these rows narrows 'for every input' (looked for: loops, veiled, ifaces, maps, wideKeys, modest, calm, conditions, laid).
  DERIVED. THE GIVEN ROWS OF THIS SEAT. 2 by the template 'for every input the law returns true; each argument reads behind the call as it read before'; 0 by the template 'total and deterministic' (their statements: Qxb6627421aFmtTotals.lean).
  GIVEN WITH THE SEED: the statements are not yours to turn. If you find one false, say at which input.
  Laid BY PROGRAM, IN A SANDBOX (cutbox-rows.mjs): the forced cells as the released guide's own fill.sh prints them over the translation 9d813cf5f5381fd5… (all of the seat's roots in one cut). By AI agents, Wed Nov 11 2026. No macro, syntax, notation, axiom, sorry.
-/
import Derived.Test.Qxb6627421aFmtChecked
import GoSem.Claim
import GoSem.ClaimJoined
import GoSem.ClaimMapViews
import Derived.JoinedTies
import Derived.KernelRfl
namespace Go.Proofs.Qxb6627421aFmt
/- THE CELL 'sum', in the pinned program and in every row, IS THE sha256 OF THE DUMP (.gsa) THAT Qxb6627421aFmtProg.lean LOADS. Nothing in Lean hashes anything: it is a label: what it is worth is what the hold of that sum in a sandbox is worth. -/
noncomputable def Tryf.pinned : Pinned := { name := "qxb6627421afmt", sum := "9d813cf5f5381fd508582a61031cd577d3118d24615b85461d151bc81a8238c0", checked := Tryf.checked }
namespace Rows
def none {H : Type} : Left H := { results := [], args := [] }

/-- 'zzlaws_rtp_b1.FnEncodeIsDecisionIntervalCount': WHATEVER THE INPUT: true; the input reads as it did. -/
def fnEncodeIsDecisionIntervalCountSpec : ChangeSpec := { name := "fnEncodeIsDecisionIntervalCount", fn := fun _ => fun
  | [d1, d2] => { results := [.lit (.bool true)], args := [d1, d2] }
  | _ => none }
def fnEncodeIsDecisionIntervalCountRow : OpenClaim := { program := "qxb6627421afmt", sum := "9d813cf5f5381fd508582a61031cd577d3118d24615b85461d151bc81a8238c0", func := "example.com/vouchline/vouchline/zzlaws_rtp_b1.FnEncodeIsDecisionIntervalCount", spec := "fnEncodeIsDecisionIntervalCount", stops := ["fmt.Sprintf"], inPlace := ["fmt.Sprintf"], unfollowed := true, recurses := true, apart := false }
/-- NO THEOREM (fmt's text is open here; it may be false): for the released tool's asking of the row's closed facts alone. THE STATEMENT IS 'FnEncodeIsDecisionIntervalCountToldSaid' (Qxb6627421aFmtCards.lean). -/
def FnEncodeIsDecisionIntervalCountFormAsk : Prop := fnEncodeIsDecisionIntervalCountRow.holds Tryf.pinned (OpenSpec.ofChange fnEncodeIsDecisionIntervalCountSpec)

/-- ITS FALSE NEIGHBOUR: 'it returns false'. Refute it at one input. -/
def fnEncodeIsDecisionIntervalCountWrong : ChangeSpec := { name := "fnEncodeIsDecisionIntervalCount", fn := fun _ => fun
  | [d1, d2] => { results := [.lit (.bool false)], args := [d1, d2] }
  | _ => none }
def FnEncodeIsDecisionIntervalCountWrongFormAsk : Prop := fnEncodeIsDecisionIntervalCountRow.holds Tryf.pinned (OpenSpec.ofChange fnEncodeIsDecisionIntervalCountWrong)

/-- 'zzlaws_rtp_b1.FnEncodeMirrorFlipsSignBitAlone': WHATEVER THE INPUT: true; the input reads as it did. -/
def fnEncodeMirrorFlipsSignBitAloneSpec : ChangeSpec := { name := "fnEncodeMirrorFlipsSignBitAlone", fn := fun _ => fun
  | [d1, d2] => { results := [.lit (.bool true)], args := [d1, d2] }
  | _ => none }
def fnEncodeMirrorFlipsSignBitAloneRow : OpenClaim := { program := "qxb6627421afmt", sum := "9d813cf5f5381fd508582a61031cd577d3118d24615b85461d151bc81a8238c0", func := "example.com/vouchline/vouchline/zzlaws_rtp_b1.FnEncodeMirrorFlipsSignBitAlone", spec := "fnEncodeMirrorFlipsSignBitAlone", stops := ["fmt.Sprintf"], inPlace := ["fmt.Sprintf"], unfollowed := true, recurses := true, apart := false }
/-- NO THEOREM (fmt's text is open here; it may be false): for the released tool's asking of the row's closed facts alone. THE STATEMENT IS 'FnEncodeMirrorFlipsSignBitAloneToldSaid' (Qxb6627421aFmtCards.lean). -/
def FnEncodeMirrorFlipsSignBitAloneFormAsk : Prop := fnEncodeMirrorFlipsSignBitAloneRow.holds Tryf.pinned (OpenSpec.ofChange fnEncodeMirrorFlipsSignBitAloneSpec)

/-- ITS FALSE NEIGHBOUR: 'it returns false'. Refute it at one input. -/
def fnEncodeMirrorFlipsSignBitAloneWrong : ChangeSpec := { name := "fnEncodeMirrorFlipsSignBitAlone", fn := fun _ => fun
  | [d1, d2] => { results := [.lit (.bool false)], args := [d1, d2] }
  | _ => none }
def FnEncodeMirrorFlipsSignBitAloneWrongFormAsk : Prop := fnEncodeMirrorFlipsSignBitAloneRow.holds Tryf.pinned (OpenSpec.ofChange fnEncodeMirrorFlipsSignBitAloneWrong)

end Rows
end Go.Proofs.Qxb6627421aFmt
