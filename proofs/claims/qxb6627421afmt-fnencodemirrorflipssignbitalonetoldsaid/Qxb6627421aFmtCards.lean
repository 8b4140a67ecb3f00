/-
  DERIVED. GIVEN WITH THE SEED: THE CARDS: each row of Qxb6627421aFmtRows.lean that lists a variable, with what it lists TIED to the program's text (the seventh form; the later family's looks); each row that meets fmt, with fmt's text TOLD by the authors' own Lean function (tested against real Go, not proved from fmt's source: count such statements apart). THE CARD IS WHAT COUNTS. Prove the row's statement (the work); the ties are given (Qxb6627421aFmtTie.lean); close each card by the builder's one call (the guide's Derived/Test/ToyasCard.lean, 'card_holds'). Laid BY PROGRAM, IN A SANDBOX (cutbox-door.mjs). By AI agents, Wed Nov 11 2026. No macro, syntax, notation, axiom, sorry.
-/
import Derived.Test.Qxb6627421aFmtRows
import GoSem.ClaimSeven
namespace Go.Proofs.Qxb6627421aFmt
namespace Rows

/-- THE TOLD CARD OF 'zzlaws_rtp_b1.FnEncodeIsDecisionIntervalCount'. -/
def fnEncodeIsDecisionIntervalCountCard : Claim7 := { stood := { row := fnEncodeIsDecisionIntervalCountRow, standIns := [], harness := (true, "fd07d839b167c0631a11ef8ed1ecd4ae8dc994df2789ebbca1bc0fc744905b29"), looks := false }, told := true, goes := false }
def FnEncodeIsDecisionIntervalCountToldSaid : Prop := Claim7.holds Tryf.pinned (.plain (OpenSpec.ofChange fnEncodeIsDecisionIntervalCountSpec)) fnEncodeIsDecisionIntervalCountCard
/-- ITS FALSE NEIGHBOUR. Refute it at one input. -/
def FnEncodeIsDecisionIntervalCountToldWrongFalsely : Prop := Claim7.holds Tryf.pinned (.plain (OpenSpec.ofChange fnEncodeIsDecisionIntervalCountWrong)) fnEncodeIsDecisionIntervalCountCard

/-- THE TOLD CARD OF 'zzlaws_rtp_b1.FnEncodeMirrorFlipsSignBitAlone'. -/
def fnEncodeMirrorFlipsSignBitAloneCard : Claim7 := { stood := { row := fnEncodeMirrorFlipsSignBitAloneRow, standIns := [], harness := (true, "fd07d839b167c0631a11ef8ed1ecd4ae8dc994df2789ebbca1bc0fc744905b29"), looks := false }, told := true, goes := false }
def FnEncodeMirrorFlipsSignBitAloneToldSaid : Prop := Claim7.holds Tryf.pinned (.plain (OpenSpec.ofChange fnEncodeMirrorFlipsSignBitAloneSpec)) fnEncodeMirrorFlipsSignBitAloneCard
/-- ITS FALSE NEIGHBOUR. Refute it at one input. -/
def FnEncodeMirrorFlipsSignBitAloneToldWrongFalsely : Prop := Claim7.holds Tryf.pinned (.plain (OpenSpec.ofChange fnEncodeMirrorFlipsSignBitAloneWrong)) fnEncodeMirrorFlipsSignBitAloneCard
end Rows
end Go.Proofs.Qxb6627421aFmt
