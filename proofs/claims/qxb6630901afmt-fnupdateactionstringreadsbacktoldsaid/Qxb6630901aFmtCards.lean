/-
  DERIVED. GIVEN WITH THE SEED: THE CARDS: each row of Qxb6630901aFmtRows.lean that lists a variable, with what it lists TIED to the program's text (the seventh form; the later family's looks); each row that meets fmt, with fmt's text TOLD by the authors' own Lean function (tested against real Go, not proved from fmt's source: count such statements apart). THE CARD IS WHAT COUNTS. Prove the row's statement (the work); the ties are given (Qxb6630901aFmtTie.lean); close each card by the builder's one call (the guide's Derived/Test/ToyasCard.lean, 'card_holds'). Laid BY PROGRAM, IN A SANDBOX (cutbox-door.mjs). By AI agents, Wed Nov 11 2026. No macro, syntax, notation, axiom, sorry.
-/
import Derived.Test.Qxb6630901aFmtRows
import GoSem.ClaimSeven
namespace Go.Proofs.Qxb6630901aFmt
namespace Rows

/-- THE TOLD CARD OF 'zzlaws_enrp_b1.FnUpdateActionStringNamesEachActionApart'. -/
def fnUpdateActionStringNamesEachActionApartCard : Claim7 := { stood := { row := fnUpdateActionStringNamesEachActionApartRow, standIns := [], harness := (true, "a9be4784c914968628b456f59bc7e5d90cace126d99a84eb56cd749326f2d4af"), looks := false }, told := true, goes := false }
def FnUpdateActionStringNamesEachActionApartToldSaid : Prop := Claim7.holds Tryf.pinned (.plain (OpenSpec.ofChange fnUpdateActionStringNamesEachActionApartSpec)) fnUpdateActionStringNamesEachActionApartCard
/-- ITS FALSE NEIGHBOUR. Refute it at one input. -/
def FnUpdateActionStringNamesEachActionApartToldWrongFalsely : Prop := Claim7.holds Tryf.pinned (.plain (OpenSpec.ofChange fnUpdateActionStringNamesEachActionApartWrong)) fnUpdateActionStringNamesEachActionApartCard

/-- THE TOLD CARD OF 'zzlaws_enrp_b1.FnUpdateActionStringReadsBack'. -/
def fnUpdateActionStringReadsBackCard : Claim7 := { stood := { row := fnUpdateActionStringReadsBackRow, standIns := [], harness := (true, "a9be4784c914968628b456f59bc7e5d90cace126d99a84eb56cd749326f2d4af"), looks := false }, told := true, goes := false }
def FnUpdateActionStringReadsBackToldSaid : Prop := Claim7.holds Tryf.pinned (.plain (OpenSpec.ofChange fnUpdateActionStringReadsBackSpec)) fnUpdateActionStringReadsBackCard
/-- ITS FALSE NEIGHBOUR. Refute it at one input. -/
def FnUpdateActionStringReadsBackToldWrongFalsely : Prop := Claim7.holds Tryf.pinned (.plain (OpenSpec.ofChange fnUpdateActionStringReadsBackWrong)) fnUpdateActionStringReadsBackCard
end Rows
end Go.Proofs.Qxb6630901aFmt
