/-
  DERIVED. GIVEN WITH THE SEED: THE CARDS: each row of Qxb6630879aDoorRows.lean that lists a variable, with what it lists TIED to the program's text (the seventh form; the later family's looks); each row that meets fmt, with fmt's text TOLD by the authors' own Lean function (tested against real Go, not proved from fmt's source: count such statements apart). THE CARD IS WHAT COUNTS. Prove the row's statement (the work); the ties are given (Qxb6630879aDoorTie.lean); close each card by the builder's one call (the guide's Derived/Test/ToyasCard.lean, 'card_holds'). Laid BY PROGRAM, IN A SANDBOX (cutbox-door.mjs). By AI agents, Wed Nov 11 2026. No macro, syntax, notation, axiom, sorry.
-/
import Derived.Test.Qxb6630879aDoorRows
import GoSem.ClaimSeven
namespace Go.Proofs.Qxb6630879aDoor
namespace Rows

/-- THE TIED CARD OF 'zzlaws_internal_money_b1.FnAppendParsesBackToTheAmount'. -/
def fnAppendParsesBackToTheAmountCard : Claim7 := { stood := { row := fnAppendParsesBackToTheAmountRow, standIns := [], harness := (true, "580fffed1a89d6f634e6795b88b684b22035e6b71643ae588aca3fecc940a144"), looks := false }, kinds := [], alts := [], laidByText := true, laidKinds := [.data, .data, .data], laidTests := true, laidLooks := .later }
def FnAppendParsesBackToTheAmountCardSaid : Prop := Claim7.holds Tryd.pinned (.plain (OpenSpec.ofChange fnAppendParsesBackToTheAmountSpec)) fnAppendParsesBackToTheAmountCard

/-- THE TIED CARD OF 'zzlaws_internal_money_b1.FnAppendOrdersAsTheAmounts'. -/
def fnAppendOrdersAsTheAmountsCard : Claim7 := { stood := { row := fnAppendOrdersAsTheAmountsRow, standIns := [], harness := (true, "580fffed1a89d6f634e6795b88b684b22035e6b71643ae588aca3fecc940a144"), looks := false }, kinds := [], alts := [], laidByText := true, laidKinds := [.data, .data, .data], laidTests := true, laidLooks := .later }
def FnAppendOrdersAsTheAmountsCardSaid : Prop := Claim7.holds Tryd.pinned (.plain (OpenSpec.ofChange fnAppendOrdersAsTheAmountsSpec)) fnAppendOrdersAsTheAmountsCard
end Rows
end Go.Proofs.Qxb6630879aDoor
