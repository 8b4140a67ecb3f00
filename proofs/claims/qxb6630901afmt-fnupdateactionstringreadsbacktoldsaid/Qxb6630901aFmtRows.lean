/-
  No cell of these rows narrows 'for every input' (looked for: loops, veiled, ifaces, maps, wideKeys, modest, calm, conditions, laid).
  DERIVED. THE GIVEN ROWS OF THIS SEAT. 2 by the template 'for every input the law returns true; each argument reads behind the call as it read before'; 0 by the template 'total and deterministic' (their statements: Qxb6630901aFmtTotals.lean).
  GIVEN WITH THE SEED: the statements are not yours to turn. If you find one false, say at which input.
  Laid BY PROGRAM, IN A SANDBOX (cutbox-rows.mjs): the forced cells as the released guide's own fill.sh prints them over the translation 7b6efa647ce62ff6… (all of the seat's roots in one cut). By AI agents, Wed Nov 11 2026. No macro, syntax, notation, axiom, sorry.
-/
import Derived.Test.Qxb6630901aFmtChecked
import GoSem.Claim
import GoSem.ClaimJoined
import GoSem.ClaimMapViews
import Derived.JoinedTies
import Derived.KernelRfl
namespace Go.Proofs.Qxb6630901aFmt
/- THE CELL 'sum', in the pinned program and in every row, IS THE sha256 OF THE DUMP (.gsa) THAT Qxb6630901aFmtProg.lean LOADS. Nothing in Lean hashes anything: it is a label: what it is worth is what the hold of that sum in a sandbox is worth. -/
noncomputable def Tryf.pinned : Pinned := { name := "qxb6630901afmt", sum := "7b6efa647ce62ff6b6e5762718409fa9679a19d830c262629e30655128dc7799", checked := Tryf.checked }
namespace Rows
def none {H : Type} : Left H := { results := [], args := [] }

/-- 'zzlaws_enrp_b1.FnUpdateActionStringNamesEachActionApart': WHATEVER THE INPUT: true; the input reads as it did. -/
def fnUpdateActionStringNamesEachActionApartSpec : ChangeSpec := { name := "fnUpdateActionStringNamesEachActionApart", fn := fun _ => fun
  | [d1, d2] => { results := [.lit (.bool true)], args := [d1, d2] }
  | _ => none }
def fnUpdateActionStringNamesEachActionApartRow : OpenClaim := { program := "qxb6630901afmt", sum := "7b6efa647ce62ff6b6e5762718409fa9679a19d830c262629e30655128dc7799", func := "example.com/poolwarden/poolwarden/zzlaws_enrp_b1.FnUpdateActionStringNamesEachActionApart", spec := "fnUpdateActionStringNamesEachActionApart", stops := ["fmt.Sprintf"], inPlace := ["fmt.Sprintf"], apart := false }
/-- NO THEOREM (fmt's text is open here; it may be false): for the released tool's asking of the row's closed facts alone. THE STATEMENT IS 'FnUpdateActionStringNamesEachActionApartToldSaid' (Qxb6630901aFmtCards.lean). -/
def FnUpdateActionStringNamesEachActionApartFormAsk : Prop := fnUpdateActionStringNamesEachActionApartRow.holds Tryf.pinned (OpenSpec.ofChange fnUpdateActionStringNamesEachActionApartSpec)

/-- ITS FALSE NEIGHBOUR: 'it returns false'. Refute it at one input. -/
def fnUpdateActionStringNamesEachActionApartWrong : ChangeSpec := { name := "fnUpdateActionStringNamesEachActionApart", fn := fun _ => fun
  | [d1, d2] => { results := [.lit (.bool false)], args := [d1, d2] }
  | _ => none }
def FnUpdateActionStringNamesEachActionApartWrongFormAsk : Prop := fnUpdateActionStringNamesEachActionApartRow.holds Tryf.pinned (OpenSpec.ofChange fnUpdateActionStringNamesEachActionApartWrong)

/-- 'zzlaws_enrp_b1.FnUpdateActionStringReadsBack': WHATEVER THE INPUT: true; the input reads as it did. -/
def fnUpdateActionStringReadsBackSpec : ChangeSpec := { name := "fnUpdateActionStringReadsBack", fn := fun _ => fun
  | [d] => { results := [.lit (.bool true)], args := [d] }
  | _ => none }
def fnUpdateActionStringReadsBackRow : OpenClaim := { program := "qxb6630901afmt", sum := "7b6efa647ce62ff6b6e5762718409fa9679a19d830c262629e30655128dc7799", func := "example.com/poolwarden/poolwarden/zzlaws_enrp_b1.FnUpdateActionStringReadsBack", spec := "fnUpdateActionStringReadsBack", stops := ["fmt.Sprintf"], inPlace := ["fmt.Sprintf"], apart := false }
/-- NO THEOREM (fmt's text is open here; it may be false): for the released tool's asking of the row's closed facts alone. THE STATEMENT IS 'FnUpdateActionStringReadsBackToldSaid' (Qxb6630901aFmtCards.lean). -/
def FnUpdateActionStringReadsBackFormAsk : Prop := fnUpdateActionStringReadsBackRow.holds Tryf.pinned (OpenSpec.ofChange fnUpdateActionStringReadsBackSpec)

/-- ITS FALSE NEIGHBOUR: 'it returns false'. Refute it at one input. -/
def fnUpdateActionStringReadsBackWrong : ChangeSpec := { name := "fnUpdateActionStringReadsBack", fn := fun _ => fun
  | [d] => { results := [.lit (.bool false)], args := [d] }
  | _ => none }
def FnUpdateActionStringReadsBackWrongFormAsk : Prop := fnUpdateActionStringReadsBackRow.holds Tryf.pinned (OpenSpec.ofChange fnUpdateActionStringReadsBackWrong)

end Rows
end Go.Proofs.Qxb6630901aFmt
