/-
  DERIVED. GIVEN WITH THE SEED: THE CARDS: each row of Qxb6612176aDoorRows.lean that lists a variable, with what it lists TIED to the program's text (the seventh form; the later family's looks); each row that meets fmt, with fmt's text TOLD by the authors' own Lean function (tested against real Go, not proved from fmt's source: count such statements apart). THE CARD IS WHAT COUNTS. Prove the row's statement (the work); the ties are given (Qxb6612176aDoorTie.lean); close each card by the builder's one call (the guide's Derived/Test/ToyasCard.lean, 'card_holds'). Laid BY PROGRAM, IN A SANDBOX (cutbox-door.mjs). By AI agents, Wed Nov 11 2026. No macro, syntax, notation, axiom, sorry.
-/
import Derived.Test.Qxb6612176aDoorRows
import GoSem.ClaimSeven
namespace Go.Proofs.Qxb6612176aDoor
namespace Rows

/-- THE TIED CARD OF 'zzlaws_pkg_fga_b1.FnNewVariablesCaseTable'. -/
def fnNewVariablesCaseTableCard : Claim7 := { stood := { row := fnNewVariablesCaseTableRow, standIns := [], harness := (true, "b46baf937cd2f4bae09ee36dae22959e55228aa3840abfff1eff03259d1c90db"), looks := false }, kinds := [], alts := [], laidByText := true, laidKinds := [.data, .data, .data], laidTests := true, laidLooks := .later }
def FnNewVariablesCaseTableCardSaid : Prop := Claim7.holds Tryd.pinned (.plain (OpenSpec.ofChange fnNewVariablesCaseTableSpec)) fnNewVariablesCaseTableCard
end Rows
end Go.Proofs.Qxb6612176aDoor
