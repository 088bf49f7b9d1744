/-
  DERIVED. GIVEN WITH THE SEED: THE CARDS: each row of Qxb6604492aDoorRows.lean that lists a variable, with what it lists TIED to the program's text (the seventh form; the later family's looks); each row that meets fmt, with fmt's text TOLD by the authors' own Lean function (tested against real Go, not proved from fmt's source: count such statements apart). THE CARD IS WHAT COUNTS. Prove the row's statement (the work); the ties are given (Qxb6604492aDoorTie.lean); close each card by the builder's one call (the guide's Derived/Test/ToyasCard.lean, 'card_holds'). Laid BY PROGRAM, IN A SANDBOX (cutbox-door.mjs). By AI agents, Wed Nov 11 2026. No macro, syntax, notation, axiom, sorry.
-/
import Derived.Test.Qxb6604492aDoorRows
import GoSem.ClaimSeven
namespace Go.Proofs.Qxb6604492aDoor
namespace Rows

/-- THE TIED CARD OF 'zzlaws_policy_b1.FnAddOfKeepsEveryProblem'. -/
def fnAddOfKeepsEveryProblemCard : Claim7 := { stood := { row := fnAddOfKeepsEveryProblemRow, standIns := [], harness := (true, "069b4d0571e1b61555a8fcd3bd31c9edd126383b0db54f6424a6cd3929b11d97"), looks := false }, kinds := [], alts := [], laidByText := true, laidKinds := [.data], laidTests := true, laidLooks := .later }
def FnAddOfKeepsEveryProblemCardSaid : Prop := Claim7.holds Tryd.pinned (.plain (OpenSpec.ofChange fnAddOfKeepsEveryProblemSpec)) fnAddOfKeepsEveryProblemCard

/-- THE TIED CARD OF 'zzlaws_policy_b1.FnAddOfTableIsFirstAppearances'. -/
def fnAddOfTableIsFirstAppearancesCard : Claim7 := { stood := { row := fnAddOfTableIsFirstAppearancesRow, standIns := [], harness := (true, "069b4d0571e1b61555a8fcd3bd31c9edd126383b0db54f6424a6cd3929b11d97"), looks := false }, kinds := [], alts := [], laidByText := true, laidKinds := [.data], laidTests := true, laidLooks := .later }
def FnAddOfTableIsFirstAppearancesCardSaid : Prop := Claim7.holds Tryd.pinned (.plain (OpenSpec.ofChange fnAddOfTableIsFirstAppearancesSpec)) fnAddOfTableIsFirstAppearancesCard
end Rows
end Go.Proofs.Qxb6604492aDoor
