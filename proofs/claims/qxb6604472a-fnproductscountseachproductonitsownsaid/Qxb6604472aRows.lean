/-
  No cell of these rows narrows 'for every input' (looked for: loops, veiled, ifaces, maps, wideKeys, modest, calm, conditions, laid).
  DERIVED. THE GIVEN ROWS OF THIS SEAT. 3 by the template 'for every input the law returns true; each argument reads behind the call as it read before'; 0 by the template 'total and deterministic' (their statements: Qxb6604472aTotals.lean).
  GIVEN WITH THE SEED: the statements are not yours to turn. If you find one false, say at which input.
  Laid BY PROGRAM, IN A SANDBOX (cutbox-rows.mjs): the forced cells as the released guide's own fill.sh prints them over the translation 6ff3aa1c25c03269… (all of the seat's roots in one cut). By AI agents, Wed Nov 11 2026. No macro, syntax, notation, axiom, sorry.
-/
import Derived.Test.Qxb6604472aChecked
import GoSem.Claim
import GoSem.ClaimJoined
import GoSem.ClaimMapViews
import Derived.JoinedTies
import Derived.KernelRfl
namespace Go.Proofs.Qxb6604472a
/- THE CELL 'sum', in the pinned program and in every row, IS THE sha256 OF THE DUMP (.gsa) THAT Qxb6604472aProg.lean LOADS. Nothing in Lean hashes anything: it is a label: what it is worth is what the hold of that sum in a sandbox is worth. -/
noncomputable def Try.pinned : Pinned := { name := "qxb6604472a", sum := "6ff3aa1c25c0326936c289fa634a695a7bb32ac3f22f4230e9f0e57d8170db12", checked := Try.checked }
namespace Rows
def none {H : Type} : Left H := { results := [], args := [] }

/-- 'zzlaws_billing_b1.FnNewSpecifiersJSONKeepsEveryField': WHATEVER THE INPUT: true; the input reads as it did. -/
def fnNewSpecifiersJSONKeepsEveryFieldSpec : ChangeSpec := { name := "fnNewSpecifiersJSONKeepsEveryField", fn := fun _ => fun
  | [d1, d2, d3, d4, d5, d6, d7] => { results := [.lit (.bool true)], args := [d1, d2, d3, d4, d5, d6, d7] }
  | _ => none }
def fnNewSpecifiersJSONKeepsEveryFieldRow : OpenClaim := { program := "qxb6604472a", sum := "6ff3aa1c25c0326936c289fa634a695a7bb32ac3f22f4230e9f0e57d8170db12", func := "example.com/ledgerline/ledgerline/zzlaws_billing_b1.FnNewSpecifiersJSONKeepsEveryField", spec := "fnNewSpecifiersJSONKeepsEveryField", apart := false }
def FnNewSpecifiersJSONKeepsEveryFieldSaid : Prop := fnNewSpecifiersJSONKeepsEveryFieldRow.holds Try.pinned (OpenSpec.ofChange fnNewSpecifiersJSONKeepsEveryFieldSpec)

/-- ITS FALSE NEIGHBOUR: 'it returns false'. Refute it at one input. -/
def fnNewSpecifiersJSONKeepsEveryFieldWrong : ChangeSpec := { name := "fnNewSpecifiersJSONKeepsEveryField", fn := fun _ => fun
  | [d1, d2, d3, d4, d5, d6, d7] => { results := [.lit (.bool false)], args := [d1, d2, d3, d4, d5, d6, d7] }
  | _ => none }
def FnNewSpecifiersJSONKeepsEveryFieldWrongFalsely : Prop := fnNewSpecifiersJSONKeepsEveryFieldRow.holds Try.pinned (OpenSpec.ofChange fnNewSpecifiersJSONKeepsEveryFieldWrong)

/-- 'zzlaws_billing_b1.FnNewSpecifiersJSONConvertsPiecewise': WHATEVER THE INPUT: true; the input reads as it did. -/
def fnNewSpecifiersJSONConvertsPiecewiseSpec : ChangeSpec := { name := "fnNewSpecifiersJSONConvertsPiecewise", fn := fun _ => fun
  | [d1, d2, d3, d4, d5, d6, d7] => { results := [.lit (.bool true)], args := [d1, d2, d3, d4, d5, d6, d7] }
  | _ => none }
def fnNewSpecifiersJSONConvertsPiecewiseRow : OpenClaim := { program := "qxb6604472a", sum := "6ff3aa1c25c0326936c289fa634a695a7bb32ac3f22f4230e9f0e57d8170db12", func := "example.com/ledgerline/ledgerline/zzlaws_billing_b1.FnNewSpecifiersJSONConvertsPiecewise", spec := "fnNewSpecifiersJSONConvertsPiecewise", apart := false }
def FnNewSpecifiersJSONConvertsPiecewiseSaid : Prop := fnNewSpecifiersJSONConvertsPiecewiseRow.holds Try.pinned (OpenSpec.ofChange fnNewSpecifiersJSONConvertsPiecewiseSpec)

/-- ITS FALSE NEIGHBOUR: 'it returns false'. Refute it at one input. -/
def fnNewSpecifiersJSONConvertsPiecewiseWrong : ChangeSpec := { name := "fnNewSpecifiersJSONConvertsPiecewise", fn := fun _ => fun
  | [d1, d2, d3, d4, d5, d6, d7] => { results := [.lit (.bool false)], args := [d1, d2, d3, d4, d5, d6, d7] }
  | _ => none }
def FnNewSpecifiersJSONConvertsPiecewiseWrongFalsely : Prop := fnNewSpecifiersJSONConvertsPiecewiseRow.holds Try.pinned (OpenSpec.ofChange fnNewSpecifiersJSONConvertsPiecewiseWrong)

/-- 'zzlaws_billing_b1.FnProductsCountsEachProductOnItsOwn': WHATEVER THE INPUT: true; the input reads as it did. -/
def fnProductsCountsEachProductOnItsOwnSpec : ChangeSpec := { name := "fnProductsCountsEachProductOnItsOwn", fn := fun _ => fun
  | [d1, d2, d3, d4, d5] => { results := [.lit (.bool true)], args := [d1, d2, d3, d4, d5] }
  | _ => none }
def fnProductsCountsEachProductOnItsOwnRow : OpenClaim := { program := "qxb6604472a", sum := "6ff3aa1c25c0326936c289fa634a695a7bb32ac3f22f4230e9f0e57d8170db12", func := "example.com/ledgerline/ledgerline/zzlaws_billing_b1.FnProductsCountsEachProductOnItsOwn", spec := "fnProductsCountsEachProductOnItsOwn", apart := false }
def FnProductsCountsEachProductOnItsOwnSaid : Prop := fnProductsCountsEachProductOnItsOwnRow.holds Try.pinned (OpenSpec.ofChange fnProductsCountsEachProductOnItsOwnSpec)

/-- ITS FALSE NEIGHBOUR: 'it returns false'. Refute it at one input. -/
def fnProductsCountsEachProductOnItsOwnWrong : ChangeSpec := { name := "fnProductsCountsEachProductOnItsOwn", fn := fun _ => fun
  | [d1, d2, d3, d4, d5] => { results := [.lit (.bool false)], args := [d1, d2, d3, d4, d5] }
  | _ => none }
def FnProductsCountsEachProductOnItsOwnWrongFalsely : Prop := fnProductsCountsEachProductOnItsOwnRow.holds Try.pinned (OpenSpec.ofChange fnProductsCountsEachProductOnItsOwnWrong)

end Rows
end Go.Proofs.Qxb6604472a
