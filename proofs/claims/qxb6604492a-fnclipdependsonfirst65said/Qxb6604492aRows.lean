/-
  No cell of these rows narrows 'for every input' (looked for: loops, veiled, ifaces, maps, wideKeys, modest, calm, conditions, laid).
  DERIVED. THE GIVEN ROWS OF THIS SEAT. 2 by the template 'for every input the law returns true; each argument reads behind the call as it read before'; 0 by the template 'total and deterministic' (their statements: Qxb6604492aTotals.lean).
  GIVEN WITH THE SEED: the statements are not yours to turn. If you find one false, say at which input.
  Laid BY PROGRAM, IN A SANDBOX (cutbox-rows.mjs): the forced cells as the released guide's own fill.sh prints them over the translation c6f784a22092793a… (all of the seat's roots in one cut). By AI agents, Wed Nov 11 2026. No macro, syntax, notation, axiom, sorry.
-/
import Derived.Test.Qxb6604492aChecked
import GoSem.Claim
import GoSem.ClaimJoined
import GoSem.ClaimMapViews
import Derived.JoinedTies
import Derived.KernelRfl
namespace Go.Proofs.Qxb6604492a
/- THE CELL 'sum', in the pinned program and in every row, IS THE sha256 OF THE DUMP (.gsa) THAT Qxb6604492aProg.lean LOADS. Nothing in Lean hashes anything: it is a label: what it is worth is what the hold of that sum in a sandbox is worth. -/
noncomputable def Try.pinned : Pinned := { name := "qxb6604492a", sum := "c6f784a22092793aec580944a02dcd443c25c1eefed84ae89a6e9b247ff8d1e9", checked := Try.checked }
namespace Rows
def none {H : Type} : Left H := { results := [], args := [] }

/-- 'zzlaws_policy_b1.FnClipExact': WHATEVER THE INPUT: true; the input reads as it did. -/
def fnClipExactSpec : ChangeSpec := { name := "fnClipExact", fn := fun _ => fun
  | [d] => { results := [.lit (.bool true)], args := [d] }
  | _ => none }
def fnClipExactRow : OpenClaim := { program := "qxb6604492a", sum := "c6f784a22092793aec580944a02dcd443c25c1eefed84ae89a6e9b247ff8d1e9", func := "example.com/clausula/clausula/zzlaws_policy_b1.FnClipExact", spec := "fnClipExact", apart := false }
def FnClipExactSaid : Prop := fnClipExactRow.holds Try.pinned (OpenSpec.ofChange fnClipExactSpec)

/-- ITS FALSE NEIGHBOUR: 'it returns false'. Refute it at one input. -/
def fnClipExactWrong : ChangeSpec := { name := "fnClipExact", fn := fun _ => fun
  | [d] => { results := [.lit (.bool false)], args := [d] }
  | _ => none }
def FnClipExactWrongFalsely : Prop := fnClipExactRow.holds Try.pinned (OpenSpec.ofChange fnClipExactWrong)

/-- 'zzlaws_policy_b1.FnClipDependsOnFirst65': WHATEVER THE INPUT: true; the input reads as it did. -/
def fnClipDependsOnFirst65Spec : ChangeSpec := { name := "fnClipDependsOnFirst65", fn := fun _ => fun
  | [d1, d2] => { results := [.lit (.bool true)], args := [d1, d2] }
  | _ => none }
def fnClipDependsOnFirst65Row : OpenClaim := { program := "qxb6604492a", sum := "c6f784a22092793aec580944a02dcd443c25c1eefed84ae89a6e9b247ff8d1e9", func := "example.com/clausula/clausula/zzlaws_policy_b1.FnClipDependsOnFirst65", spec := "fnClipDependsOnFirst65", apart := false }
def FnClipDependsOnFirst65Said : Prop := fnClipDependsOnFirst65Row.holds Try.pinned (OpenSpec.ofChange fnClipDependsOnFirst65Spec)

/-- ITS FALSE NEIGHBOUR: 'it returns false'. Refute it at one input. -/
def fnClipDependsOnFirst65Wrong : ChangeSpec := { name := "fnClipDependsOnFirst65", fn := fun _ => fun
  | [d1, d2] => { results := [.lit (.bool false)], args := [d1, d2] }
  | _ => none }
def FnClipDependsOnFirst65WrongFalsely : Prop := fnClipDependsOnFirst65Row.holds Try.pinned (OpenSpec.ofChange fnClipDependsOnFirst65Wrong)

end Rows
end Go.Proofs.Qxb6604492a
