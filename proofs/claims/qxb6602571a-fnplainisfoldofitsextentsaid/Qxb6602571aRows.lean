/-
  No cell of these rows narrows 'for every input' (looked for: loops, veiled, ifaces, maps, wideKeys, modest, calm, conditions, laid).
  DERIVED. THE GIVEN ROWS OF THIS SEAT. 4 by the template 'for every input the law returns true; each argument reads behind the call as it read before'; 0 by the template 'total and deterministic' (their statements: Qxb6602571aTotals.lean).
  GIVEN WITH THE SEED: the statements are not yours to turn. If you find one false, say at which input.
  Laid BY PROGRAM, IN A SANDBOX (cutbox-rows.mjs): the forced cells as the released guide's own fill.sh prints them over the translation 6f26e7b61598b2be… (all of the seat's roots in one cut). By AI agents, Wed Nov 11 2026. No macro, syntax, notation, axiom, sorry.
-/
import Derived.Test.Qxb6602571aChecked
import GoSem.Claim
import GoSem.ClaimJoined
import GoSem.ClaimMapViews
import Derived.JoinedTies
import Derived.KernelRfl
namespace Go.Proofs.Qxb6602571a
/- THE CELL 'sum', in the pinned program and in every row, IS THE sha256 OF THE DUMP (.gsa) THAT Qxb6602571aProg.lean LOADS. Nothing in Lean hashes anything: it is a label: what it is worth is what the hold of that sum in a sandbox is worth. -/
noncomputable def Try.pinned : Pinned := { name := "qxb6602571a", sum := "6f26e7b61598b2bea3f06cd5a49a404cc65ab9bd3b79d5f3fc5fde249947306a", checked := Try.checked }
namespace Rows
def none {H : Type} : Left H := { results := [], args := [] }

/-- 'zzlaws_internal_manifest_b1.FnPlainIsFoldOfItsExtent': WHATEVER THE INPUT: true; the input reads as it did. -/
def fnPlainIsFoldOfItsExtentSpec : ChangeSpec := { name := "fnPlainIsFoldOfItsExtent", fn := fun _ => fun
  | [d1, d2, d3, d4, d5, d6] => { results := [.lit (.bool true)], args := [d1, d2, d3, d4, d5, d6] }
  | _ => none }
def fnPlainIsFoldOfItsExtentRow : OpenClaim := { program := "qxb6602571a", sum := "6f26e7b61598b2bea3f06cd5a49a404cc65ab9bd3b79d5f3fc5fde249947306a", func := "example.com/slipway/slipway/zzlaws_internal_manifest_b1.FnPlainIsFoldOfItsExtent", spec := "fnPlainIsFoldOfItsExtent", apart := false }
def FnPlainIsFoldOfItsExtentSaid : Prop := fnPlainIsFoldOfItsExtentRow.holds Try.pinned (OpenSpec.ofChange fnPlainIsFoldOfItsExtentSpec)

/-- ITS FALSE NEIGHBOUR: 'it returns false'. Refute it at one input. -/
def fnPlainIsFoldOfItsExtentWrong : ChangeSpec := { name := "fnPlainIsFoldOfItsExtent", fn := fun _ => fun
  | [d1, d2, d3, d4, d5, d6] => { results := [.lit (.bool false)], args := [d1, d2, d3, d4, d5, d6] }
  | _ => none }
def FnPlainIsFoldOfItsExtentWrongFalsely : Prop := fnPlainIsFoldOfItsExtentRow.holds Try.pinned (OpenSpec.ofChange fnPlainIsFoldOfItsExtentWrong)

/-- 'zzlaws_internal_manifest_b1.FnPlainMoreStopsEndSooner': WHATEVER THE INPUT: true; the input reads as it did. -/
def fnPlainMoreStopsEndSoonerSpec : ChangeSpec := { name := "fnPlainMoreStopsEndSooner", fn := fun _ => fun
  | [d1, d2, d3, d4, d5, d6, d7, d8] => { results := [.lit (.bool true)], args := [d1, d2, d3, d4, d5, d6, d7, d8] }
  | _ => none }
def fnPlainMoreStopsEndSoonerRow : OpenClaim := { program := "qxb6602571a", sum := "6f26e7b61598b2bea3f06cd5a49a404cc65ab9bd3b79d5f3fc5fde249947306a", func := "example.com/slipway/slipway/zzlaws_internal_manifest_b1.FnPlainMoreStopsEndSooner", spec := "fnPlainMoreStopsEndSooner", apart := false }
def FnPlainMoreStopsEndSoonerSaid : Prop := fnPlainMoreStopsEndSoonerRow.holds Try.pinned (OpenSpec.ofChange fnPlainMoreStopsEndSoonerSpec)

/-- ITS FALSE NEIGHBOUR: 'it returns false'. Refute it at one input. -/
def fnPlainMoreStopsEndSoonerWrong : ChangeSpec := { name := "fnPlainMoreStopsEndSooner", fn := fun _ => fun
  | [d1, d2, d3, d4, d5, d6, d7, d8] => { results := [.lit (.bool false)], args := [d1, d2, d3, d4, d5, d6, d7, d8] }
  | _ => none }
def FnPlainMoreStopsEndSoonerWrongFalsely : Prop := fnPlainMoreStopsEndSoonerRow.holds Try.pinned (OpenSpec.ofChange fnPlainMoreStopsEndSoonerWrong)

/-- 'zzlaws_internal_manifest_b1.FnBlockScalarMatchesLineModel': WHATEVER THE INPUT: true; the input reads as it did. -/
def fnBlockScalarMatchesLineModelSpec : ChangeSpec := { name := "fnBlockScalarMatchesLineModel", fn := fun _ => fun
  | [d1, d2, d3, d4, d5] => { results := [.lit (.bool true)], args := [d1, d2, d3, d4, d5] }
  | _ => none }
def fnBlockScalarMatchesLineModelRow : OpenClaim := { program := "qxb6602571a", sum := "6f26e7b61598b2bea3f06cd5a49a404cc65ab9bd3b79d5f3fc5fde249947306a", func := "example.com/slipway/slipway/zzlaws_internal_manifest_b1.FnBlockScalarMatchesLineModel", spec := "fnBlockScalarMatchesLineModel", inPlace := ["internal/bytealg.IndexByte"], apart := false }
def FnBlockScalarMatchesLineModelSaid : Prop := fnBlockScalarMatchesLineModelRow.holds Try.pinned (OpenSpec.ofChange fnBlockScalarMatchesLineModelSpec)

/-- ITS FALSE NEIGHBOUR: 'it returns false'. Refute it at one input. -/
def fnBlockScalarMatchesLineModelWrong : ChangeSpec := { name := "fnBlockScalarMatchesLineModel", fn := fun _ => fun
  | [d1, d2, d3, d4, d5] => { results := [.lit (.bool false)], args := [d1, d2, d3, d4, d5] }
  | _ => none }
def FnBlockScalarMatchesLineModelWrongFalsely : Prop := fnBlockScalarMatchesLineModelRow.holds Try.pinned (OpenSpec.ofChange fnBlockScalarMatchesLineModelWrong)

/-- 'zzlaws_internal_manifest_b1.FnBlockScalarChompingNests': WHATEVER THE INPUT: true; the input reads as it did. -/
def fnBlockScalarChompingNestsSpec : ChangeSpec := { name := "fnBlockScalarChompingNests", fn := fun _ => fun
  | [d1, d2, d3, d4, d5] => { results := [.lit (.bool true)], args := [d1, d2, d3, d4, d5] }
  | _ => none }
def fnBlockScalarChompingNestsRow : OpenClaim := { program := "qxb6602571a", sum := "6f26e7b61598b2bea3f06cd5a49a404cc65ab9bd3b79d5f3fc5fde249947306a", func := "example.com/slipway/slipway/zzlaws_internal_manifest_b1.FnBlockScalarChompingNests", spec := "fnBlockScalarChompingNests", inPlace := ["internal/bytealg.IndexByte"], apart := false }
def FnBlockScalarChompingNestsSaid : Prop := fnBlockScalarChompingNestsRow.holds Try.pinned (OpenSpec.ofChange fnBlockScalarChompingNestsSpec)

/-- ITS FALSE NEIGHBOUR: 'it returns false'. Refute it at one input. -/
def fnBlockScalarChompingNestsWrong : ChangeSpec := { name := "fnBlockScalarChompingNests", fn := fun _ => fun
  | [d1, d2, d3, d4, d5] => { results := [.lit (.bool false)], args := [d1, d2, d3, d4, d5] }
  | _ => none }
def FnBlockScalarChompingNestsWrongFalsely : Prop := fnBlockScalarChompingNestsRow.holds Try.pinned (OpenSpec.ofChange fnBlockScalarChompingNestsWrong)

end Rows
end Go.Proofs.Qxb6602571a
