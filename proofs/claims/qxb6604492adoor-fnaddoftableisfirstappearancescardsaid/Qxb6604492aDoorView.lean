import Derived.Test.Qxb6604492aDoorRows
import Derived.Test.Qxb6604492aDoorExec
import Derived.ProofKit
import Derived.OpenShut
import Derived.ChangeOld
import Derived.ChangeSame
import Derived.ChangeVars
import Derived.SizedLaws
import Derived.Deep.Slices
import Derived.LaidLaws
import Derived.Lib.LaidTab
namespace Go.Proofs.Qxb6604492aDoor
open Go.ChangeShapes Go.WideShapes Go.ChangeAt Go.RowKit Go.Deep

theorem own : ownKnob Tryd.prog.godebug = none := by kernel_rfl
theorem cells25 : Tryd.prog.cellsOf 25 = 3 := by kernel_rfl
theorem cells3 : Tryd.prog.cellsOf 3 = 1 := by kernel_rfl
theorem cells5 : Tryd.prog.cellsOf 5 = 1 := by kernel_rfl
theorem cells92 : Tryd.prog.cellsOf 92 = 256 := by kernel_rfl
theorem tabType : (Tryd.prog.globals[0]?).map (·.type) = some 92 := by kernel_rfl

section
variable {H : Type} {enc : TypeId × Value → H} {W : World}

/-- The steps that came in, as the walk asks them. -/
theorem view_steps {fuel : Nat} {a : Option Addr} {len cap : Nat} {x : DataW H × List MemPlace} (h : DataW.trod enc Tryd.prog W 0 (fun _ => true) true fuel 22 [.slice a len cap] = some x) :
    (a = none → len = 0 ∧ cap = 0) ∧ ∃ of ck tx, StepsAt W a len of ck tx := by
  rcases open_slice Tryd.underlying22 h with ⟨hcs, _⟩ | ⟨b, l, c, m, n, D, Pl, hcs, _, hl, hm, hmm, hx, hV⟩
  · simp only [List.cons.injEq, Value.slice.injEq, and_true] at hcs
    obtain ⟨rfl, rfl, rfl⟩ := hcs
    exact ⟨fun _ => ⟨rfl, rfl⟩, fun _ => 0, fun _ => 0, fun _ => ⟨#[]⟩, fun i hi => absurd hi (Nat.not_lt_zero _)⟩
  · simp only [List.cons.injEq, Value.slice.injEq, and_true] at hcs
    obtain ⟨rfl, rfl, rfl⟩ := hcs
    simp only [if_true] at hmm
    subst hmm
    refine ⟨fun h => (by cases h), ?_⟩
    have each : ∀ i, ∃ t : Int × Int × ByteArray, i < len → W.cell? (b.add (i * 3)) = some (.int .i64 t.1) ∧ W.cell? ((b.add (i * 3)).add 1) = some (.int .i32 t.2.1) ∧ W.cell? ((b.add (i * 3)).add 2) = some (.string t.2.2) := by
      intro i
      by_cases hi : i < len
      · obtain ⟨cs', h1, h2⟩ := hV i (by omega)
        rw [cells25] at h1
        obtain ⟨_, hl3, hc⟩ := World.cells?_some h1
        obtain ⟨xs, n', _, _, _, hlen, hf⟩ := DataW.trod_struct Tryd.underlying25 h2
        match cs', hl3 with
        | [v0, v1, v2], _ =>
          have e0 := hf 0 _ rfl
          have e1 := hf 1 _ rfl
          have e2 := hf 2 _ rfl
          simp only [List.size_toArray, List.length_cons, List.length_nil] at hlen
          match xs, hlen with
          | [y0, y1, y2], _ =>
            simp [cells3, cells21, cells9] at e0 e1 e2
            obtain ⟨z0, g0, _⟩ := DataW.trod_int Tryd.underlying3 e0
            obtain ⟨z1, g1, _⟩ := DataW.trod_int Tryd.underlying21 e1
            obtain ⟨z2, g2, _⟩ := DataW.trod_string Tryd.underlying9 e2
            simp only [List.cons.injEq, and_true] at g0 g1 g2
            subst g0
            subst g1
            subst g2
            refine ⟨(z0, z1, z2), fun _ => ⟨?_, hc 1 (by omega), hc 2 (by omega)⟩⟩
            have := hc 0 (by omega)
            simpa [Addr.add] using this
      · exact ⟨(0, 0, ⟨#[]⟩), fun h => absurd h hi⟩
    obtain ⟨T, hT⟩ := Classical.axiomOfChoice each
    refine ⟨fun i => (T i).1, fun i => (T i).2.1, fun i => (T i).2.2, fun i hi => ?_⟩
    obtain ⟨h0, h1, h2⟩ := hT i hi
    obtain ⟨bb, off, spot⟩ := b
    have hspot : spot = none := by
      obtain ⟨k0, _⟩ := hT 0 (by omega)
      simpa [Addr.add] using World.cell?_spot k0
    subst hspot
    rw [Go.WideShapes.add_plain] at h0 h1 h2
    rw [Go.WideShapes.add_plain] at h1 h2
    exact ⟨bb, off, rfl, h0, h1, h2⟩

theorem seen_steps {a : Option Addr} {len cap : Nat} {d : DataW H} {ps : List MemPlace} (h : DataW.Trod enc Tryd.prog W 0 (fun _ => true) true 22 (.slice a len cap) d ps) :
    (a = none → len = 0 ∧ cap = 0) ∧ ∃ of ck tx, StepsAt W a len of ck tx := by
  obtain ⟨m, hm⟩ := h
  exact view_steps (x := (d, ps)) hm
end

theorem laid_is : (Rows.laid_unicode_properties : DataW Unit) = Lib.tabData .u8 Lib.propertiesTab := by kernel_rfl

set_option maxRecDepth 100000 in
/-- The row's condition gives the walk its table. -/
theorem tab_of_laid {W : World} (h : laidMetH Tryd.prog [("unicode.properties", Rows.laid_unicode_properties)] W) : TabOk W := by
  have h' : laidMet Tryd.prog [("unicode.properties", Lib.tabData .u8 Lib.propertiesTab)] W := by
    rw [← laid_is]
    exact h
  exact Lib.tabIs_of_head tabGlobal tabType Tryd.underlying92 Tryd.underlying5 cells5 cells92 h'

/-- The table laid into its block. -/
def layTab (o : Obj) : Obj :=
  match o with
  | .cells _ t frozen => .cells (Lib.propertiesTab.map fun z => Value.int .u8 z).toArray t frozen
  | o => o
def layWorld (w : World) : World := { w with heap := w.heap.modify 0 layTab }

/-- A world that meets the condition: the settled one, the table laid. -/
theorem laidWorld_met (os : Os) (args : Array Value) : laidMetH Tryd.prog [("unicode.properties", Rows.laid_unicode_properties)] ((layWorld (World.holding Tryd.prog os ⟨#[], #[], []⟩)).forCall (fun _ _ => 0) ⟨#[], args, []⟩).memory := by
  show laidMet Tryd.prog [("unicode.properties", Rows.laid_unicode_properties)] _
  exact laidMet_of_run' 8 (by kernel_rfl) (by kernel_rfl)

end Go.Proofs.Qxb6604492aDoor
