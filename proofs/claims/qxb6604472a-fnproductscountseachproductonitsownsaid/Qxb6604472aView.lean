import Derived.Test.Qxb6604472aRow
import Derived.ProofKit
import Derived.OpenShut
import Derived.ShutString
import Derived.ChangeOld
import Derived.SizedLaws
import Derived.SliceStrings
import Derived.Deep.Slices
namespace Go.Proofs.Qxb6604472a
open Go.ChangeShapes Go.WideShapes Go.ChangeAt Go.RowKit Go.Deep

theorem own : ownKnob Try.prog.godebug = none := by kernel_rfl
theorem laidOut : laidOutB Try.prog = true := by kernel_rfl
theorem cells22 : Try.prog.cellsOf 22 = 1 := by kernel_rfl
theorem cells9 : Try.prog.cellsOf 9 = 1 := by kernel_rfl
theorem bytes9 : Try.prog.bytesOf 9 = 16 := by kernel_rfl
theorem bytes22 : Try.prog.bytesOf 22 = 24 := by kernel_rfl

section
variable {H : Type} {enc : TypeId × Value → H} {W : World}

theorem mem_weightsAll {e : TypeId} {n : Nat} : ∀ {l : List (DataW H)} {d : DataW H}, d ∈ l → n ∈ d.weights Try.prog e → n ∈ DataW.weightsAll Try.prog e l
  | x :: r, d, hd, hn => by
    simp only [DataW.weightsAll, List.mem_append]
    rcases List.mem_cons.1 hd with rfl | h
    · exact .inl hn
    · exact .inr (mem_weightsAll h hn)

/-- A slice of strings that came in, as the walk asks it. -/
theorem view_strs {fuel : Nat} {a : Option Addr} {len cap : Nat} {x : DataW H × List MemPlace} (h : DataW.trod enc Try.prog W 0 (fun _ => true) true fuel 22 [.slice a len cap] = some x) (hw : ∀ n ∈ x.1.weights Try.prog 22, n ≤ reachBytes) :
    (a = none → len = 0 ∧ cap = 0) ∧ len * 16 ≤ 140737488351232 ∧ ∃ S : Nat → ByteArray, (∀ i, (S i).size ≤ maxLen) ∧ StrsAt W a len S := by
  rcases open_strings Try.underlying22 Try.underlying9 cells9 h with ⟨hcs, _⟩ | ⟨b, l, c, ss, hcs, _, hl, hm, hz, hx, hcell, hsz⟩
  · simp only [List.cons.injEq, Value.slice.injEq, and_true] at hcs
    obtain ⟨rfl, rfl, rfl⟩ := hcs
    exact ⟨fun _ => ⟨rfl, rfl⟩, by omega, fun _ => ByteArray.empty, fun _ => by simp [maxLen], fun i hi => absurd hi (Nat.not_lt_zero _)⟩
  · simp only [List.cons.injEq, Value.slice.injEq, and_true] at hcs
    obtain ⟨rfl, rfl, rfl⟩ := hcs
    simp only [if_true] at hz
    subst hx
    have hb := hw ((((strs (H := H) (ss.take len)).length + (strs (H := H) (ss.drop len)).length)) * Try.prog.bytesOf 9) (by simp [DataW.weights, Try.underlying22])
    rw [bytes9] at hb
    simp only [strs, List.length_map, List.length_take, List.length_drop, reachBytes] at hb
    refine ⟨fun h => (by cases h), by omega, fun i => ss.getD i ByteArray.empty, fun i => ?_, fun i hi => ?_⟩
    · show (ss.getD i ByteArray.empty).size ≤ maxLen
      by_cases hi : i < ss.length
      · rw [List.getD_eq_getElem?_getD, List.getElem?_eq_getElem hi]
        exact hsz _ (List.getElem_mem hi)
      · rw [List.getD_eq_getElem?_getD, List.getElem?_eq_none (by omega)]
        simp [maxLen]
    · obtain ⟨bb, off, spot⟩ := b
      have h0 := hcell 0 (by omega)
      have hspot : spot = none := by simpa [Addr.add] using World.cell?_spot h0
      subst hspot
      exact ⟨bb, off, rfl, by rw [← Go.WideShapes.add_plain]; exact hcell i (by omega)⟩

/-- A slice of slices of strings that came in, as the walk asks it. -/
theorem view_nest {fuel : Nat} {a : Option Addr} {len cap : Nat} {x : DataW H × List MemPlace} (h : DataW.trod enc Try.prog W 0 (fun _ => true) true fuel 23 [.slice a len cap] = some x) (hw : ∀ n ∈ x.1.weights Try.prog 23, n ≤ reachBytes) :
    (a = none → len = 0 ∧ cap = 0) ∧ len * 24 ≤ 140737488351232 ∧ ∃ A L C S, (∀ i j, (S i j).size ≤ maxLen) ∧ NestAt W a len A L C S := by
  rcases open_slice1 Try.underlying23 cells22 h with ⟨hcs, _⟩ | ⟨b, l, c, m, n, V, D, Pl, hcs, _, hl, hm, hmm, hx, hV⟩
  · simp only [List.cons.injEq, Value.slice.injEq, and_true] at hcs
    obtain ⟨rfl, rfl, rfl⟩ := hcs
    exact ⟨fun _ => ⟨rfl, rfl⟩, by omega, fun _ => none, fun _ => 0, fun _ => 0, fun _ _ => ByteArray.empty, fun _ _ => by simp [maxLen], fun i hi => absurd hi (Nat.not_lt_zero _)⟩
  · simp only [List.cons.injEq, Value.slice.injEq, and_true] at hcs
    obtain ⟨rfl, rfl, rfl⟩ := hcs
    simp only [if_true] at hmm
    subst hmm
    subst hx
    have hb := hw (((((List.range len).map D).length + ((List.range (m - len)).map fun j => D (len + j)).length)) * Try.prog.bytesOf 22) (by simp [DataW.weights, Try.underlying23])
    rw [bytes22] at hb
    simp only [List.length_map, List.length_range, reachBytes] at hb
    have each : ∀ i, ∃ t : Option Addr × Nat × Nat × (Nat → ByteArray), (∀ j, (t.2.2.2 j).size ≤ maxLen) ∧ (i < len → V i = .slice t.1 t.2.1 t.2.2.1 ∧ t.2.1 * 16 ≤ 140737488351232 ∧ (t.1 = none → t.2.1 = 0 ∧ t.2.2.1 = 0) ∧ StrsAt W t.1 t.2.1 t.2.2.2) := by
      intro i
      by_cases hi : i < len
      · obtain ⟨_, ht⟩ := hV i (by omega)
        have hwi : ∀ n ∈ (D i).weights Try.prog 22, n ≤ reachBytes := by
          intro q hq
          refine hw q ?_
          simp only [DataW.weights, Try.underlying23]
          refine List.mem_cons_of_mem _ (List.mem_append_left _ (mem_weightsAll (d := D i) ?_ hq))
          exact List.mem_map.2 ⟨i, List.mem_range.2 hi, rfl⟩
        have hsh : ∃ a' l' c', V i = .slice a' l' c' := by
          rcases open_strings Try.underlying22 Try.underlying9 cells9 ht with ⟨hcs, _⟩ | ⟨b', l', c', ss, hcs, _⟩
          · exact ⟨_, _, _, by simpa using hcs⟩
          · exact ⟨_, _, _, by simpa using hcs⟩
        obtain ⟨a', l', c', hv⟩ := hsh
        rw [hv] at ht
        obtain ⟨h1, h2, S, h3, h4⟩ := view_strs ht hwi
        exact ⟨(a', l', c', S), h3, fun _ => ⟨hv, h2, h1, h4⟩⟩
      · exact ⟨(none, 0, 0, fun _ => ByteArray.empty), fun _ => by simp [maxLen], fun h => absurd h hi⟩
    refine ⟨fun h => (by cases h), by omega, fun i => (Classical.choose (each i)).1, fun i => (Classical.choose (each i)).2.1, fun i => (Classical.choose (each i)).2.2.1, fun i => (Classical.choose (each i)).2.2.2, fun i => (Classical.choose_spec (each i)).1, fun i hi => ?_⟩
    obtain ⟨h1, h2, h3, h4⟩ := (Classical.choose_spec (each i)).2 hi
    refine ⟨h2, h3, h4, ?_⟩
    obtain ⟨bb, off, spot⟩ := b
    have h0 := (hV 0 (by omega)).1
    have hspot : spot = none := by simpa [Addr.add] using World.cell?_spot h0
    subst hspot
    exact ⟨bb, off, rfl, by rw [← Go.WideShapes.add_plain, (hV i (by omega)).1]; exact congrArg some h1⟩
theorem of_reach {l : List Nat} (h : l.all (· ≤ reachBytes) = true) {n : Nat} (hn : n ∈ l) : n ≤ reachBytes := by
  have := List.all_eq_true.1 h n hn
  simpa using this

theorem seen_strs {a : Option Addr} {len cap : Nat} {d : DataW H} {ps : List MemPlace} (h : DataW.Trod enc Try.prog W 0 (fun _ => true) true 22 (.slice a len cap) d ps) (hw : ∀ n ∈ d.weights Try.prog 22, n ≤ reachBytes) :
    (a = none → len = 0 ∧ cap = 0) ∧ len * 16 ≤ 140737488351232 ∧ ∃ S : Nat → ByteArray, (∀ i, (S i).size ≤ maxLen) ∧ StrsAt W a len S := by
  obtain ⟨m, hm⟩ := h
  exact view_strs (x := (d, ps)) hm hw

theorem seen_nest {a : Option Addr} {len cap : Nat} {d : DataW H} {ps : List MemPlace} (h : DataW.Trod enc Try.prog W 0 (fun _ => true) true 23 (.slice a len cap) d ps) (hw : ∀ n ∈ d.weights Try.prog 23, n ≤ reachBytes) :
    (a = none → len = 0 ∧ cap = 0) ∧ len * 24 ≤ 140737488351232 ∧ ∃ A L C S, (∀ i j, (S i j).size ≤ maxLen) ∧ NestAt W a len A L C S := by
  obtain ⟨m, hm⟩ := h
  exact view_nest (x := (d, ps)) hm hw
end

end Go.Proofs.Qxb6604472a
