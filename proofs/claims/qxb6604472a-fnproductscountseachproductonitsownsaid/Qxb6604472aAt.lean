import Derived.Test.Qxb6604472aFields
import Derived.Deep.RegionHeld3
import Derived.Deep.DrawnRows
namespace Go.Proofs.Qxb6604472a
open Go.RowKit Go.Maps Go.ChangeMaps Go.WideMaps
attribute [local go_sem] eq22 eq31

/-- What b1At gives at index i, and what it gives beyond the end. -/
def atA (n : Nat) (A : Nat → Option Addr) (i : Nat) : Option Addr := if i < n then A i else none
def atN (n : Nat) (L : Nat → Nat) (i : Nat) : Nat := if i < n then L i else 0

theorem at_any (ad : Option Addr) (n cap : Nat) (A : Nat → Option Addr) (L C : Nat → Nat) (S : Nat → Nat → ByteArray) (w : World) (i : Nat) (h : NestAt w ad n A L C S) :
    Calls Try.prog 13 #[.slice ad n cap, .int .i64 i] w fun e w' => e = .returned (.slice (atA n A i) (atN n L i) (atN n C i)) ∧ w' = w := by
  by_cases hi : i < n
  · simp only [atA, atN, if_pos hi]
    exact at_in ad n cap A L C S w i hi h
  · simp only [atA, atN, if_neg hi]
    exact at_out ad n cap w i hi

theorem at_facts {w : World} {ad : Option Addr} {n : Nat} {A : Nat → Option Addr} {L C : Nat → Nat} {S : Nat → Nat → ByteArray} (h : NestAt w ad n A L C S) (i : Nat) :
    atN n L i * 16 ≤ 140737488351232 ∧ (atA n A i = none → atN n L i = 0 ∧ atN n C i = 0) ∧ StrsAt w (atA n A i) (atN n L i) (S i) := by
  by_cases hi : i < n
  · simp only [atA, atN, if_pos hi]
    obtain ⟨h1, h2, h3, _⟩ := h i hi
    exact ⟨h1, h2, h3⟩
  · simp only [atA, atN, if_neg hi]
    exact ⟨by omega, fun _ => by simp, fun i hi => absurd hi (Nat.not_lt_zero _)⟩

theorem MapIs.setCell {w : World} {r : Option Nat} (h : MapIs w r) (a : Addr) (u : Value) : MapIs (w.setCell a u) r := by
  rcases h with h | ⟨b, n, D, rfl, es, clock, hh, F, hs, hD⟩
  · exact .inl h
  · refine .inr ⟨b, n, D, rfl, es, clock, ?_, F, hs, hD⟩
    simp [World.setCell, Array.getElem?_modify, hh]

/-- The five cells of specifier i: its id is s; its slices could be read in w, its maps can be in wr. -/
def SpecC (w wr : World) (s : ByteArray) (cs : List Value) : Prop :=
  ∃ (a1 : Option Addr) (n1 c1 : Nat) (S1 : Nat → ByteArray) (r2 r3 : Option Nat) (a4 : Option Addr) (n4 c4 : Nat) (S4 : Nat → ByteArray),
    cs = [.string s, .slice a1 n1 c1, .map r2, .map r3, .slice a4 n4 c4] ∧ n1 ≤ maxLen ∧ n4 ≤ maxLen ∧ StrsAt w a1 n1 S1 ∧ StrsAt w a4 n4 S4 ∧ MapIs wr r2 ∧ MapIs wr r3

theorem SpecC.below {w wr wr' : World} {s : ByteArray} {cs : List Value} (h : SpecC w wr s cs) (hb : Below wr.heap.size wr wr') : SpecC w wr' s cs := by
  obtain ⟨a1, n1, c1, S1, r2, r3, a4, n4, c4, S4, e, h1, h4, g1, g4, m2, m3⟩ := h
  exact ⟨a1, n1, c1, S1, r2, r3, a4, n4, c4, S4, e, h1, h4, g1, g4, m2.below hb, m3.below hb⟩

theorem SpecC.setCell {w wr : World} {s : ByteArray} {cs : List Value} (h : SpecC w wr s cs) (a : Addr) (u : Value) : SpecC w (wr.setCell a u) s cs := by
  obtain ⟨a1, n1, c1, S1, r2, r3, a4, n4, c4, S4, e, h1, h4, g1, g4, m2, m3⟩ := h
  exact ⟨a1, n1, c1, S1, r2, r3, a4, n4, c4, S4, e, h1, h4, g1, g4, m2.setCell a u, m3.setCell a u⟩

theorem SpecC.now {w wr w' : World} {s : ByteArray} {cs : List Value} (h : SpecC w wr s cs) (hb : Below w.heap.size w w') : SpecC w' wr s cs := by
  obtain ⟨a1, n1, c1, S1, r2, r3, a4, n4, c4, S4, e, h1, h4, g1, g4, m2, m3⟩ := h
  exact ⟨a1, n1, c1, S1, r2, r3, a4, n4, c4, S4, e, h1, h4, g1.below hb, g4.below hb, m2, m3⟩

theorem info36 : (Try.prog.info? 36).map (fun i => (i.zero, i.size, i.bytes)) = some (some (.agg #[.string ⟨#[]⟩, .slice none 0 0, .map none, .map none, .slice none 0 0]), 5, 80) := by kernel_rfl
theorem info33 : (Try.prog.info? 33).map (fun i => (i.zero, i.size, i.bytes)) = some (some (.agg #[.string ⟨#[]⟩, .slice none 0 0, .map none, .map none, .slice none 0 0]), 5, 80) := by kernel_rfl

end Go.Proofs.Qxb6604472a
