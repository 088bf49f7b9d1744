import Derived.Test.Qxb6604472aLaw
namespace Go.Proofs.Qxb6604472a
open Go.RowKit

/-- The row from element h on. -/
def SpecF.shift (F : SpecF) (h : Nat) : SpecF := ⟨fun i => F.P (h + i), fun i => F.A1 (h + i), fun i => F.N1 (h + i), fun i => F.C1 (h + i), fun i => F.R2 (h + i), fun i => F.R3 (h + i), fun i => F.A4 (h + i), fun i => F.N4 (h + i), fun i => F.C4 (h + i)⟩

theorem shift_cells (F : SpecF) (h i : Nat) : (F.shift h).cells i = F.cells (h + i) := rfl

theorem FivesAt.take {w : World} {ad : Option Addr} {n h : Nat} {F : SpecF} (hf : FivesAt w ad n F) (hh : h ≤ n) : FivesAt w ad h F := fun i hi => hf i (by omega)

theorem FivesAt.drop {w : World} {g n h : Nat} {F : SpecF} (hf : FivesAt w (some ⟨g, 0, none⟩) n F) : FivesAt w (some ⟨g, h * 5, none⟩) (n - h) (F.shift h) := by
  intro i hi
  obtain ⟨b, off, e, hc⟩ := hf (h + i) (by omega)
  cases e
  refine ⟨g, h * 5, rfl, fun j hj => ?_⟩
  rw [shift_cells, ← hc j hj]
  congr 2
  omega

theorem FivesAt.none {w : World} {ad : Option Addr} {F : SpecF} : FivesAt w ad 0 F := fun _ hi => absurd hi (Nat.not_lt_zero _)

theorem specs_at {w : World} {g n k j : Nat} {F : SpecF} (hf : FivesAt w (some ⟨g, 0, none⟩) n F) (hk : k < n) (hj : j < 5) : w.cell? ⟨g, k * 5 + j, none⟩ = (F.cells k)[j]? := by
  obtain ⟨b, off, e, hc⟩ := hf k hk
  cases e
  have := hc j hj
  rwa [Nat.zero_add] at this

theorem cell_keep_eq {o : Option Value} {p : Option Value} (h : o = p) : o = p := h

end Go.Proofs.Qxb6604472a
