import Derived.Test.Qxb6604472aBase
namespace Go.Proofs.Qxb6604472a
open Go.RowKit

/-- Block g is a row of cells xs, none of them frozen. -/
def Row (w : World) (g : Nat) (e : TypeId) (xs : List Value) : Prop := w.heap[g]? = some (.cells xs.toArray e (0, 0))

theorem Row.cell {w : World} {g : Nat} {e : TypeId} {xs : List Value} (h : Row w g e xs) (j : Nat) : w.cell? ⟨g, j, none⟩ = xs[j]? := by
  unfold Row at h
  simp [World.cell?, h]

theorem Row.frozen {w : World} {g : Nat} {e : TypeId} {xs : List Value} (h : Row w g e xs) (j : Nat) : w.frozen? ⟨g, j, none⟩ = false := by
  unfold Row at h
  simp [World.frozen?, h]

theorem Row.lt {w : World} {g : Nat} {e : TypeId} {xs : List Value} (h : Row w g e xs) : g < w.heap.size := (Array.getElem?_eq_some_iff.1 h).1

theorem Row.below {B : Nat} {w w' : World} {g : Nat} {e : TypeId} {xs : List Value} (h : Row w g e xs) (hb : Below B w w') (hg : g < B) : Row w' g e xs := by
  unfold Row at *
  rw [hb.block g hg, h]

theorem Row.set {w : World} {g : Nat} {e : TypeId} {xs : List Value} (h : Row w g e xs) (j : Nat) (u : Value) : Row (w.setCell ⟨g, j, none⟩ u) g e (xs.set j u) := by
  unfold Row at *
  simp [World.setCell, Array.getElem?_modify, h]

theorem Row.setOther {w : World} {g : Nat} {e : TypeId} {xs : List Value} (h : Row w g e xs) {a : Addr} (ha : g ≠ a.block) (u : Value) : Row (w.setCell a u) g e xs := by
  unfold Row at *
  rw [Below.heap_setCell _ _ _ _ ha, h]

theorem Row.grown {w w' : World} {row : Option Nat} {g : Nat} {e : TypeId} {xs : List Value} (h : Row w g e xs) (hg : w.grownBy w' row) (hr : some g ≠ row) : Row w' g e xs := by
  have hlt := h.lt
  unfold Row at *
  rw [hg.block g hlt hr, h]

theorem Row.of_owns {w : World} {base g : Nat} {e : TypeId} {size n : Nat} {xs : List Value} (h : w.ownsRow base e size (.slice (some ⟨g, 0, none⟩) n n) n xs) : Row w g e xs := by
  rcases h.2 with ⟨h', _⟩ | ⟨g', cap', cur, h', hb, hg, hnc, hcm, hcs, htake⟩
  · simp at h'
  · simp only [Value.slice.injEq, Option.some.injEq, Addr.mk.injEq, and_true, true_and] at h'
    obtain ⟨rfl, rfl⟩ := h'
    have e1 : cur.toList = xs := by rw [← htake, List.take_of_length_le (by simp [hcs])]
    unfold Row
    rw [hg, ← e1]

theorem lt_of_cell {w : World} {a : Addr} {v : Value} (h : w.cell? a = some v) : a.block < w.heap.size := by
  unfold World.cell? at h
  cases hh : w.heap[a.block]? with
  | none => simp [hh] at h
  | some o => exact (Array.getElem?_eq_some_iff.1 hh).1

theorem StrsAt.below {w w' : World} {ad : Option Addr} {n : Nat} {S : Nat → ByteArray} (h : StrsAt w ad n S) (hb : Below w.heap.size w w') : StrsAt w' ad n S := by
  intro i hi
  obtain ⟨b, off, e, hc⟩ := h i hi
  exact ⟨b, off, e, by rw [hb.cell (lt_of_cell hc)]; exact hc⟩

/-- .. behind a store into a block that is none of its own. -/
theorem StrsAt.setCell {w : World} {ad : Option Addr} {n : Nat} {S : Nat → ByteArray} (h : StrsAt w ad n S) {a : Addr} (ha : ∀ b off, ad = some ⟨b, off, none⟩ → b ≠ a.block) (u : Value) : StrsAt (w.setCell a u) ad n S := by
  intro i hi
  obtain ⟨b, off, e, hc⟩ := h i hi
  refine ⟨b, off, e, ?_⟩
  rw [World.cell?_of_block (w := w) (Below.heap_setCell _ _ _ _ (ha b off e))]
  exact hc

theorem NestAt.below {w w' : World} {ad : Option Addr} {n : Nat} {A : Nat → Option Addr} {L C : Nat → Nat} {S : Nat → Nat → ByteArray} (h : NestAt w ad n A L C S) (hb : Below w.heap.size w w') : NestAt w' ad n A L C S := by
  intro i hi
  obtain ⟨hL, hN, hS, b, off, e, hc⟩ := h i hi
  exact ⟨hL, hN, hS.below hb, b, off, e, by rw [hb.cell (lt_of_cell hc)]; exact hc⟩

theorem StrsAt.of_row {w : World} {g : Nat} {e : TypeId} {xs : List Value} {n : Nat} {S : Nat → ByteArray} (h : Row w g e xs) (hx : ∀ i, i < n → xs[i]? = some (.string (S i))) : StrsAt w (some ⟨g, 0, none⟩) n S := by
  intro i hi
  exact ⟨g, 0, rfl, by rw [Nat.zero_add, h.cell]; exact hx i hi⟩

end Go.Proofs.Qxb6604472a
