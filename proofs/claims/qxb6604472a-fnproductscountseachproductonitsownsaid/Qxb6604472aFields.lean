import Derived.Test.Qxb6604472aSame
import Derived.WalkSmall
namespace Go.Proofs.Qxb6604472a
open Go.RowKit Go.Maps Go.ChangeMaps Go.WideMaps
attribute [local go_sem] eq22 eq31

/-- What the five fields of a specifier hold. -/
structure Spec (w : World) (cs : List Value) : Prop where
  ex : ∃ (p : ByteArray) (a1 : Option Addr) (n1 c1 : Nat) (S1 : Nat → ByteArray) (r2 r3 : Option Nat) (a4 : Option Addr) (n4 c4 : Nat) (S4 : Nat → ByteArray),
    cs = [.string p, .slice a1 n1 c1, .map r2, .map r3, .slice a4 n4 c4] ∧ n1 ≤ maxLen ∧ n4 ≤ maxLen ∧ StrsAt w a1 n1 S1 ∧ StrsAt w a4 n4 S4 ∧ MapIs w r2 ∧ MapIs w r3

theorem Spec.below {w w' : World} {cs : List Value} (h : Spec w cs) (hb : Below w.heap.size w w') : Spec w' cs := by
  obtain ⟨p, a1, n1, c1, S1, r2, r3, a4, n4, c4, S4, e, h1, h4, g1, g4, m2, m3⟩ := h.ex
  exact ⟨⟨p, a1, n1, c1, S1, r2, r3, a4, n4, c4, S4, e, h1, h4, g1.below hb, g4.below hb, m2.below hb, m3.below hb⟩⟩

theorem below_allocN (w : World) (o : Obj) (m : Nat) : Below w.heap.size w ((w.alloc o).drewN m) := below_drewN ((Below.refl _ _).alloc (Nat.le_refl _) _) m

set_option maxHeartbeats 1000000 in
theorem fields_same (p : ByteArray) (a1 : Option Addr) (n1 c1 : Nat) (S1 : Nat → ByteArray) (r2 r3 : Option Nat) (a4 : Option Addr) (n4 c4 : Nat) (S4 : Nat → ByteArray) (a6 : Option Addr) (n6 c6 : Nat) (S6 : Nat → ByteArray) (a7 : Option Addr) (n7 c7 : Nat) (S7 : Nat → ByteArray) (w : World)
    (h1 : n1 ≤ maxLen) (h4 : n4 ≤ maxLen) (h6 : n6 ≤ maxLen) (h7 : n7 ≤ maxLen) (g1 : StrsAt w a1 n1 S1) (g4 : StrsAt w a4 n4 S4) (g6 : StrsAt w a6 n6 S6) (g7 : StrsAt w a7 n7 S7) (m2 : MapIs w r2) (m3 : MapIs w r3) (s6 : ∀ i, (S6 i).size ≤ maxLen) (s7 : ∀ i, (S7 i).size ≤ maxLen) :
    Calls Try.prog 12 #[.string p, .slice a1 n1 c1, .map r2, .map r3, .slice a4 n4 c4, .agg #[.string p, .slice a1 n1 c1, .map r2, .map r3, .slice a4 n4 c4], .slice a6 n6 c6, .slice a7 n7 c7] w fun e w' => e = .returned (.bool true) ∧ Below w.heap.size w w' := by
  have G1 : Hid (∀ m, StrsAt ((w.alloc (.cells #[.string p, .slice a1 n1 c1, .map r2, .map r3, .slice a4 n4 c4] 36)).drewN m) a1 n1 S1) := fun m => g1.below (below_allocN _ _ _)
  have G4 : Hid (∀ m, StrsAt ((w.alloc (.cells #[.string p, .slice a1 n1 c1, .map r2, .map r3, .slice a4 n4 c4] 36)).drewN m) a4 n4 S4) := fun m => g4.below (below_allocN _ _ _)
  have G6 : Hid (∀ m, StrsAt ((w.alloc (.cells #[.string p, .slice a1 n1 c1, .map r2, .map r3, .slice a4 n4 c4] 36)).drewN m) a6 n6 S6) := fun m => g6.below (below_allocN _ _ _)
  have G7 : Hid (∀ m, StrsAt ((w.alloc (.cells #[.string p, .slice a1 n1 c1, .map r2, .map r3, .slice a4 n4 c4] 36)).drewN m) a7 n7 S7) := fun m => g7.below (below_allocN _ _ _)
  have M2 : Hid (∀ m, MapIs ((w.alloc (.cells #[.string p, .slice a1 n1 c1, .map r2, .map r3, .slice a4 n4 c4] 36)).drewN m) r2) := fun m => m2.below (below_allocN _ _ _)
  have M3 : Hid (∀ m, MapIs ((w.alloc (.cells #[.string p, .slice a1 n1 c1, .map r2, .map r3, .slice a4 n4 c4] 36)).drewN m) r3) := fun m => m3.below (below_allocN _ _ _)
  have HS6 : Hid (∀ i, (S6 i).size ≤ maxLen) := s6
  have HS7 : Hid (∀ i, (S7 i).size ≤ maxLen) := s7
  clear g1 g4 g6 g7 m2 m3 s6 s7
  go_enter Try.func12, Try.ntmps12
  go_wp2_with fail
  refine (sameStrs_same a1 n1 c1 S1 _ h1 (by exact G1.out 0)).mono ?_
  rintro e w1 ⟨rfl, m, rfl⟩
  go_wp2_with fail
  refine (sameStrs_same a4 n4 c4 S4 _ h4 (by exact G4.out m)).mono ?_
  rintro e w1 ⟨rfl, m', rfl⟩
  rw [World.drewN_drewN]
  go_wp2_with fail
  refine (sameMap_same r2 a6 n6 c6 S6 _ h6 (by exact G6.out (m + m')) HS6.out (by exact M2.out (m + m'))).mono ?_
  rintro e w1 ⟨rfl, rfl⟩
  go_wp2_with fail
  refine (sameMap_same r3 a7 n7 c7 S7 _ h7 (by exact G7.out (m + m')) HS7.out (by exact M3.out (m + m'))).mono ?_
  rintro e w1 ⟨rfl, rfl⟩
  go_wp2
  go_ret
  exact ⟨rfl, below_allocN _ _ _⟩

end Go.Proofs.Qxb6604472a
