import Derived.Test.Qxb6604472aSpecsAny
import Derived.Test.Qxb6604472aOver
namespace Go.Proofs.Qxb6604472a
open Go.RowKit Go.Maps Go.ChangeMaps Go.WideMaps
attribute [local go_sem] eq22 eq31
attribute [local go_sem ↓] Go.wp_at_zero Go.wp_at_succ

theorem eq29 (w : World) (a : Option Addr) (n c : Nat) : (binOp .eql 29 (.slice a n c) (.slice none 0 0)).run Try.prog w = .ok (.bool a.isNone) w := Lib.run_eql_slice_nil w 29 33 a n c 0 0 Try.underlying29
attribute [local go_sem] eq29

theorem bnext {a b c : World} (h : Below a.heap.size a b) (k : Below b.heap.size b c) : Below a.heap.size a c := h.trans (k.mono h.size)

theorem new5 {W wr : World} {x0 x1 x2 x3 x4 : Value} {e : TypeId} (hW : W = wr.alloc (.cells #[x0, x1, x2, x3, x4] e)) :
    W.cell? ⟨wr.heap.size, 0, none⟩ = some x0 ∧ W.cell? ⟨wr.heap.size, 1, none⟩ = some x1 ∧ W.cell? ⟨wr.heap.size, 2, none⟩ = some x2 ∧ W.cell? ⟨wr.heap.size, 3, none⟩ = some x3 ∧ W.cell? ⟨wr.heap.size, 4, none⟩ = some x4 ∧ Below wr.heap.size wr W := by
  subst hW
  have hh := heap_alloc_new wr (.cells #[x0, x1, x2, x3, x4] e)
  refine ⟨?_, ?_, ?_, ?_, ?_, (Below.refl _ _).alloc (Nat.le_refl _) _⟩ <;> (simp only [World.cell?, hh]; rfl)

/-- What the law's loop leans on, of the world in which it begins. -/
structure LawW (W : World) (n : Nat) (S : Nat → ByteArray) (ado ads a0 : Option Addr) (F : SpecF) (a2 : Option Addr) (n2 : Nat) (A2 : Nat → Option Addr) (L2 C2 : Nat → Nat) (S2 : Nat → Nat → ByteArray) (a4 : Option Addr) (n4 : Nat) (A4 : Nat → Option Addr) (L4 C4 : Nat → Nat) (S4 : Nat → Nat → ByteArray) : Prop where
  out : FivesAt W ado n F
  specs : FivesAt W ads n F
  ok : SpecsOk W F n S
  pids : StrsAt W a0 n S
  pg : NestAt W a2 n2 A2 L2 C2 S2
  pr : NestAt W a4 n4 A4 L4 C4 S4
  s2 : ∀ i j, (S2 i j).size ≤ maxLen
  s4 : ∀ i j, (S4 i j).size ≤ maxLen

theorem LawW.below {W W' : World} {n : Nat} {S : Nat → ByteArray} {ado ads a0 : Option Addr} {F : SpecF} {a2 : Option Addr} {n2 : Nat} {A2 : Nat → Option Addr} {L2 C2 : Nat → Nat} {S2 : Nat → Nat → ByteArray} {a4 : Option Addr} {n4 : Nat} {A4 : Nat → Option Addr} {L4 C4 : Nat → Nat} {S4 : Nat → Nat → ByteArray}
    (h : LawW W n S ado ads a0 F a2 n2 A2 L2 C2 S2 a4 n4 A4 L4 C4 S4) (hb : Below W.heap.size W W') : LawW W' n S ado ads a0 F a2 n2 A2 L2 C2 S2 a4 n4 A4 L4 C4 S4 :=
  ⟨h.out.below hb, h.specs.below hb, h.ok.below hb, h.pids.below hb, h.pg.below hb, h.pr.below hb, h.s2, h.s4⟩

/-- b1FieldsMatch at specifier k of the row, against itself. -/
theorem fields_law {W : World} {n : Nat} {S : Nat → ByteArray} {ado ads a0 : Option Addr} {F : SpecF} {a2 : Option Addr} {n2 : Nat} {A2 : Nat → Option Addr} {L2 C2 : Nat → Nat} {S2 : Nat → Nat → ByteArray} {a4 : Option Addr} {n4 : Nat} {A4 : Nat → Option Addr} {L4 C4 : Nat → Nat} {S4 : Nat → Nat → ByteArray}
    (h : LawW W n S ado ads a0 F a2 n2 A2 L2 C2 S2 a4 n4 A4 L4 C4 S4) (k : Nat) (hk : k < n) :
    Calls Try.prog 12 #[.string (F.P k), .slice (F.A1 k) (F.N1 k) (F.C1 k), .map (F.R2 k), .map (F.R3 k), .slice (F.A4 k) (F.N4 k) (F.C4 k), .agg #[.string (F.P k), .slice (F.A1 k) (F.N1 k) (F.C1 k), .map (F.R2 k), .map (F.R3 k), .slice (F.A4 k) (F.N4 k) (F.C4 k)],
      .slice (atA n2 A2 k) (atN n2 L2 k) (atN n2 C2 k), .slice (atA n4 A4 k) (atN n4 L4 k) (atN n4 C4 k)] W fun e w' => e = .returned (.bool true) ∧ Below W.heap.size W w' := by
  obtain ⟨_, h1, h4, ⟨S1, g1⟩, ⟨S4', g4⟩, m2, m3⟩ := h.ok k hk
  have f2 := at_facts h.pg k
  have f4 := at_facts h.pr k
  exact fields_same _ _ _ _ S1 _ _ _ _ _ S4' _ _ _ (S2 k) _ _ _ (S4 k) W h1 h4 (by have := f2.1; unfold maxLen; omega) (by have := f4.1; unfold maxLen; omega) g1 g4 f2.2.2 f4.2.2 m2 m3 (h.s2 k) (h.s4 k)

end Go.Proofs.Qxb6604472a
