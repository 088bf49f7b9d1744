import Derived.Test.Qxb6604472aJson
namespace Go.Proofs.Qxb6604472a
open Go.RowKit Go.Maps Go.ChangeMaps Go.WideMaps

/-- What the n specifiers hold can be read in w; their ids are S. -/
def SpecsOk (w : World) (F : SpecF) (n : Nat) (S : Nat → ByteArray) : Prop :=
  ∀ i, i < n → F.P i = S i ∧ F.N1 i ≤ maxLen ∧ F.N4 i ≤ maxLen ∧ (∃ S1, StrsAt w (F.A1 i) (F.N1 i) S1) ∧ (∃ S4, StrsAt w (F.A4 i) (F.N4 i) S4) ∧ MapIs w (F.R2 i) ∧ MapIs w (F.R3 i)

theorem SpecsOk.below {w w' : World} {F : SpecF} {n : Nat} {S : Nat → ByteArray} (h : SpecsOk w F n S) (hb : Below w.heap.size w w') : SpecsOk w' F n S := by
  intro i hi
  obtain ⟨h1, h2, h3, ⟨S1, h4⟩, ⟨S4, h5⟩, h6, h7⟩ := h i hi
  exact ⟨h1, h2, h3, ⟨S1, h4.below hb⟩, ⟨S4, h5.below hb⟩, h6.below hb, h7.below hb⟩

theorem specs_pick {w w' : World} {g n : Nat} {S : Nat → ByteArray} {xs : List Value} (hrow : Row w' g 36 xs) (hb : Below w.heap.size w w') (h : ∀ i, i < n → ∃ cs, (∀ j, j < 5 → xs[i * 5 + j]? = cs[j]?) ∧ SpecC w w' (S i) cs) :
    ∃ F, FivesAt w' (some ⟨g, 0, none⟩) n F ∧ SpecsOk w' F n S := by
  have pick : ∀ i, ∃ t : ByteArray × (Option Addr × Nat × Nat) × Option Nat × Option Nat × (Option Addr × Nat × Nat), i < n →
      (∀ j, j < 5 → xs[i * 5 + j]? = [Value.string t.1, .slice t.2.1.1 t.2.1.2.1 t.2.1.2.2, .map t.2.2.1, .map t.2.2.2.1, .slice t.2.2.2.2.1 t.2.2.2.2.2.1 t.2.2.2.2.2.2][j]?) ∧
      t.1 = S i ∧ t.2.1.2.1 ≤ maxLen ∧ t.2.2.2.2.2.1 ≤ maxLen ∧ (∃ S1, StrsAt w' t.2.1.1 t.2.1.2.1 S1) ∧ (∃ S4, StrsAt w' t.2.2.2.2.1 t.2.2.2.2.2.1 S4) ∧ MapIs w' t.2.2.1 ∧ MapIs w' t.2.2.2.1 := by
    intro i
    by_cases hi : i < n
    · obtain ⟨cs, h5, a1, n1, c1, S1, r2, r3, a4, n4, c4, S4, rfl, h1, h4, g1, g4, m2, m3⟩ := h i hi
      exact ⟨(S i, (a1, n1, c1), r2, r3, (a4, n4, c4)), fun _ => ⟨h5, rfl, h1, h4, ⟨S1, g1.below hb⟩, ⟨S4, g4.below hb⟩, m2, m3⟩⟩
    · exact ⟨(ByteArray.empty, (none, 0, 0), none, none, (none, 0, 0)), fun h => absurd h hi⟩
  refine ⟨{ P := fun i => (Classical.choose (pick i)).1, A1 := fun i => (Classical.choose (pick i)).2.1.1, N1 := fun i => (Classical.choose (pick i)).2.1.2.1, C1 := fun i => (Classical.choose (pick i)).2.1.2.2, R2 := fun i => (Classical.choose (pick i)).2.2.1, R3 := fun i => (Classical.choose (pick i)).2.2.2.1, A4 := fun i => (Classical.choose (pick i)).2.2.2.2.1, N4 := fun i => (Classical.choose (pick i)).2.2.2.2.2.1, C4 := fun i => (Classical.choose (pick i)).2.2.2.2.2.2 }, ?_, ?_⟩
  · intro i hi
    exact ⟨g, 0, rfl, fun j hj => by rw [Nat.zero_add, hrow.cell]; exact (Classical.choose_spec (pick i) hi).1 j hj⟩
  · intro i hi
    exact (Classical.choose_spec (pick i) hi).2

/-- b1Specs. -/
theorem specs_any (a : Option Addr) (n c : Nat) (S : Nat → ByteArray)
    (a1 : Option Addr) (n1 c1 : Nat) (A1 : Nat → Option Addr) (L1 C1 : Nat → Nat) (S1 : Nat → Nat → ByteArray)
    (a2 : Option Addr) (n2 c2 : Nat) (A2 : Nat → Option Addr) (L2 C2 : Nat → Nat) (S2 : Nat → Nat → ByteArray)
    (a3 : Option Addr) (n3 c3 : Nat) (A3 : Nat → Option Addr) (L3 C3 : Nat → Nat) (S3 : Nat → Nat → ByteArray)
    (a4 : Option Addr) (n4 c4 : Nat) (A4 : Nat → Option Addr) (L4 C4 : Nat → Nat) (S4 : Nat → Nat → ByteArray)
    (a5 : Option Addr) (n5 c5 : Nat) (A5 : Nat → Option Addr) (L5 C5 : Nat → Nat) (S5 : Nat → Nat → ByteArray)
    (a6 : Option Addr) (n6 c6 : Nat) (A6 : Nat → Option Addr) (L6 C6 : Nat → Nat) (S6 : Nat → Nat → ByteArray) (w : World)
    (hn : n ≤ 4096) (hnil : a = none → n = 0 ∧ c = 0) (h0 : StrsAt w a n S) (h1 : NestAt w a1 n1 A1 L1 C1 S1) (h2 : NestAt w a2 n2 A2 L2 C2 S2) (h3 : NestAt w a3 n3 A3 L3 C3 S3) (h4 : NestAt w a4 n4 A4 L4 C4 S4) (h5 : NestAt w a5 n5 A5 L5 C5 S5) (h6 : NestAt w a6 n6 A6 L6 C6 S6)
    (s2 : ∀ i j, (S2 i j).size ≤ maxLen) (s3 : ∀ i j, (S3 i j).size ≤ maxLen) (s4 : ∀ i j, (S4 i j).size ≤ maxLen) (s5 : ∀ i j, (S5 i j).size ≤ maxLen) :
    Calls Try.prog 10 #[.slice a n c, .slice a1 n1 c1, .slice a2 n2 c2, .slice a3 n3 c3, .slice a4 n4 c4, .slice a5 n5 c5, .slice a6 n6 c6] w fun e w' => ∃ ad F, e = .returned (.slice ad n n) ∧
      ((ad = none ∧ n = 0) ∨ ∃ g, ad = some ⟨g, 0, none⟩) ∧ FivesAt w' ad n F ∧ SpecsOk w' F n S ∧ Below w.heap.size w w' := by
  cases a with
  | none =>
    obtain ⟨rfl, rfl⟩ := hnil rfl
    refine (specs_nil a1 a2 a3 a4 a5 a6 n1 c1 n2 c2 n3 c3 n4 c4 n5 c5 n6 c6 w).mono ?_
    rintro e w' ⟨rfl, rfl⟩
    exact ⟨none, ⟨fun _ => ByteArray.empty, fun _ => none, fun _ => 0, fun _ => 0, fun _ => none, fun _ => none, fun _ => none, fun _ => 0, fun _ => 0⟩, rfl, .inl ⟨rfl, rfl⟩, fun i hi => absurd hi (Nat.not_lt_zero _), fun i hi => absurd hi (Nat.not_lt_zero _), Below.refl _ _⟩
  | some a =>
    refine (specs_some a n c S a1 n1 c1 A1 L1 C1 S1 a2 n2 c2 A2 L2 C2 S2 a3 n3 c3 A3 L3 C3 S3 a4 n4 c4 A4 L4 C4 S4 a5 n5 c5 A5 L5 C5 S5 a6 n6 c6 A6 L6 C6 S6 w hn h0 h1 h2 h3 h4 h5 h6 s2 s3 s4 s5).mono ?_
    rintro e w' ⟨rfl, ⟨xs, hrow, hxl, hxs⟩, hb⟩
    obtain ⟨F, hF1, hF2⟩ := specs_pick hrow hb hxs
    exact ⟨_, F, rfl, .inr ⟨_, rfl⟩, hF1, hF2, hb⟩

end Go.Proofs.Qxb6604472a
