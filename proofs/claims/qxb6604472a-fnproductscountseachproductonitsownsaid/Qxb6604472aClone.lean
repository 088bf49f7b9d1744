import Derived.Test.Qxb6604472aRow
import Derived.Maps.RangeWalk
import Derived.WalkSpells
namespace Go.Proofs.Qxb6604472a
open Go.RowKit

theorem info9 : (Try.prog.info? 9).map (fun i => (i.zero, i.size, i.bytes)) = some (some (.string ⟨#[]⟩), 1, 16) := by kernel_rfl
theorem info22 : (Try.prog.info? 22).map (fun i => (i.zero, i.size, i.bytes)) = some (some (.slice none 0 0), 1, 24) := by kernel_rfl

theorem eq22 (w : World) (a : Option Addr) (n c : Nat) : (binOp .eql 22 (.slice a n c) (.slice none 0 0)).run Try.prog w = .ok (.bool a.isNone) w := Lib.run_eql_slice_nil w 22 9 a n c 0 0 Try.underlying22
theorem eq23 (w : World) (a : Option Addr) (n c : Nat) : (binOp .eql 23 (.slice a n c) (.slice none 0 0)).run Try.prog w = .ok (.bool a.isNone) w := Lib.run_eql_slice_nil w 23 22 a n c 0 0 Try.underlying23
attribute [local go_sem] eq22 eq23

theorem cloneStrs_nil (w : World) : Calls Try.prog 8 #[.slice none 0 0] w fun e w' => e = .returned (.slice none 0 0) ∧ w' = w := by
  go_enter Try.func8, Try.ntmps8
  go_wp2
  go_ret
  exact ⟨rfl, rfl⟩

set_option maxHeartbeats 400000 in
theorem cloneStrs_some (a : Addr) (n cap : Nat) (S : Nat → ByteArray) (w : World) (hn : n * 16 ≤ 140737488351232) (h : StrsAt w (some a) n S) :
    Calls Try.prog 8 #[.slice (some a) n cap] w fun e w' => e = .returned (.slice (some ⟨w.heap.size, 0, none⟩) n n) ∧ StrsAt w' (some ⟨w.heap.size, 0, none⟩) n S ∧ Below w.heap.size w w' := by
  obtain ⟨i9, hi, hz0, hz1, hz2⟩ := info_parts info9
  have H : Hid (StrsAt w (some a) n S) := h
  clear h
  go_enter Try.func8, Try.ntmps8
  go_wp2_with (at_make; refine wpList_make_full _ rfl _ _ 22 rfl w.heap.size 9 i9 (.string ⟨#[]⟩) 1 Try.underlying22 hi hz0 hz1 _ _ _ _ n rfl rfl rfl rfl (by rw [hz2]; omega) (by unfold maxLen; omega) (Nat.le_refl _) ?_; intro w1 hown hgrow)
  have hb1 : Below w.heap.size w w1 := (Below.refl _ _).grown hgrow (Nat.le_refl _) (by simp)
  have hr1 : Row w1 w.heap.size 9 (madeCells (Value.string ⟨#[]⟩).cells (n * 1)).toList := Row.of_owns hown
  clear hown hgrow hi hz0 hz1 hz2
  go_loopw [4] (fun i wr => ∃ (k : Nat) (xs : List Value), k ≤ n ∧ i = .int .i64 k ∧ xs.length = n ∧ Row wr w.heap.size 9 xs ∧ (∀ i, i < k → xs[i]? = some (.string (S i))) ∧ Below w.heap.size w wr) (fun i _ => n - (intOf i).toNat)
  case atStart => exact ⟨0, _, Nat.zero_le _, rfl, by simp [size_madeCells], hr1, fun _ h => absurd h (Nat.not_lt_zero _), hb1⟩
  case round =>
    obtain ⟨k, xs, hk, rfl, hxl, hrow, hxs, hbel⟩ := hrel
    clear hb1 hr1
    by_cases hlt : k < n
    · obtain ⟨b, off, e, hc⟩ := H.out k hlt
      cases e
      have hcr : wr.cell? ⟨b, off + k, none⟩ = some (.string (S k)) := by rw [hbel.cell (lt_of_cell hc)]; exact hc
      have hcw : ∃ u, wr.cell? ⟨w.heap.size, k, none⟩ = some u := by rw [hrow.cell]; exact ⟨_, List.getElem?_eq_getElem (by omega)⟩
      obtain ⟨u, hcw⟩ := hcw
      have hfw : wr.frozen? ⟨w.heap.size, k, none⟩ = false := hrow.frozen k
      have R : Hid (Row (wr.setCell ⟨w.heap.size, k, none⟩ (.string (S k))) w.heap.size 9 (xs.set k (.string (S k))) ∧ Below w.heap.size w (wr.setCell ⟨w.heap.size, k, none⟩ (.string (S k)))) := ⟨hrow.set _ _, hbel.setCell (Nat.le_refl _) _⟩
      have HX : Hid (∀ i, i < k → xs[i]? = some (.string (S i))) := hxs
      clear hc hrow hbel hxs
      go_wp2
      go_roundw
      case rel =>
        refine ⟨k + 1, _, by omega, by go_num, by simpa using hxl, R.out.1, ?_, R.out.2⟩
        intro i hi
        by_cases e : i = k
        · subst e; rw [List.getElem?_set_self (by omega)]
        · rw [List.getElem?_set_ne (by omega)]; exact HX.out i (by omega)
      case measure => simp [intOf]; omega
    · have : k = n := by omega
      subst this
      have R : Hid (StrsAt wr (some ⟨w.heap.size, 0, none⟩) k S ∧ Below w.heap.size w wr) := ⟨StrsAt.of_row hrow hxs, hbel⟩
      clear hrow hxs hbel
      go_wp2
      go_ret
      exact ⟨rfl, R.out⟩


/-- b1CloneStrs: a new slice of the same strings; nil of nil. -/
theorem cloneStrs_any (ad : Option Addr) (n cap : Nat) (S : Nat → ByteArray) (w : World) (hn : n * 16 ≤ 140737488351232) (hnil : ad = none → n = 0 ∧ cap = 0) (h : StrsAt w ad n S) :
    Calls Try.prog 8 #[.slice ad n cap] w fun e w' => ∃ ad' cap', e = .returned (.slice ad' n cap') ∧ (ad' = none → n = 0 ∧ cap' = 0) ∧ (∀ b off, ad' = some ⟨b, off, none⟩ → w.heap.size ≤ b) ∧ StrsAt w' ad' n S ∧ Below w.heap.size w w' := by
  cases ad with
  | none =>
    obtain ⟨rfl, rfl⟩ := hnil rfl
    refine (cloneStrs_nil w).mono ?_
    rintro e w' ⟨rfl, rfl⟩
    exact ⟨none, 0, rfl, fun _ => ⟨rfl, rfl⟩, fun _ _ h => (by cases h), fun i hi => absurd hi (Nat.not_lt_zero _), Below.refl _ _⟩
  | some a =>
    refine (cloneStrs_some a n cap S w hn h).mono ?_
    rintro e w' ⟨rfl, h1, h2⟩
    exact ⟨_, n, rfl, fun h => (by cases h), fun b off h => (by cases h; exact Nat.le_refl _), h1, h2⟩

theorem cloneNested_nil (w : World) : Calls Try.prog 9 #[.slice none 0 0] w fun e w' => e = .returned (.slice none 0 0) ∧ w' = w := by
  go_enter Try.func9, Try.ntmps9
  go_wp2
  go_ret
  exact ⟨rfl, rfl⟩

/-- What cell i of the new outer slice holds. -/
def Inner (w : World) (g : Nat) (L : Nat → Nat) (S : Nat → Nat → ByteArray) (i : Nat) (v : Value) : Prop :=
  ∃ ad cap, v = .slice ad (L i) cap ∧ (ad = none → L i = 0 ∧ cap = 0) ∧ (∀ b off, ad = some ⟨b, off, none⟩ → g < b) ∧ StrsAt w ad (L i) (S i)

theorem Inner.below {w w' : World} {g : Nat} {L : Nat → Nat} {S : Nat → Nat → ByteArray} {i : Nat} {v : Value} (h : Inner w g L S i v) (hb : Below w.heap.size w w') : Inner w' g L S i v := by
  obtain ⟨ad, cap, h1, h2, h3, h4⟩ := h
  exact ⟨ad, cap, h1, h2, h3, h4.below hb⟩

theorem Inner.setCell {w : World} {g : Nat} {L : Nat → Nat} {S : Nat → Nat → ByteArray} {i : Nat} {v : Value} (h : Inner w g L S i v) (j : Nat) (u : Value) : Inner (w.setCell ⟨g, j, none⟩ u) g L S i v := by
  obtain ⟨ad, cap, h1, h2, h3, h4⟩ := h
  exact ⟨ad, cap, h1, h2, h3, h4.setCell (fun b off e => by have := h3 b off e; simp; omega) u⟩

/-- One round of b1CloneNested, outside the walk. -/
theorem nested_step {w wr w1 : World} {n k : Nat} {L : Nat → Nat} {S : Nat → Nat → ByteArray} {xs : List Value} {ad : Option Addr} {cap : Nat} (hk : k < n) (hxl : xs.length = n)
    (hrow : Row wr w.heap.size 22 xs) (hxs : ∀ i, i < k → ∃ v, xs[i]? = some v ∧ Inner wr w.heap.size L S i v) (hbel : Below w.heap.size w wr)
    (hnil : ad = none → L k = 0 ∧ cap = 0) (hnew : ∀ b off, ad = some ⟨b, off, none⟩ → wr.heap.size ≤ b) (hS : StrsAt w1 ad (L k) (S k)) (hb1 : Below wr.heap.size wr w1) :
    Row (w1.setCell ⟨w.heap.size, k, none⟩ (.slice ad (L k) cap)) w.heap.size 22 (xs.set k (.slice ad (L k) cap)) ∧
    (∀ i, i < k + 1 → ∃ v, (xs.set k (.slice ad (L k) cap))[i]? = some v ∧ Inner (w1.setCell ⟨w.heap.size, k, none⟩ (.slice ad (L k) cap)) w.heap.size L S i v) ∧
    Below w.heap.size w (w1.setCell ⟨w.heap.size, k, none⟩ (.slice ad (L k) cap)) ∧
    (∃ u, w1.cell? ⟨w.heap.size, k, none⟩ = some u) ∧ w1.frozen? ⟨w.heap.size, k, none⟩ = false := by
  have hlt := hrow.lt
  have hrow1 : Row w1 w.heap.size 22 xs := hrow.below hb1 hlt
  refine ⟨hrow1.set _ _, ?_, ?_, ?_, hrow1.frozen _⟩
  · intro i hi
    by_cases e : i = k
    · subst e
      rw [List.getElem?_set_self (by omega)]
      refine ⟨_, rfl, Inner.setCell ⟨ad, cap, rfl, hnil, fun b off e => by have := hnew b off e; omega, hS⟩ _ _⟩
    · rw [List.getElem?_set_ne (by omega)]
      obtain ⟨v, hv, hI⟩ := hxs i (by omega)
      exact ⟨v, hv, (hI.below hb1).setCell _ _⟩
  · exact (hbel.trans (hb1.mono (by omega))).setCell (Nat.le_refl _) _
  · rw [hrow1.cell]
    exact ⟨_, List.getElem?_eq_getElem (by omega)⟩

/-- The end of it. -/
theorem nested_done {w wr : World} {n : Nat} {L : Nat → Nat} {S : Nat → Nat → ByteArray} {xs : List Value} (hL : ∀ i, i < n → L i * 16 ≤ 140737488351232)
    (hrow : Row wr w.heap.size 22 xs) (hxs : ∀ i, i < n → ∃ v, xs[i]? = some v ∧ Inner wr w.heap.size L S i v) :
    ∃ A C, NestAt wr (some ⟨w.heap.size, 0, none⟩) n A L C S := by
  have h : ∀ i, ∃ p : Option Addr × Nat, i < n → (xs[i]? = some (.slice p.1 (L i) p.2) ∧ (p.1 = none → L i = 0 ∧ p.2 = 0) ∧ StrsAt wr p.1 (L i) (S i)) := by
    intro i
    by_cases hi : i < n
    · obtain ⟨v, hv, ad, cap, rfl, h2, h3, h4⟩ := hxs i hi
      exact ⟨(ad, cap), fun _ => ⟨hv, h2, h4⟩⟩
    · exact ⟨(none, 0), fun h => absurd h hi⟩
  refine ⟨fun i => (Classical.choose (h i)).1, fun i => (Classical.choose (h i)).2, fun i hi => ?_⟩
  obtain ⟨h1, h2, h3⟩ := Classical.choose_spec (h i) hi
  exact ⟨hL i hi, h2, h3, w.heap.size, 0, rfl, by rw [Nat.zero_add, hrow.cell]; exact h1⟩

set_option maxHeartbeats 400000 in
theorem cloneNested_some (a : Addr) (n cap : Nat) (A : Nat → Option Addr) (L C : Nat → Nat) (S : Nat → Nat → ByteArray) (w : World) (hn : n * 24 ≤ 140737488351232) (h : NestAt w (some a) n A L C S) :
    Calls Try.prog 9 #[.slice (some a) n cap] w fun e w' => e = .returned (.slice (some ⟨w.heap.size, 0, none⟩) n n) ∧ (∃ A' C', NestAt w' (some ⟨w.heap.size, 0, none⟩) n A' L C' S) ∧ Below w.heap.size w w' := by
  obtain ⟨i22, hi, hz0, hz1, hz2⟩ := info_parts info22
  have H : Hid (NestAt w (some a) n A L C S) := h
  clear h
  go_enter Try.func9, Try.ntmps9
  go_wp2_with (at_make; refine wpList_make_full _ rfl _ _ 23 rfl w.heap.size 22 i22 (.slice none 0 0) 1 Try.underlying23 hi hz0 hz1 _ _ _ _ n rfl rfl rfl rfl (by rw [hz2]; omega) (by unfold maxLen; omega) (Nat.le_refl _) ?_; intro w1 hown hgrow)
  have hb1 : Below w.heap.size w w1 := (Below.refl _ _).grown hgrow (Nat.le_refl _) (by simp)
  have hr1 : Row w1 w.heap.size 22 (madeCells (Value.slice none 0 0).cells (n * 1)).toList := Row.of_owns hown
  clear hown hgrow hi hz0 hz1 hz2
  go_loopw [4] (fun i wr => ∃ (k : Nat) (xs : List Value), k ≤ n ∧ i = .int .i64 k ∧ xs.length = n ∧ Row wr w.heap.size 22 xs ∧ (∀ i, i < k → ∃ v, xs[i]? = some v ∧ Inner wr w.heap.size L S i v) ∧ Below w.heap.size w wr) (fun i _ => n - (intOf i).toNat)
  case atStart => exact ⟨0, _, Nat.zero_le _, rfl, by simp [size_madeCells], hr1, fun _ h => absurd h (Nat.not_lt_zero _), hb1⟩
  case round =>
    obtain ⟨k, xs, hk, rfl, hxl, hrow, hxs, hbel⟩ := hrel
    clear hb1 hr1
    by_cases hlt : k < n
    · obtain ⟨hL, hN, hS, b, off, e, hc⟩ := H.out k hlt
      cases e
      have hcr : wr.cell? ⟨b, off + k, none⟩ = some (.slice (A k) (L k) (C k)) := by rw [hbel.cell (lt_of_cell hc)]; exact hc
      have HC : Hid (Calls Try.prog 8 #[.slice (A k) (L k) (C k)] wr fun e w' => ∃ ad' cap', e = .returned (.slice ad' (L k) cap') ∧ Hid (Row (w'.setCell ⟨w.heap.size, k, none⟩ (.slice ad' (L k) cap')) w.heap.size 22 (xs.set k (.slice ad' (L k) cap')) ∧
          (∀ i, i < k + 1 → ∃ v, (xs.set k (.slice ad' (L k) cap'))[i]? = some v ∧ Inner (w'.setCell ⟨w.heap.size, k, none⟩ (.slice ad' (L k) cap')) w.heap.size L S i v) ∧ Below w.heap.size w (w'.setCell ⟨w.heap.size, k, none⟩ (.slice ad' (L k) cap'))) ∧ 
          (∃ u, w'.cell? ⟨w.heap.size, k, none⟩ = some u) ∧ w'.frozen? ⟨w.heap.size, k, none⟩ = false) := by
        refine (cloneStrs_any (A k) (L k) (C k) (S k) wr hL hN (hS.below hbel)).mono ?_
        rintro e w1 ⟨ad', cap', rfl, h1, h2, h3, h4⟩
        obtain ⟨r1, r2, r3, r4, r5⟩ := nested_step hlt hxl hrow hxs hbel h1 h2 h3 h4
        exact ⟨ad', cap', rfl, ⟨r1, r2, r3⟩, r4, r5⟩
      clear hc hrow hbel hxs hL hN hS
      go_wp2_with (go_at_call 8; refine HC.out.mono ?_; rintro e w2 ⟨ad2, cap2, rfl, R, ⟨u, hcw⟩, hfw⟩)
      go_roundw
      case rel =>
        exact ⟨k + 1, _, by omega, by go_num, by simpa using hxl, R.out.1, R.out.2.1, R.out.2.2⟩
      case measure => simp [intOf]; omega
    · have : k = n := by omega
      subst this
      have R : Hid ((∃ A' C', NestAt wr (some ⟨w.heap.size, 0, none⟩) k A' L C' S) ∧ Below w.heap.size w wr) := ⟨nested_done (fun i hi => (H.out i hi).1) hrow hxs, hbel⟩
      clear hrow hxs hbel
      go_wp2
      go_ret
      exact ⟨rfl, R.out⟩

/-- b1CloneNested: a new slice of new slices of the same strings; nil of nil. -/
theorem cloneNested_any (ad : Option Addr) (n cap : Nat) (A : Nat → Option Addr) (L C : Nat → Nat) (S : Nat → Nat → ByteArray) (w : World) (hn : n * 24 ≤ 140737488351232) (hnil : ad = none → n = 0 ∧ cap = 0) (h : NestAt w ad n A L C S) :
    Calls Try.prog 9 #[.slice ad n cap] w fun e w' => ∃ ad' cap' A' C', e = .returned (.slice ad' n cap') ∧ NestAt w' ad' n A' L C' S ∧ Below w.heap.size w w' := by
  cases ad with
  | none =>
    obtain ⟨rfl, rfl⟩ := hnil rfl
    refine (cloneNested_nil w).mono ?_
    rintro e w' ⟨rfl, rfl⟩
    exact ⟨none, 0, A, C, rfl, fun i hi => absurd hi (Nat.not_lt_zero _), Below.refl _ _⟩
  | some a =>
    refine (cloneNested_some a n cap A L C S w hn h).mono ?_
    rintro e w' ⟨rfl, ⟨A', C', h1⟩, h2⟩
    exact ⟨_, n, A', C', rfl, h1, h2⟩

end Go.Proofs.Qxb6604472a
