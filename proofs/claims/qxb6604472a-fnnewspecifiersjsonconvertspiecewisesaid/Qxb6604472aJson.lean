import Derived.Test.Qxb6604472aSpecs
namespace Go.Proofs.Qxb6604472a
open Go.RowKit Go.Maps Go.ChangeMaps Go.WideMaps
attribute [local go_sem] eq22 eq31

/-- The fields of a row of specifiers, by index. -/
structure SpecF where
  P : Nat → ByteArray
  A1 : Nat → Option Addr
  N1 : Nat → Nat
  C1 : Nat → Nat
  R2 : Nat → Option Nat
  R3 : Nat → Option Nat
  A4 : Nat → Option Addr
  N4 : Nat → Nat
  C4 : Nat → Nat

def SpecF.cells (F : SpecF) (i : Nat) : List Value := [.string (F.P i), .slice (F.A1 i) (F.N1 i) (F.C1 i), .map (F.R2 i), .map (F.R3 i), .slice (F.A4 i) (F.N4 i) (F.C4 i)]

/-- n specifiers can be read at 'ad'. -/
def FivesAt (w : World) (ad : Option Addr) (n : Nat) (F : SpecF) : Prop :=
  ∀ i, i < n → ∃ b off, ad = some ⟨b, off, none⟩ ∧ ∀ j, j < 5 → w.cell? ⟨b, off + i * 5 + j, none⟩ = (F.cells i)[j]?

theorem FivesAt.below {w w' : World} {ad : Option Addr} {n : Nat} {F : SpecF} (h : FivesAt w ad n F) (hb : Below w.heap.size w w') : FivesAt w' ad n F := by
  intro i hi
  obtain ⟨b, off, e, hc⟩ := h i hi
  refine ⟨b, off, e, fun j hj => ?_⟩
  have h5 : (F.cells i)[j]? = some ((F.cells i)[j]'(by simp [SpecF.cells]; omega)) := List.getElem?_eq_getElem _
  have := hc j hj
  rw [h5] at this ⊢
  exact cell_keep hb this

/-- Their cells in a row. -/
def flat (F : SpecF) : Nat → List Value
  | 0 => []
  | k + 1 => flat F k ++ F.cells k

theorem flat_length (F : SpecF) (k : Nat) : (flat F k).length = k * 5 := by
  induction k with
  | zero => rfl
  | succ k ih => simp [flat, ih, SpecF.cells]; omega

theorem flat_get (F : SpecF) (k i j : Nat) (hi : i < k) (hj : j < 5) : (flat F k)[i * 5 + j]? = (F.cells i)[j]? := by
  induction k with
  | zero => omega
  | succ k ih =>
    unfold flat
    by_cases e : i < k
    · rw [List.getElem?_append_left (by rw [flat_length]; omega)]
      exact ih e
    · obtain rfl : i = k := by omega
      rw [List.getElem?_append_right (by rw [flat_length]; omega), flat_length, show i * 5 + j - i * 5 = j by omega]

theorem cells_one (F : SpecF) (k : Nat) : ∀ u ∈ F.cells k, u.oneCell' = true := by
  intro u hu
  simp [SpecF.cells] at hu
  rcases hu with rfl | rfl | rfl | rfl | rfl <;> rfl

theorem news5 (W : World) (g : Nat) (F : SpecF) (k : Nat) (e : TypeId) (hg : W.heap.size = g) : ∀ j u, (F.cells k)[j]? = some u → (W.alloc (.cells #[.string (F.P k), .slice (F.A1 k) (F.N1 k) (F.C1 k), .map (F.R2 k), .map (F.R3 k), .slice (F.A4 k) (F.N4 k) (F.C4 k)] e)).cell? ((⟨g, 0, none⟩ : Addr).add j) = some u := by
  intro j u hu
  subst hg
  have hh := heap_alloc_new W (.cells #[.string (F.P k), .slice (F.A1 k) (F.N1 k) (F.C1 k), .map (F.R2 k), .map (F.R3 k), .slice (F.A4 k) (F.N4 k) (F.C4 k)] e)
  have ha : (⟨W.heap.size, 0, none⟩ : Addr).add j = ⟨W.heap.size, j, none⟩ := by unfold Addr.add; split <;> simp_all
  rw [ha]
  simp only [World.cell?, hh]
  simpa [SpecF.cells] using hu

set_option maxHeartbeats 1000000 in
set_option maxRecDepth 100000 in
theorem json_any (ad : Option Addr) (n c : Nat) (F : SpecF) (w : World) (hn : n ≤ 4096) (h : FivesAt w ad n F) :
    Calls Try.prog 25 #[.slice ad n c] w fun e w' => ∃ v, e = .returned v ∧ w'.ownsRow w.heap.size 33 5 v n (flat F n) ∧ (v = .slice none 0 0 ↔ n = 0) ∧ Below w.heap.size w w' := by
  obtain ⟨i33, hi, hz0, hz1, hz2⟩ := info_parts info33
  have H : Hid (FivesAt w ad n F) := h
  clear h
  go_enter Try.func25, Try.ntmps25
  go_wp2
  go_loopw [3, 8] (fun v i wr => ∃ (k : Nat), k ≤ n ∧ i = .int .i64 k ∧ wr.ownsRow w.heap.size 33 5 v k (flat F k) ∧ (v = .slice none 0 0 ↔ k = 0) ∧ Below w.heap.size w wr) (fun _ i _ => n - (intOf i).toNat)
  case atStart => exact ⟨0, Nat.zero_le _, rfl, World.ownsRow_nil _ _ _ _, by simp, Below.refl _ _⟩
  case round =>
    obtain ⟨k, hk, rfl, hown, hnil, hbel⟩ := hrel
    by_cases hlt : k < n
    · obtain ⟨b, off, rfl, hc⟩ := H.out k hlt
      have hcw : ∀ j v, j < 5 → (F.cells k)[j]? = some v → wr.cell? ⟨b, off + k * 5 + j, none⟩ = some v := fun j v hj hv => cell_later hbel ((hc j hj).trans hv)
      have e0 : wr.cell? ⟨b, off + k * 5, none⟩ = some (.string (F.P k)) := hcw 0 _ (by omega) rfl
      have e1 : wr.cell? ⟨b, off + k * 5 + 1, none⟩ = some (.slice (F.A1 k) (F.N1 k) (F.C1 k)) := hcw 1 _ (by omega) rfl
      have e2 : wr.cell? ⟨b, off + k * 5 + 2, none⟩ = some (.map (F.R2 k)) := hcw 2 _ (by omega) rfl
      have e3 : wr.cell? ⟨b, off + k * 5 + 3, none⟩ = some (.map (F.R3 k)) := hcw 3 _ (by omega) rfl
      have e4 : wr.cell? ⟨b, off + k * 5 + 4, none⟩ = some (.slice (F.A4 k) (F.N4 k) (F.C4 k)) := hcw 4 _ (by omega) rfl
      have HO : Hid (wr.ownsRow w.heap.size 33 5 u3 k (flat F k) ∧ Below w.heap.size w wr) := ⟨hown, hbel⟩
      clear hc hcw hnil hown hbel
      go_wp2_with (at_builtin; refine wpList_append_own _ rfl _ _ 29 rfl w.heap.size 33 i33 _ 5 80 Try.underlying29 hi hz0 hz1 hz2 rfl (by decide) _ k (flat F k) rfl ((HO.out.1.alloc _).alloc _) ⟨wr.heap.size + 1, 0, none⟩ 1 1 (F.cells k) rfl rfl (news5 _ _ F k 33 (by simp)) (cells_one F k) (by unfold maxLen; omega) (by omega) (by have := HO.out.2.size; simp; omega) ?_; intro v' w1 hown1 hgrow1 hnil1)
      have hB : Below w.heap.size w w1 := ((HO.out.2.alloc HO.out.2.size _).alloc (by have := HO.out.2.size; simp; omega) _).grown hgrow1 (by have := HO.out.2.size; simp; omega) (fun j hj => (HO.out.1.lt j hj).1)
      go_roundw
      case rel => exact ⟨k + 1, by omega, by go_num, hown1, by rw [hnil1]; simp, hB⟩
      case measure => simp [intOf]; omega
    · obtain rfl : k = n := by omega
      have HO : Hid (wr.ownsRow w.heap.size 33 5 u3 k (flat F k) ∧ (u3 = .slice none 0 0 ↔ k = 0) ∧ Below w.heap.size w wr) := ⟨hown, hnil, hbel⟩
      clear hown hnil hbel
      go_wp2
      go_ret
      exact ⟨_, rfl, HO.out⟩

/-- billing.ZZnewSpecifiersJSON. -/
theorem zzjson_any (ad : Option Addr) (n c : Nat) (F : SpecF) (w : World) (hn : n ≤ 4096) (h : FivesAt w ad n F) :
    Calls Try.prog 11 #[.slice ad n c] w fun e w' => ∃ ad' c', e = .returned (.slice ad' n c') ∧ (ad'.isNone = decide (n = 0)) ∧ FivesAt w' ad' n F ∧ Below w.heap.size w w' := by
  have H : Hid (FivesAt w ad n F) := h
  clear h
  go_enter Try.func11, Try.ntmps11
  go_wp2_with fail
  refine (json_any ad n c F _ hn H.out).mono ?_
  rintro e w1 ⟨v, rfl, hown, hnil, hB⟩
  have HE : Hid (∃ ad' c', v = .slice ad' n c' ∧ (ad'.isNone = decide (n = 0)) ∧ FivesAt w1 ad' n F ∧ Below w.heap.size w w1) := by
    rcases hown.2 with ⟨hv, h0⟩ | ⟨g, cap, cur, hv, hg, hh, h1, h2, h3, h4⟩
    · exact ⟨none, 0, by rw [hv, h0], by simp [h0], fun i hi => by omega, hB⟩
    · refine ⟨some ⟨g, 0, none⟩, cap, hv, ?_, fun i hi => ⟨g, 0, rfl, fun j hj => ?_⟩, hB⟩
      · have : ¬ n = 0 := fun e => by rw [hnil.2 e] at hv; cases hv
        simp [this]
      · rw [hv] at hown
        rw [hown.cellAt (0 + i * 5 + j) (by omega), Nat.zero_add]
        exact flat_get F n i j hi hj
  clear hown hnil hB
  go_wp2
  go_ret
  obtain ⟨ad', c', h1, h2, h3, h4⟩ := HE.out
  exact ⟨ad', c', by rw [h1]; rfl, h2, h3, h4⟩

end Go.Proofs.Qxb6604472a
