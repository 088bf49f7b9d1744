import Derived.Test.Qxb6604472aMake
import Derived.Test.Qxb6604472aOver
namespace Go.Proofs.Qxb6604472a
open Go.RowKit
attribute [local go_sem] eq22 ne22

theorem app_nil (a0 : Option Addr) (n0 c0 : Nat) (a1 : Option Addr) (n1 c1 : Nat) (w : World) :
    Calls Try.prog 18 #[.slice a0 n0 c0, .slice a1 n1 c1, .slice none 0 0] w fun e w' => e = .returned (.agg #[.slice a0 n0 c0, .slice a1 n1 c1, .slice none 0 0]) ∧ Below w.heap.size w w' := by
  go_enter Try.func18, Try.ntmps18
  go_wp2
  exact bodyPost_ret (v := .agg #[.slice a0 n0 c0, .slice a1 n1 c1, .slice none 0 0]) (by simp [results, Try.results18, go_sem]) rfl ⟨rfl, (Below.refl _ _).alloc (Nat.le_refl _) _⟩

set_option maxHeartbeats 1000000 in
theorem app_some (a0 : Option Addr) (n0 c0 : Nat) (a1 : Option Addr) (n1 c1 : Nat) (a : Addr) (n c : Nat) (S : Nat → ByteArray) (w : World) (hn : n ≤ 4096) (h : StrsAt w (some a) n S) :
    Calls Try.prog 18 #[.slice a0 n0 c0, .slice a1 n1 c1, .slice (some a) n c] w fun e w' => e = .returned (.agg #[.slice a0 n0 c0, .slice a1 n1 c1, .slice (some ⟨w.heap.size + 1, 0, none⟩) n n]) ∧ SpAt w' (some ⟨w.heap.size + 1, 0, none⟩) n S ∧ Below w.heap.size w w' := by
  obtain ⟨i36, hi, hz0, hz1, hz2⟩ := info_parts info36
  have H : Hid (StrsAt w (some a) n S) := h
  clear h
  go_enter Try.func18, Try.ntmps18
  go_wp2_with (at_make; refine wpList_make_full _ rfl _ _ 27 rfl w.heap.size 36 i36 _ 5 Try.underlying27 hi hz0 hz1 _ _ _ _ n rfl rfl rfl rfl (by rw [hz2]; omega) (by unfold maxLen; omega) (by simp) ?_; intro w1 hown hgrow)
  have hr0 : Row w1 w.heap.size 42 [.slice none 0 0, .slice none 0 0, .slice none 0 0] := Row.grown (w := w.alloc (.cells #[.slice none 0 0, .slice none 0 0, .slice none 0 0] 42)) (heap_alloc_new w _) hgrow (by simp)
  have hb1 : Below w.heap.size w w1 := ((Below.refl _ _).alloc (Nat.le_refl _) _).grown hgrow (by simp) (by simp)
  obtain ⟨xs0, hxl0, hr1⟩ : ∃ xs0 : List Value, xs0.length = n * 5 ∧ Row w1 (w.heap.size + 1) 36 xs0 := by
    have h := Row.of_owns hown
    have e : (w.alloc (.cells #[.slice none 0 0, .slice none 0 0, .slice none 0 0] 42)).heap.size = w.heap.size + 1 := by simp
    rw [e] at h
    exact ⟨_, by simp [size_madeCells], h⟩
  obtain ⟨g, hg⟩ : ∃ g, w.heap.size + 1 = g := ⟨_, rfl⟩
  rw [hg] at hr1 ⊢
  have HG : Hid (w.heap.size + 1 = g) := hg
  have hgl : w.heap.size < g := by omega
  have hgn : ¬ w.heap.size = g := by omega
  clear hg
  clear hown hgrow hi hz0 hz1 hz2
  go_loopw [8] (fun i wr => ∃ (k : Nat) (xs : List Value), k ≤ n ∧ i = .int .i64 k ∧ xs.length = n * 5 ∧ Row wr (g) 36 xs ∧ Row wr w.heap.size 42 [.slice none 0 0, .slice none 0 0, .slice none 0 0] ∧ (∀ i, i < k → xs[i * 5]? = some (.string (S i)) ∧ xs[i * 5 + 1]? = some (.slice none 0 0)) ∧ Below w.heap.size w wr) (fun i _ => n - (intOf i).toNat)
  case atStart => exact ⟨0, xs0, Nat.zero_le _, rfl, hxl0, hr1, hr0, fun _ h => absurd h (Nat.not_lt_zero _), hb1⟩
  case round =>
    obtain ⟨k, xs, hk, rfl, hxl, hrow, hrow0, hxs, hbel⟩ := hrel
    clear hb1 hr1 hr0
    by_cases hlt : k < n
    · obtain ⟨b, off, e, hc⟩ := H.out k hlt
      cases e
      have hcr : wr.cell? ⟨b, off + k, none⟩ = some (.string (S k)) := by rw [hbel.cell (lt_of_cell hc)]; exact hc
      have hcw : ∀ j, j < 5 → ∃ x, wr.cell? ⟨g, k * 5 + j, none⟩ = some x := fun j hj => by rw [hrow.cell]; exact ⟨_, List.getElem?_eq_getElem (by omega)⟩
      obtain ⟨x0, hx0⟩ := hcw 0 (by omega)
      obtain ⟨x1, hx1⟩ := hcw 1 (by omega)
      obtain ⟨x2, hx2⟩ := hcw 2 (by omega)
      obtain ⟨x3, hx3⟩ := hcw 3 (by omega)
      obtain ⟨x4, hx4⟩ := hcw 4 (by omega)
      rw [Nat.add_zero] at hx0
      have f0 : wr.frozen? ⟨g, k * 5, none⟩ = false := hrow.frozen _
      have f1 : wr.frozen? ⟨g, k * 5 + 1, none⟩ = false := hrow.frozen _
      have f2 : wr.frozen? ⟨g, k * 5 + 2, none⟩ = false := hrow.frozen _
      have f3 : wr.frozen? ⟨g, k * 5 + 3, none⟩ = false := hrow.frozen _
      have f4 : wr.frozen? ⟨g, k * 5 + 4, none⟩ = false := hrow.frozen _
      have R : Hid (Row (put5 wr (g) k (.string (S k)) (.slice none 0 0) (.map none) (.map none) (.slice none 0 0)) (g) 36 (set5 xs k (.string (S k)) (.slice none 0 0) (.map none) (.map none) (.slice none 0 0)) ∧
          Row (put5 wr (g) k (.string (S k)) (.slice none 0 0) (.map none) (.map none) (.slice none 0 0)) w.heap.size 42 [.slice none 0 0, .slice none 0 0, .slice none 0 0] ∧
          (∀ i, i < k + 1 → (set5 xs k (.string (S k)) (.slice none 0 0) (.map none) (.map none) (.slice none 0 0))[i * 5]? = some (.string (S i)) ∧ (set5 xs k (.string (S k)) (.slice none 0 0) (.map none) (.map none) (.slice none 0 0))[i * 5 + 1]? = some (.slice none 0 0)) ∧
          Below w.heap.size w (put5 wr (g) k (.string (S k)) (.slice none 0 0) (.map none) (.map none) (.slice none 0 0))) := by
        refine ⟨hrow.put5 _ _ _ _ _, ?_, fun i hi => ?_, below_put5 hbel (by omega) _ _ _ _ _ _⟩
        · exact ((((hrow0.setOther hgn _).setOther hgn _).setOther hgn _).setOther hgn _).setOther hgn _
        · by_cases e : i = k
          · subst e
            have h0 := set5_same xs i 0 (.string (S i)) (.slice none 0 0) (.map none) (.map none) (.slice none 0 0) (by omega) (by omega)
            have h1 := set5_same xs i 1 (.string (S i)) (.slice none 0 0) (.map none) (.map none) (.slice none 0 0) (by omega) (by omega)
            exact ⟨h0, h1⟩
          · have h0 := set5_other xs k i 0 (.string (S k)) (.slice none 0 0) (.map none) (.map none) (.slice none 0 0) e (by omega)
            have h1 := set5_other xs k i 1 (.string (S k)) (.slice none 0 0) (.map none) (.map none) (.slice none 0 0) e (by omega)
            rw [Nat.add_zero] at h0
            exact ⟨by rw [h0]; exact (hxs i (by omega)).1, by rw [h1]; exact (hxs i (by omega)).2⟩
      clear hc hrow hrow0 hxs hbel hcw
      go_wp2
      go_roundw
      case rel => exact ⟨k + 1, _, by omega, by go_num, by rw [set5_length]; exact hxl, R.out.1, R.out.2.1, R.out.2.2.1, R.out.2.2.2⟩
      case measure => simp [intOf]; omega
    · obtain rfl : k = n := by omega
      have hsp : SpAt wr (some ⟨g, 0, none⟩) k S := fun i hi => ⟨g, 0, rfl, by rw [Nat.zero_add, hrow.cell]; exact (hxs i hi).1, by rw [Nat.zero_add, hrow.cell]; exact (hxs i hi).2⟩
      have z0 : wr.cell? ⟨w.heap.size, 0, none⟩ = some (.slice none 0 0) := hrow0.cell 0
      have z1 : wr.cell? ⟨w.heap.size, 1, none⟩ = some (.slice none 0 0) := hrow0.cell 1
      have z2 : wr.cell? ⟨w.heap.size, 2, none⟩ = some (.slice none 0 0) := hrow0.cell 2
      have f0 : wr.frozen? ⟨w.heap.size, 0, none⟩ = false := hrow0.frozen _
      have f1 : wr.frozen? ⟨w.heap.size, 1, none⟩ = false := hrow0.frozen _
      have f2 : wr.frozen? ⟨w.heap.size, 2, none⟩ = false := hrow0.frozen _
      have R : Hid (SpAt wr (some ⟨g, 0, none⟩) k S ∧ Below w.heap.size w wr) := ⟨hsp, hbel⟩
      clear hsp hrow hrow0 hxs hbel hxl
      go_wp2
      refine bodyPost_ret (v := .agg #[.slice a0 n0 c0, .slice a1 n1 c1, .slice (some ⟨g, 0, none⟩) k k]) (by simp [results, Try.results18, go_sem, z0, z1, z2]) rfl ⟨by rw [HG.out], ?_, ?_⟩
      all_goals try rw [HG.out]
      · intro i hi
        obtain ⟨b, off, e, h1, h2⟩ := R.out.1 i hi
        cases e
        refine ⟨g, 0, rfl, ?_, ?_⟩
        · rw [World.cell?_of_block (w := wr)]; exact h1
          rw [Below.heap_setCell _ _ _ _ (Ne.symm hgn), Below.heap_setCell _ _ _ _ (Ne.symm hgn), Below.heap_setCell _ _ _ _ (Ne.symm hgn)]
        · rw [World.cell?_of_block (w := wr)]; exact h2
          rw [Below.heap_setCell _ _ _ _ (Ne.symm hgn), Below.heap_setCell _ _ _ _ (Ne.symm hgn), Below.heap_setCell _ _ _ _ (Ne.symm hgn)]
      · exact ((R.out.2.setCell (Nat.le_refl _) _).setCell (Nat.le_refl _) _).setCell (Nat.le_refl _) _

/-- b1Applicability. -/
theorem app_any (a0 : Option Addr) (n0 c0 : Nat) (a1 : Option Addr) (n1 c1 : Nat) (a : Option Addr) (n c : Nat) (S : Nat → ByteArray) (w : World) (hn : n ≤ 4096) (hnil : a = none → n = 0 ∧ c = 0) (h : StrsAt w a n S) :
    Calls Try.prog 18 #[.slice a0 n0 c0, .slice a1 n1 c1, .slice a n c] w fun e w' => ∃ ad cs, e = .returned (.agg #[.slice a0 n0 c0, .slice a1 n1 c1, .slice ad n cs]) ∧ SpAt w' ad n S ∧ Below w.heap.size w w' := by
  cases a with
  | none =>
    obtain ⟨rfl, rfl⟩ := hnil rfl
    refine (app_nil a0 n0 c0 a1 n1 c1 w).mono ?_
    rintro e w' ⟨rfl, hb⟩
    exact ⟨none, 0, rfl, fun i hi => absurd hi (Nat.not_lt_zero _), hb⟩
  | some a =>
    refine (app_some a0 n0 c0 a1 n1 c1 a n c S w hn h).mono ?_
    rintro e w' ⟨rfl, h1, h2⟩
    exact ⟨_, n, rfl, h1, h2⟩

end Go.Proofs.Qxb6604472a
