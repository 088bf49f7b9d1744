import Derived.Test.Qxb6602571aApp
import Derived.WalkSpells
import Derived.Laws.CopyOwn
namespace Go.Proofs.Qxb6602571a
open Go.RowKit

theorem eq22 (w : World) (a : Option Addr) (n c : Nat) : (binOp .eql 22 (.slice a n c) (.slice none 0 0)).run Try.prog w = .ok (.bool a.isNone) w := Lib.run_eql_slice_nil w 22 5 a n c 0 0 Try.underlying22
attribute [local go_sem] eq22

theorem add_none (b o j : Nat) : (⟨b, o, none⟩ : Addr).add j = ⟨b, o + j, none⟩ := by unfold Addr.add; split <;> simp_all

theorem By.news {w : World} {g : Nat} {b off : Nat} {m : Nat} {d : Nat → Int} {a : Nat} (h : By w g (some ⟨b, off, none⟩) m d a) (k j : Nat) (hj : j ≤ m) :
    ∀ i u, ((seg d (a + k) (a + j)).map (Value.int .u8))[i]? = some u → w.cell? ((⟨b, off + k, none⟩ : Addr).add i) = some u := by
  intro i u hu
  rw [List.getElem?_map] at hu
  by_cases hi : i < (a + j) - (a + k)
  · rw [seg_get d (a + k) (a + j) i hi] at hu
    obtain ⟨b', off', e, _, hc⟩ := h (k + i) (by omega)
    simp only [Option.some.injEq, Addr.mk.injEq, and_true] at e
    obtain ⟨rfl, rfl⟩ := e
    rw [add_none, show off + k + i = off + (k + i) by omega, hc, ← hu, show a + (k + i) = a + k + i by omega]
    rfl
  · rw [List.getElem?_eq_none (by rw [seg_length]; omega)] at hu
    cases hu

theorem By.of_row {w : World} {g h n : Nat} {d : Nat → Int} (hg : h < g) (hh : w.heap[h]? = some (.cells ((seg d 0 n).map (Value.int .u8)).toArray 5 (0, 0))) : By w g (some ⟨h, 0, none⟩) n d 0 := by
  intro i hi
  refine ⟨h, 0, rfl, hg, ?_⟩
  simp only [World.cell?, hh, Nat.zero_add]
  rw [List.getElem?_toArray, List.getElem?_map, seg_get d 0 n i (by omega), Nat.zero_add]
  rfl

theorem row_of_owns {w : World} {base g : Nat} {e : TypeId} {size n : Nat} {xs : List Value} (h : w.ownsRow base e size (.slice (some ⟨g, 0, none⟩) n n) n xs) : w.heap[g]? = some (.cells xs.toArray e (0, 0)) := by
  rcases h.2 with ⟨h', _⟩ | ⟨g', cap', cur, h', hb, hg, hnc, hcm, hcs, htake⟩
  · simp at h'
  · simp only [Value.slice.injEq, Option.some.injEq, Addr.mk.injEq, and_true, true_and] at h'
    obtain ⟨rfl, rfl⟩ := h'
    have e1 : cur.toList = xs := by rw [← htake, List.take_of_length_le (by simp [hcs])]
    rw [hg, ← e1]

theorem clone_nil (w : World) : Calls Try.prog 8 #[.slice none 0 0] w fun e w' => e = .returned (.slice none 0 0) ∧ w' = w := by
  go_enter Try.func8, Try.ntmps8
  go_wp2
  go_ret
  exact ⟨rfl, rfl⟩

set_option maxHeartbeats 1000000 in
theorem clone_any (g b off n c : Nat) (d : Nat → Int) (w : World) (hn : n ≤ 1048576) (h : By w g (some ⟨b, off, none⟩) n d 0) :
    Calls Try.prog 8 #[.slice (some ⟨b, off, none⟩) n c] w fun e w' => e = .returned (.slice (some ⟨w.heap.size, 0, none⟩) n n) ∧ By w' (w.heap.size + 1) (some ⟨w.heap.size, 0, none⟩) n d 0 ∧ w.heap.size < w'.heap.size ∧ Below w.heap.size w w' := by
  obtain ⟨i5, hi, hz0, hz1, hz2⟩ := info_parts info5
  have H : Hid (By w g (some ⟨b, off, none⟩) n d 0) := h
  clear h
  have HM : Hid (∀ w1 : World, w1.ownsRow w.heap.size 5 1 (.slice (some ⟨w.heap.size, 0, none⟩) n n) n (madeCells (Value.int .u8 0).cells (n * 1)).toList → w.grownBy w1 none → w1.heap[w.heap.size]? = some (.cells (madeCells (Value.int .u8 0).cells (n * 1)).toList.toArray 5 (0, 0)) ∧ (madeCells (Value.int .u8 0).cells (n * 1)).toList.length = n ∧ Below w.heap.size w w1 ∧ w.heap.size < w1.heap.size ∧ (0 < n → ∀ j v, ((seg d 0 n).map (Value.int .u8))[j]? = some v → w1.cell? ((⟨b, off, none⟩ : Addr).add j) = some v)) := by
    intro w1 hown hgrow
    have hB : Below w.heap.size w w1 := (Below.refl _ _).grown hgrow (Nat.le_refl _) (fun _ e => by cases e)
    have hR := row_of_owns hown
    refine ⟨hR, by rw [Array.length_toList, size_madeCells, Nat.mul_one], hB, (Array.getElem?_eq_some_iff.1 hR).1, fun h0 j v hv => ?_⟩
    have h1 := H.out.news 0 n (Nat.le_refl _) j v (by simpa using hv)
    rw [Nat.add_zero, add_none] at h1
    rw [add_none]
    have hlt : b < w.heap.size := by
      obtain ⟨b', off', e, _, hc⟩ := H.out 0 h0
      simp only [Option.some.injEq, Addr.mk.injEq, and_true] at e
      obtain ⟨rfl, rfl⟩ := e
      unfold World.cell? at hc
      cases hh : w.heap[b]? with
      | none => simp [hh] at hc
      | some o => exact (Array.getElem?_eq_some_iff.1 hh).1
    rw [hB.cell hlt]
    exact h1
  obtain ⟨Z, hZ⟩ : ∃ Z, Z = (madeCells (Value.int .u8 0).cells (n * 1)).toList := ⟨_, rfl⟩
  rw [← hZ] at HM
  obtain ⟨S, hS⟩ : ∃ S, S = (seg d 0 n).map (Value.int .u8) := ⟨_, rfl⟩
  have HS : Hid (S.length = n ∧ (∀ u ∈ S, u.oneCell' = true) ∧ S = (seg d 0 n).map (Value.int .u8)) := by rw [hS]; exact ⟨by simp [seg_length], ints_one _, rfl⟩
  rw [← hS] at HM
  clear hS
  go_enter Try.func8, Try.ntmps8
  go_wp2_with (first
    | (at_make; refine wpList_make_full _ rfl _ _ 22 rfl w.heap.size 5 i5 _ 1 Try.underlying22 hi hz0 hz1 _ _ _ _ n rfl rfl rfl rfl (by rw [hz2]; omega) (by unfold maxLen; omega) (Nat.le_refl _) ?_; intro w1 hown hgrow; have HO : Hid _ := HM.out w1 (by rw [hZ]; exact hown) hgrow; clear hown hgrow HM hZ)
    | (refine wpList_copy_splice rfl _ _ 22 22 rfl 5 Try.underlying22 (by rw [hi]; simp [hz1]) (some ⟨w.heap.size, 0, none⟩) (some ⟨b, off, none⟩) n n n c rfl rfl w.heap.size 0 Z 5 HO.out.1 S (by rw [HS.out.1]; exact (Nat.min_self n).symm) (fun h => ⟨rfl, _, rfl, HO.out.2.2.2.2 (by have := HS.out.1; omega)⟩) (by have := HS.out.1; have := HO.out.2.1; omega) HS.out.2.1 w.heap.size w HO.out.2.2.1 (Nat.le_refl _) ?_; intro w2 HG2 hB2))
  have HE : Hid (By w2 (w.heap.size + 1) (some ⟨w.heap.size, 0, none⟩) n d 0 ∧ w.heap.size < w2.heap.size ∧ Below w.heap.size w w2) := by
    have h1 := HG2.out
    have e : splice Z 0 S = (seg d 0 n).map (Value.int .u8) := by
      have h2 := HS.out.1
      have h3 := HO.out.2.1
      unfold splice
      rw [List.drop_eq_nil_of_le (by omega)]
      simpa using HS.out.2.2
    rw [e] at h1
    exact ⟨By.of_row (by omega) h1, (Array.getElem?_eq_some_iff.1 h1).1, hB2⟩
  clear hB2 HG2
  go_wp2
  go_ret
  exact ⟨rfl, HE.out⟩

end Go.Proofs.Qxb6602571a
