import Derived.Test.Qxb6602571aRead
import Derived.OwnWalk
import Derived.Maps.AppendAt
namespace Go.Proofs.Qxb6602571a
open Go.RowKit

theorem info5 : (Try.prog.info? 5).map (fun i => (i.zero, i.size, i.bytes)) = some (some (.int .u8 0), 1, 1) := by kernel_rfl

/-- v is a slice of the call's own, its bytes are t. -/
def Own (w : World) (B : Nat) (v : Value) (t : List Int) : Prop := w.ownsRow B 5 1 v t.length (t.map (Value.int .u8))

theorem ints_one (t : List Int) : ∀ u ∈ t.map (Value.int .u8), u.oneCell' = true := by
  intro u hu
  obtain ⟨z, _, rfl⟩ := List.mem_map.1 hu
  rfl

theorem Own.of_append {w : World} {B : Nat} {v : Value} {t s : List Int} {m : Nat} (hm : m = s.length) (h : w.ownsRow B 5 1 v (t.length + m) (t.map (Value.int .u8) ++ s.map (Value.int .u8))) : Own w B v (t ++ s) := by
  subst hm
  unfold Own
  rw [List.length_append, List.map_append]
  exact h

set_option maxHeartbeats 1000000 in
theorem breaks_any (B : Nat) (v : Value) (t : List Int) (k : Nat) (w : World) (hB : B ≤ w.heap.size) (hl : t.length + k ≤ 1099511627776) (h : Own w B v t) :
    Calls Try.prog 30 #[v, .int .i64 k] w fun e w' => ∃ v', e = .returned v' ∧ Own w' B v' (t ++ List.replicate k 10) ∧ Below B w w' := by
  obtain ⟨i5, hi, hz0, hz1, hz2⟩ := info_parts info5
  have H : Hid (Own w B v t) := h
  clear h
  go_enter Try.func30, Try.ntmps30
  go_wp2
  go_loopw [0, 6] (fun v i wr => ∃ j : Nat, j ≤ k ∧ i = .int .i64 j ∧ Own wr B v (t ++ List.replicate j 10) ∧ Below B w wr) (fun _ i _ => k - (intOf i).toNat)
  case atStart => exact ⟨0, Nat.zero_le _, rfl, by simpa using H.out, Below.refl _ _⟩
  case round =>
    obtain ⟨j, hj, rfl, hown, hbel⟩ := hrel
    by_cases hlt : j < k
    · have HO : Hid (Own wr B u0 (t ++ List.replicate j 10) ∧ Below B w wr) := ⟨hown, hbel⟩
      clear hown hbel
      have HS : Hid (B ≤ wr.heap.size) := Nat.le_trans hB HO.out.2.size
      go_wp2_with (at_builtin; refine wpList_append_own _ rfl _ _ 22 rfl B 5 i5 _ 1 1 Try.underlying22 hi hz0 hz1 hz2 rfl (by decide) _ (t ++ List.replicate j 10).length ((t ++ List.replicate j 10).map (Value.int .u8)) rfl (World.ownsRow.alloc HO.out.1 _) ⟨wr.heap.size, 0, none⟩ 1 1 (List.map (Value.int .u8) [10]) rfl rfl (cell_one_new _ _ _) (ints_one _) (by unfold maxLen; simp; omega) (by simp; omega) (by have := HS.out; simp; omega) ?_; intro v' w1 hown1 hgrow1 hnil1)
      have HN : Hid (Own w1 B v' (t ++ List.replicate (j + 1) 10) ∧ Below B w w1) := by
        refine ⟨?_, (HO.out.2.alloc HS.out _).grown hgrow1 (by have := HS.out; simp; omega) (fun j hj => (HO.out.1.lt j hj).1)⟩
        rw [List.replicate_succ', ← List.append_assoc]
        exact Own.of_append rfl hown1
      clear hown1 hgrow1 hnil1
      go_roundw
      case rel => exact ⟨j + 1, by omega, by go_num, HN.out.1, HN.out.2⟩
      case measure => simp [intOf]; omega
    · obtain rfl : j = k := by omega
      have HO : Hid (Own wr B u0 (t ++ List.replicate j 10) ∧ Below B w wr) := ⟨hown, hbel⟩
      clear hown hbel
      go_wp2
      go_ret
      exact ⟨_, rfl, HO.out⟩

set_option maxHeartbeats 1000000 in
theorem newlines_any (B : Nat) (v : Value) (t : List Int) (k : Nat) (w : World) (hB : B ≤ w.heap.size) (hl : t.length + k ≤ 1099511627776) (h : Own w B v t) :
    Calls Try.prog 22 #[v, .int .i64 k] w fun e w' => ∃ v', e = .returned v' ∧ Own w' B v' (t ++ List.replicate k 10) ∧ Below B w w' := by
  obtain ⟨i5, hi, hz0, hz1, hz2⟩ := info_parts info5
  have H : Hid (Own w B v t) := h
  clear h
  go_enter Try.func22, Try.ntmps22
  go_wp2
  go_loopw [0, 5] (fun v i wr => ∃ j : Nat, j ≤ k ∧ i = .int .i64 j ∧ Own wr B v (t ++ List.replicate j 10) ∧ Below B w wr) (fun _ i _ => k - (intOf i).toNat)
  case atStart => exact ⟨0, Nat.zero_le _, rfl, by simpa using H.out, Below.refl _ _⟩
  case round =>
    obtain ⟨j, hj, rfl, hown, hbel⟩ := hrel
    by_cases hlt : j < k
    · have HO : Hid (Own wr B u0 (t ++ List.replicate j 10) ∧ Below B w wr) := ⟨hown, hbel⟩
      clear hown hbel
      have HS : Hid (B ≤ wr.heap.size) := Nat.le_trans hB HO.out.2.size
      go_wp2_with (at_builtin; refine wpList_append_own _ rfl _ _ 22 rfl B 5 i5 _ 1 1 Try.underlying22 hi hz0 hz1 hz2 rfl (by decide) _ (t ++ List.replicate j 10).length ((t ++ List.replicate j 10).map (Value.int .u8)) rfl (World.ownsRow.alloc HO.out.1 _) ⟨wr.heap.size, 0, none⟩ 1 1 (List.map (Value.int .u8) [10]) rfl rfl (cell_one_new _ _ _) (ints_one _) (by unfold maxLen; simp; omega) (by simp; omega) (by have := HS.out; simp; omega) ?_; intro v' w1 hown1 hgrow1 hnil1)
      have HN : Hid (Own w1 B v' (t ++ List.replicate (j + 1) 10) ∧ Below B w w1) := by
        refine ⟨?_, (HO.out.2.alloc HS.out _).grown hgrow1 (by have := HS.out; simp; omega) (fun j hj => (HO.out.1.lt j hj).1)⟩
        rw [List.replicate_succ', ← List.append_assoc]
        exact Own.of_append rfl hown1
      clear hown1 hgrow1 hnil1
      go_roundw
      case rel => exact ⟨j + 1, by omega, by go_num, HN.out.1, HN.out.2⟩
      case measure => simp [intOf]; omega
    · obtain rfl : j = k := by omega
      have HO : Hid (Own wr B u0 (t ++ List.replicate j 10) ∧ Below B w wr) := ⟨hown, hbel⟩
      clear hown hbel
      go_wp2
      go_ret
      exact ⟨_, rfl, HO.out⟩

end Go.Proofs.Qxb6602571a
