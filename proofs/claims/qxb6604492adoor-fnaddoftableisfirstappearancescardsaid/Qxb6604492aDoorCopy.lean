import Derived.Test.Qxb6604492aDoorAcc
import Derived.WalkSpells
import Derived.Laws.MakeOwn
namespace Go.Proofs.Qxb6604492aDoor
open Go.RowKit

theorem info25 : (Tryd.prog.info? 25).map (fun i => (i.zero, i.size, i.bytes)) = some (some (.agg #[.int .i64 0, .int .i32 0, .string ⟨#[]⟩]), 3, 32) := by kernel_rfl
theorem eq22 (w : World) (a : Option Addr) (n c : Nat) : (binOp .eql 22 (.slice a n c) (.slice none 0 0)).run Tryd.prog w = .ok (.bool a.isNone) w := Lib.run_eql_slice_nil w 22 25 a n c 0 0 Tryd.underlying22
attribute [local go_sem] eq22

theorem copy_nil (w : World) : Calls Tryd.prog 6 #[.slice none 0 0] w fun e w' => e = .returned (.slice none 0 0) ∧ w' = w := by
  go_enter Tryd.func6, Tryd.ntmps6
  go_wp2
  go_ret
  exact ⟨rfl, rfl⟩

/-- Three cells in a row are set. -/
def put3 (w : World) (r k : Nat) (a b c : Value) : World := ((w.setCell ⟨r, k * 3, none⟩ a).setCell ⟨r, k * 3 + 1, none⟩ b).setCell ⟨r, k * 3 + 2, none⟩ c
def set3 (xs : List Value) (k : Nat) (a b c : Value) : List Value := ((xs.set (k * 3) a).set (k * 3 + 1) b).set (k * 3 + 2) c

theorem put3_heap {w : World} {r k : Nat} {t : TypeId} {xs : List Value} {a b c : Value} (h : w.heap[r]? = some (.cells xs.toArray t (0, 0))) : (put3 w r k a b c).heap[r]? = some (.cells (set3 xs k a b c).toArray t (0, 0)) := by
  simp [put3, set3, World.setCell, Array.getElem?_modify, h]

theorem set3_same (xs : List Value) (k : Nat) (a b c : Value) (h : k * 3 + 2 < xs.length) : (set3 xs k a b c)[k * 3]? = some a ∧ (set3 xs k a b c)[k * 3 + 1]? = some b ∧ (set3 xs k a b c)[k * 3 + 2]? = some c := by
  unfold set3
  refine ⟨?_, ?_, ?_⟩
  · rw [List.getElem?_set_ne (by omega), List.getElem?_set_ne (by omega), List.getElem?_set_self (by omega)]
  · rw [List.getElem?_set_ne (by omega), List.getElem?_set_self (by simp; omega)]
  · rw [List.getElem?_set_self (by simp; omega)]
theorem set3_other (xs : List Value) (k i : Nat) (a b c : Value) (h : i < k) (j : Nat) (hj : j < 3) : (set3 xs k a b c)[i * 3 + j]? = xs[i * 3 + j]? := by
  unfold set3
  rw [List.getElem?_set_ne (by omega), List.getElem?_set_ne (by omega), List.getElem?_set_ne (by omega)]

set_option maxHeartbeats 2000000 in
set_option maxRecDepth 100000 in
theorem copy_some (x : Addr) (n c : Nat) (of ck : Nat → Int) (tx : Nat → ByteArray) (w : World) (hn : n ≤ 4096) (h : StepsAt w (some x) n of ck tx) :
    Calls Tryd.prog 6 #[.slice (some x) n c] w fun e w' => ∃ ad, e = .returned (.slice ad n n) ∧ StepsAt w' ad n of ck tx ∧ Below w.heap.size w w' := by
  obtain ⟨i25, hi, hz0, hz1, hz2⟩ := info_parts info25
  have H : Hid (StepsAt w (some x) n of ck tx) := h
  clear h
  go_enter Tryd.func6, Tryd.ntmps6
  go_wp2_with (at_make; refine wpList_make_full _ rfl _ _ 22 rfl w.heap.size 25 i25 _ 3 Tryd.underlying22 hi hz0 hz1 _ _ _ _ n rfl rfl rfl rfl (by rw [hz2]; omega) (by unfold maxLen; omega) (Nat.le_refl _) ?_; intro w1 hown hgrow)
  have hb1 : Below w.heap.size w w1 := (Below.refl _ _).grown hgrow (Nat.le_refl _) (by simp)
  obtain ⟨xs0, hx0, hr0⟩ : ∃ xs0 : List Value, xs0.length = n * 3 ∧ w1.heap[w.heap.size]? = some (.cells xs0.toArray 25 (0, 0)) := by
    rcases hown.2 with ⟨hv, _⟩ | ⟨g, cap, cur, hv, _, hg, _, _, hcs, htake⟩
    · cases hv
    · cases hv
      exact ⟨cur.toList, by simpa using hcs, by simpa using hg⟩
  obtain ⟨r, hr⟩ : ∃ r, r = w.heap.size := ⟨_, rfl⟩
  rw [← hr] at hr0 ⊢
  have HR : Hid (r = w.heap.size) := hr
  clear hown hgrow hi hz0 hz1 hz2 hr
  go_loopw [4] (fun vi wr => ∃ (k : Nat) (xs : List Value), k ≤ n ∧ vi = .int .i64 k ∧ xs.length = n * 3 ∧ wr.heap[r]? = some (.cells xs.toArray 25 (0, 0)) ∧ (∀ i, i < k → xs[i * 3]? = some (.int .i64 (of i)) ∧ xs[i * 3 + 1]? = some (.int .i32 (ck i)) ∧ xs[i * 3 + 2]? = some (.string (tx i))) ∧ Below w.heap.size w wr) (fun vi _ => n - (intOf vi).toNat)
  case atStart => exact ⟨0, xs0, Nat.zero_le _, rfl, hx0, hr0, fun _ h => absurd h (Nat.not_lt_zero _), hb1⟩
  case round =>
    obtain ⟨k, xs, hk, rfl, hxl, hrow, hxs, hbel⟩ := hrel
    clear hb1 hr0 hx0
    by_cases hlt : k < n
    · have k1 : (k : Int) < (n : Int) := by omega
      obtain ⟨b, off, e, q0, q1, q2⟩ := H.out.below hbel k hlt
      obtain rfl : x = ⟨b, off, none⟩ := Option.some.inj e
      clear e
      have hcw : ∀ j, wr.cell? ⟨r, j, none⟩ = xs[j]? := fun j => by rw [cell_of_row wr r j xs.toArray 25 (0, 0) hrow]; simp
      obtain ⟨x0, hx0⟩ : ∃ x, wr.cell? ⟨r, k * 3, none⟩ = some x := ⟨_, by rw [hcw]; exact List.getElem?_eq_getElem (by omega)⟩
      obtain ⟨x1, hx1⟩ : ∃ x, wr.cell? ⟨r, k * 3 + 1, none⟩ = some x := ⟨_, by rw [hcw]; exact List.getElem?_eq_getElem (by omega)⟩
      obtain ⟨x2, hx2⟩ : ∃ x, wr.cell? ⟨r, k * 3 + 2, none⟩ = some x := ⟨_, by rw [hcw]; exact List.getElem?_eq_getElem (by omega)⟩
      have f0 : wr.frozen? ⟨r, k * 3, none⟩ = false := Lib.frozen_of_heap hrow _
      have f1 : wr.frozen? ⟨r, k * 3 + 1, none⟩ = false := Lib.frozen_of_heap hrow _
      have f2 : wr.frozen? ⟨r, k * 3 + 2, none⟩ = false := Lib.frozen_of_heap hrow _
      have R : Hid ((put3 wr r k (.int .i64 (of k)) (.int .i32 (ck k)) (.string (tx k))).heap[r]? = some (.cells (set3 xs k (.int .i64 (of k)) (.int .i32 (ck k)) (.string (tx k))).toArray 25 (0, 0)) ∧ (set3 xs k (.int .i64 (of k)) (.int .i32 (ck k)) (.string (tx k))).length = n * 3 ∧
          (∀ i, i < k + 1 → (set3 xs k (.int .i64 (of k)) (.int .i32 (ck k)) (.string (tx k)))[i * 3]? = some (.int .i64 (of i)) ∧ (set3 xs k (.int .i64 (of k)) (.int .i32 (ck k)) (.string (tx k)))[i * 3 + 1]? = some (.int .i32 (ck i)) ∧ (set3 xs k (.int .i64 (of k)) (.int .i32 (ck k)) (.string (tx k)))[i * 3 + 2]? = some (.string (tx i))) ∧ Below w.heap.size w (put3 wr r k (.int .i64 (of k)) (.int .i32 (ck k)) (.string (tx k)))) := by
        have hB : w.heap.size ≤ r := Nat.le_of_eq HR.out.symm
        refine ⟨put3_heap hrow, by simp [set3, hxl], fun i hi => ?_, ((hbel.setCell (p := ⟨r, k * 3, none⟩) hB _).setCell (p := ⟨r, k * 3 + 1, none⟩) hB _).setCell (p := ⟨r, k * 3 + 2, none⟩) hB _⟩
        by_cases e : i = k
        · subst e
          exact set3_same xs i _ _ _ (by omega)
        · have h3 := hxs i (by omega)
          have s0 := set3_other xs k i (.int .i64 (of k)) (.int .i32 (ck k)) (.string (tx k)) (by omega) 0 (by omega)
          have s1 := set3_other xs k i (.int .i64 (of k)) (.int .i32 (ck k)) (.string (tx k)) (by omega) 1 (by omega)
          have s2 := set3_other xs k i (.int .i64 (of k)) (.int .i32 (ck k)) (.string (tx k)) (by omega) 2 (by omega)
          rw [Nat.add_zero] at s0
          rw [s0, s1, s2]
          exact h3
      clear hrow hxs hbel hcw hxl
      go_wp2
      go_roundw
      case rel => exact ⟨k + 1, _, by omega, by go_num, R.out.2.1, R.out.1, R.out.2.2.1, R.out.2.2.2⟩
      case measure => simp [intOf]; omega
    · obtain rfl : k = n := by omega
      have k1 : ¬ (k : Int) < (k : Int) := by omega
      have R : Hid (StepsAt wr (some ⟨r, 0, none⟩) k of ck tx ∧ Below w.heap.size w wr) := by
        refine ⟨fun i hi => ⟨r, 0, rfl, ?_⟩, hbel⟩
        have h3 := hxs i hi
        have hcw : ∀ j, wr.cell? ⟨r, j, none⟩ = xs[j]? := fun j => by rw [cell_of_row wr r j xs.toArray 25 (0, 0) hrow]; simp
        rw [Nat.zero_add, hcw, hcw, hcw]
        exact h3
      clear hrow hxs hbel hxl
      go_wp2
      go_ret
      exact ⟨_, rfl, R.out⟩

end Go.Proofs.Qxb6604492aDoor
