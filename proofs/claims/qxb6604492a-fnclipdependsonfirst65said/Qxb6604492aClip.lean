import Derived.Test.Qxb6604492aRows
import Derived.Test.Qxb6604492aPlain
import Derived.WalkKit
import Derived.WalkSpells
import Derived.WalkSmall
import Derived.Laws.RangeString
import Derived.Laws.RangeAny
import Derived.LoopTactic
namespace Go.Proofs.Qxb6604492a
open Go.RowKit

theorem below_iter (w : World) (s : ByteArray) (pos : Nat) : Below w.heap.size w (w.iter s pos) := (Below.refl _ _).alloc (Nat.le_refl _) _

set_option maxHeartbeats 400000 in
theorem count_any (s : ByteArray) (w : World) (hs : s.size ≤ 2000000) :
    Calls Try.prog 7 #[.string s] w fun e w' => ∃ n : Nat, e = .returned (.int .i64 n) ∧ n ≤ s.size ∧ (posAt s n = s.size ∧ ∀ k, k < n → posAt s k < s.size) ∧ Below w.heap.size w w' := by
  go_enter Try.func7, Try.ntmps7
  go_wp2
  go_loopw [3] (fun n w' => ∃ (k : Nat), w' = w.iter s (posAt s k) ∧ n = .int .i64 k ∧ ∀ j, j < k → posAt s j < s.size) (fun _ w' => s.size - w'.iterPos w.heap.size)
  case atStart => exact ⟨0, rfl, rfl, fun j hj => absurd hj (Nat.not_lt_zero _)⟩
  case round =>
    obtain ⟨k, rfl, rfl, hk⟩ := hrel
    have HK : Hid (∀ j, j < k → posAt s j < s.size) := hk
    clear hk
    by_cases hp : posAt s k < s.size
    · have hge := posAt_ge s k hp
      have hst := posAt_step s k hp
      have HN : Hid (posAt s (k + 1) = posAt s k + (Utf8.decode s (posAt s k)).2) := by show nxt s _ = _; rw [nxt, if_pos hp]
      have hnx : ∀ ty, (Instr.next (.pointer (some ⟨w.heap.size, 0, none⟩)) true ty).run Try.prog (w.iter s (posAt s k)) = _ := fun ty => run_next_any w s (posAt s k) ty hp
      go_wp2
      go_roundw
      case rel =>
        refine ⟨k + 1, by rw [HN.out], by go_num, fun j hj => ?_⟩
        by_cases e : j = k
        · subst e; exact hp
        · exact HK.out j (by omega)
      case measure =>
        have := HN.out
        simp
        omega
    · have hnx : ∀ ty, (Instr.next (.pointer (some ⟨w.heap.size, 0, none⟩)) true ty).run Try.prog (w.iter s (posAt s k)) = _ := fun ty => run_next_end w s (posAt s k) ty hp
      have hle := posAt_le s k
      have hkl : Hid (k ≤ s.size) := by
        show k ≤ s.size
        cases k with
        | zero => omega
        | succ k =>
          have h1 := HK.out k (by omega)
          have := posAt_ge s k h1
          omega
      go_wp2
      go_ret
      exact ⟨k, rfl, hkl.out, ⟨by omega, HK.out⟩, below_iter _ _ _⟩

set_option maxHeartbeats 400000 in
theorem index_any (s : ByteArray) (m : Nat) (w : World) (_hs : s.size ≤ 2000000) (hm : m ≤ 100) :
    Calls Try.prog 10 #[.string s, .int .i64 m] w fun e w' => e = .returned (.int .i64 (posAt s m)) ∧ Below w.heap.size w w' := by
  go_enter Try.func10, Try.ntmps10
  go_wp2
  go_loopw [1] (fun n w' => ∃ (k : Nat), w' = w.iter s (posAt s k) ∧ k ≤ m ∧ n = .int .i64 ((m : Int) - k)) (fun _ w' => s.size - w'.iterPos w.heap.size)
  case atStart => exact ⟨0, rfl, Nat.zero_le _, by simp⟩
  case round =>
    obtain ⟨k, rfl, hkm, rfl⟩ := hrel
    by_cases hp : posAt s k < s.size
    · have hst := posAt_step s k hp
      have HN : Hid (posAt s (k + 1) = posAt s k + (Utf8.decode s (posAt s k)).2) := by show nxt s _ = _; rw [nxt, if_pos hp]
      have hnx : ∀ ty, (Instr.next (.pointer (some ⟨w.heap.size, 0, none⟩)) true ty).run Try.prog (w.iter s (posAt s k)) = _ := fun ty => run_next_any w s (posAt s k) ty hp
      by_cases hk : k = m
      · subst hk
        go_wp2
        go_ret
        exact ⟨rfl, below_iter _ _ _⟩
      · have hne : ((m : Int) - k == 0) = false := by simp; omega
        go_wp2
        go_roundw
        case rel => exact ⟨k + 1, by rw [HN.out], by omega, by go_num⟩
        case measure =>
          have := HN.out
          simp
          omega
    · have hnx : ∀ ty, (Instr.next (.pointer (some ⟨w.heap.size, 0, none⟩)) true ty).run Try.prog (w.iter s (posAt s k)) = _ := fun ty => run_next_end w s (posAt s k) ty hp
      have HE : Hid (posAt s m = s.size) := posAt_end s hkm hp
      go_wp2
      go_ret
      exact ⟨by rw [HE.out]; rfl, below_iter _ _ _⟩

/-- A bool that tells whether a character begins at q. -/
def Tells (s : ByteArray) (q : Nat) (b : Bool) : Prop := b = true ↔ ∃ j, posAt s j = q

theorem reaches_end (s : ByteArray) : ∃ j, posAt s j = s.size := by
  refine ⟨s.size, ?_⟩
  by_cases h : posAt s s.size < s.size
  · have := posAt_ge s s.size h; omega
  · have := posAt_le s s.size; omega

theorem tells_false {s : ByteArray} {q k : Nat} (h1 : ∀ j, j < k → posAt s j < q) (h2 : q < posAt s k) : Tells s q false := by
  refine ⟨fun h => (by cases h), fun ⟨j, hj⟩ => ?_⟩
  by_cases e : j < k
  · have := h1 j e; omega
  · have := posAt_mono s (show k ≤ j by omega); omega

set_option maxHeartbeats 400000 in
theorem starts_any (s : ByteArray) (q : Nat) (w : World) (_hs : s.size ≤ 2000000) (hq : q ≤ s.size) :
    Calls Try.prog 8 #[.string s, .int .i64 q] w fun e w' => (∃ b : Bool, e = .returned (.bool b) ∧ Tells s q b) ∧ Below w.heap.size w w' := by
  by_cases he : q = s.size
  · subst he
    go_enter Try.func8, Try.ntmps8
    go_wp2
    go_ret
    exact ⟨⟨true, rfl, fun _ => reaches_end s, fun _ => rfl⟩, Below.refl _ _⟩
  have hne : ((q : Int) == (s.size : Int)) = false := by simp; omega
  go_enter Try.func8, Try.ntmps8
  go_wp2
  go_loopw [5] (fun _ w' => ∃ (k : Nat), w' = w.iter s (posAt s k) ∧ ∀ j, j < k → posAt s j < q) (fun _ w' => s.size - w'.iterPos w.heap.size)
  case atStart => exact ⟨0, rfl, fun j hj => absurd hj (Nat.not_lt_zero _)⟩
  case round =>
    obtain ⟨k, rfl, hk⟩ := hrel
    have HK : Hid (∀ j, j < k → posAt s j < q) := hk
    clear hk hne
    by_cases hp : posAt s k < s.size
    · have hst := posAt_step s k hp
      have HN : Hid (posAt s (k + 1) = posAt s k + (Utf8.decode s (posAt s k)).2) := by show nxt s _ = _; rw [nxt, if_pos hp]
      have hnx : ∀ ty, (Instr.next (.pointer (some ⟨w.heap.size, 0, none⟩)) true ty).run Try.prog (w.iter s (posAt s k)) = _ := fun ty => run_next_any w s (posAt s k) ty hp
      by_cases h1 : posAt s k = q
      · have HQ : Hid (posAt s k = q) := h1
        have h2 : ((posAt s k : Int) == (q : Int)) = true := by simp [h1]
        clear h1
        go_wp2
        go_ret
        exact ⟨⟨true, rfl, fun _ => ⟨k, HQ.out⟩, fun _ => rfl⟩, below_iter _ _ _⟩
      · have h2 : ((posAt s k : Int) == (q : Int)) = false := by simp; omega
        by_cases h3 : q < posAt s k
        · go_wp2
          go_ret
          exact ⟨⟨false, rfl, tells_false HK.out h3⟩, below_iter _ _ _⟩
        · go_wp2
          go_roundw
          case rel =>
            refine ⟨k + 1, by rw [HN.out], fun j hj => ?_⟩
            by_cases e : j = k
            · subst e; omega
            · exact HK.out j (by omega)
          case measure =>
            have := HN.out
            simp
            omega
    · have hnx : ∀ ty, (Instr.next (.pointer (some ⟨w.heap.size, 0, none⟩)) true ty).run Try.prog (w.iter s (posAt s k)) = _ := fun ty => run_next_end w s (posAt s k) ty hp
      have hle := posAt_le s k
      go_wp2
      go_ret
      exact ⟨⟨false, rfl, tells_false HK.out (by omega)⟩, below_iter _ _ _⟩

/-- What Clip gives. -/
def clip (s : ByteArray) : ByteArray := if posAt s 64 < s.size then s.extract 0 (posAt s 64) ++ ⟨#[46, 46, 46]⟩ else s

set_option maxHeartbeats 400000 in
theorem clip_any (s : ByteArray) (w : World) (hs : s.size ≤ 2000000) :
    Calls Try.prog 6 #[.string s] w fun e w' => e = .returned (.string (clip s)) ∧ Below w.heap.size w w' := by
  have hle := posAt_le s 64
  go_enter Try.func6, Try.ntmps6
  go_wp2_with fail
  refine (index_any s 64 _ hs (by omega)).mono ?_
  rintro e w1 ⟨rfl, hb⟩
  have HB : Hid (Below w.heap.size w w1) := hb
  clear hb
  by_cases hp : posAt s 64 < s.size
  · have HC : Hid (clip s = s.extract 0 (posAt s 64) ++ ⟨#[46, 46, 46]⟩) := by show clip s = _; rw [clip, if_pos hp]
    go_wp2
    go_ret
    exact ⟨by rw [HC.out]; rfl, HB.out⟩
  · have HC : Hid (clip s = s) := by show clip s = _; rw [clip, if_neg hp]
    go_wp2
    go_ret
    exact ⟨by rw [HC.out]; rfl, HB.out⟩

end Go.Proofs.Qxb6604492a
