import Derived.Test.Qxb6604472aAppl
import Derived.Test.Qxb6604472aSpecs
import Derived.Deep.RegionHeld3
import Derived.Deep.DrawnRows
namespace Go.Proofs.Qxb6604472a
open Go.RowKit
attribute [local go_sem] eq22

theorem ne22 (w : World) (a : Option Addr) (n c : Nat) : (binOp .neq 22 (.slice a n c) (.slice none 0 0)).run Try.prog w = .ok (.bool (!a.isNone)) w := run_neq_slice_nil_any w 22 9 a n c 0 0 Try.underlying22
attribute [local go_sem] ne22
attribute [local go_sem ↓] Go.wp_at_zero Go.wp_at_succ

/-- billing.ZZproducts. -/
theorem zzproducts_any (ga : Nat) (a0 : Option Addr) (n0 c0 : Nat) (S0 : Nat → ByteArray) (a1 : Option Addr) (n1 c1 : Nat) (S1 : Nat → ByteArray) (ad : Option Addr) (ns cs : Nat) (S2 : Nat → ByteArray) (al : Option Addr) (n c : Nat) (ID : Nat → ByteArray) (TA : Nat → Option Addr) (TN TC : Nat → Nat) (TS : Nat → Nat → ByteArray) (w : World)
    (h0 : n0 ≤ maxLen) (h1 : n1 ≤ maxLen) (hs : ns ≤ 4096) (hn : n ≤ 4096) (g0 : StrsAt w a0 n0 S0) (g1 : StrsAt w a1 n1 S1) (gs : SpAt w ad ns S2) (gl : AllAt w al n ID TA TN TC TS)
    (k0 : w.cell? ⟨ga, 0, none⟩ = some (.slice a0 n0 c0)) (k1 : w.cell? ⟨ga, 1, none⟩ = some (.slice a1 n1 c1)) (k2 : w.cell? ⟨ga, 2, none⟩ = some (.slice ad ns cs)) :
    Calls Try.prog 19 #[.pointer (some ⟨ga, 0, none⟩), .slice al n c] w fun e w' => e = .returned (.tuple #[.int .i64 (cntB (limB n0 n1 ns S2) n (fun i => applB n0 S0 n1 S1 ns S2 (ID i) (TN i) (TS i))), .bool (limB n0 n1 ns S2)]) ∧ ∃ m, w' = w.drewN m := by
  have HX : Hid (Calls Try.prog 28 #[.pointer (some ⟨ga, 0, none⟩), .slice al n c] w fun e w' => e = .returned (.tuple #[.int .i64 (cntB (limB n0 n1 ns S2) n (fun i => applB n0 S0 n1 S1 ns S2 (ID i) (TN i) (TS i))), .bool (limB n0 n1 ns S2)]) ∧ ∃ m, w' = w.drewN m) :=
    products_any ga a0 n0 c0 S0 a1 n1 c1 S1 ad ns cs S2 al n c ID TA TN TC TS w h0 h1 hs hn g0 g1 gs gl k0 k1 k2
  clear g0 g1 gs gl k0 k1 k2 h0 h1 hs hn
  go_enter Try.func19, Try.ntmps19
  go_wp2_with fail
  refine HX.out.mono ?_
  rintro e w1 ⟨rfl, m, rfl⟩
  go_wp2
  go_ret2
  exact ⟨rfl, _, rfl⟩

theorem inB_empty (n : Nat) (S : Nat → ByteArray) : inB n S ⟨#[]⟩ = anyB n fun i => (S i).toList.isEmpty := by
  apply anyB_congr
  intro i _
  have : (⟨#[]⟩ : ByteArray).toList = [] := by kernel_rfl
  rw [this]
  cases (S i).toList <;> rfl

/-- b1Limited. -/
theorem limited_any (a0 : Option Addr) (n0 c0 : Nat) (a1 : Option Addr) (n1 c1 : Nat) (a2 : Option Addr) (n2 c2 : Nat) (S2 : Nat → ByteArray) (w : World) (h2 : n2 ≤ maxLen) (g2 : StrsAt w a2 n2 S2) :
    Calls Try.prog 20 #[.slice a0 n0 c0, .slice a1 n1 c1, .slice a2 n2 c2] w fun e w' => e = .returned (.bool (limB n0 n1 n2 S2)) ∧ w' = w := by
  have H2 : Hid (StrsAt w a2 n2 S2) := g2
  have HM : Hid (n2 ≤ maxLen) := h2
  unfold maxLen at h2
  clear g2
  by_cases p0 : 0 < n0
  · have HL : Hid (limB n0 n1 n2 S2 = true) := by show limB n0 n1 n2 S2 = true; simp [limB, p0]
    go_enter Try.func20, Try.ntmps20
    go_wp2
    go_ret
    exact ⟨by rw [HL.out]; rfl, rfl⟩
  · by_cases p1 : 0 < n1
    · have HL : Hid (limB n0 n1 n2 S2 = true) := by show limB n0 n1 n2 S2 = true; simp [limB, p1]
      go_enter Try.func20, Try.ntmps20
      go_wp2
      go_ret
      exact ⟨by rw [HL.out]; rfl, rfl⟩
    · by_cases p2 : 0 < n2
      · have HL : Hid (limB n0 n1 n2 S2 = !inB n2 S2 ⟨#[]⟩) := by show limB n0 n1 n2 S2 = _; rw [inB_empty]; simp [limB, p0, p1, p2]
        go_enter Try.func20, Try.ntmps20
        go_wp2_with fail
        refine (in_any a2 n2 c2 S2 ⟨#[]⟩ _ HM.out H2.out).mono ?_
        rintro e w1 ⟨rfl, hww⟩
        obtain rfl := hww.symm
        cases hq : inB n2 S2 ⟨#[]⟩ with
        | true =>
          have HQ : Hid (inB n2 S2 ⟨#[]⟩ = true) := hq
          clear hq
          go_wp2
          go_ret
          exact ⟨by rw [HL.out, HQ.out]; rfl, rfl⟩
        | false =>
          have HQ : Hid (inB n2 S2 ⟨#[]⟩ = false) := hq
          clear hq
          go_wp2
          go_ret
          exact ⟨by rw [HL.out, HQ.out]; rfl, rfl⟩
      · have HL : Hid (limB n0 n1 n2 S2 = false) := by show limB n0 n1 n2 S2 = false; simp [limB, p0, p1, p2]
        go_enter Try.func20, Try.ntmps20
        go_wp2
        go_ret
        exact ⟨by rw [HL.out]; rfl, rfl⟩

def set7 (xs : List Value) (k : Nat) (u0 u1 u2 u3 u4 u5 u6 : Value) : List Value := ((((((xs.set (k * 7) u0).set (k * 7 + 1) u1).set (k * 7 + 2) u2).set (k * 7 + 3) u3).set (k * 7 + 4) u4).set (k * 7 + 5) u5).set (k * 7 + 6) u6
def put7 (W : World) (g k : Nat) (u0 u1 u2 u3 u4 u5 u6 : Value) : World := ((((((W.setCell ⟨g, k * 7, none⟩ u0).setCell ⟨g, k * 7 + 1, none⟩ u1).setCell ⟨g, k * 7 + 2, none⟩ u2).setCell ⟨g, k * 7 + 3, none⟩ u3).setCell ⟨g, k * 7 + 4, none⟩ u4).setCell ⟨g, k * 7 + 5, none⟩ u5).setCell ⟨g, k * 7 + 6, none⟩ u6
theorem set7_length (xs : List Value) (k : Nat) (u0 u1 u2 u3 u4 u5 u6 : Value) : (set7 xs k u0 u1 u2 u3 u4 u5 u6).length = xs.length := by simp [set7]
theorem set7_other (xs : List Value) (k i j : Nat) (u0 u1 u2 u3 u4 u5 u6 : Value) (hi : i ≠ k) (hj : j < 7) : (set7 xs k u0 u1 u2 u3 u4 u5 u6)[i * 7 + j]? = xs[i * 7 + j]? := by
  unfold set7
  rw [List.getElem?_set_ne (by omega), List.getElem?_set_ne (by omega), List.getElem?_set_ne (by omega), List.getElem?_set_ne (by omega), List.getElem?_set_ne (by omega), List.getElem?_set_ne (by omega), List.getElem?_set_ne (by omega)]
theorem set7_zero (xs : List Value) (k : Nat) (u0 u1 u2 u3 u4 u5 u6 : Value) (hl : k * 7 + 7 ≤ xs.length) : (set7 xs k u0 u1 u2 u3 u4 u5 u6)[k * 7]? = some u0 := by
  unfold set7
  rw [List.getElem?_set_ne (by omega), List.getElem?_set_ne (by omega), List.getElem?_set_ne (by omega), List.getElem?_set_ne (by omega), List.getElem?_set_ne (by omega), List.getElem?_set_ne (by omega), List.getElem?_set_self (by omega)]
theorem set7_four (xs : List Value) (k : Nat) (u0 u1 u2 u3 u4 u5 u6 : Value) (hl : k * 7 + 7 ≤ xs.length) : (set7 xs k u0 u1 u2 u3 u4 u5 u6)[k * 7 + 4]? = some u4 := by
  unfold set7
  rw [List.getElem?_set_ne (by omega), List.getElem?_set_ne (by omega), List.getElem?_set_self (by simp; omega)]
theorem Row.put7 {W : World} {g k : Nat} {e : TypeId} {xs : List Value} (h : Row W g e xs) (u0 u1 u2 u3 u4 u5 u6 : Value) : Row (put7 W g k u0 u1 u2 u3 u4 u5 u6) g e (set7 xs k u0 u1 u2 u3 u4 u5 u6) := ((((((h.set _ _).set _ _).set _ _).set _ _).set _ _).set _ _).set _ _
theorem below_put7 {B : Nat} {w W : World} (h : Below B w W) {g : Nat} (hg : B ≤ g) (k : Nat) (u0 u1 u2 u3 u4 u5 u6 : Value) : Below B w (put7 W g k u0 u1 u2 u3 u4 u5 u6) := ((((((h.setCell hg _).setCell hg _).setCell hg _).setCell hg _).setCell hg _).setCell hg _).setCell hg _
theorem cell_set7 {W : World} {b o g k : Nat} {u0 u1 u2 u3 u4 u5 u6 : Value} (hne : ¬ b = g) : (((((((W.setCell ⟨g, k * 7, none⟩ u0).setCell ⟨g, k * 7 + 1, none⟩ u1).setCell ⟨g, k * 7 + 2, none⟩ u2).setCell ⟨g, k * 7 + 3, none⟩ u3).setCell ⟨g, k * 7 + 4, none⟩ u4).setCell ⟨g, k * 7 + 5, none⟩ u5).setCell ⟨g, k * 7 + 6, none⟩ u6).cell? ⟨b, o, none⟩ = W.cell? ⟨b, o, none⟩ := by
  rw [World.cell?_of_block (w := W)]
  rw [Below.heap_setCell _ _ _ _ hne, Below.heap_setCell _ _ _ _ hne, Below.heap_setCell _ _ _ _ hne, Below.heap_setCell _ _ _ _ hne, Below.heap_setCell _ _ _ _ hne, Below.heap_setCell _ _ _ _ hne, Below.heap_setCell _ _ _ _ hne]

theorem Row.drew {w : World} {g : Nat} {e : TypeId} {xs : List Value} (h : Row w g e xs) : Row w.drew g e xs := h

theorem info56 : (Try.prog.info? 56).map (fun i => (i.zero, i.size, i.bytes)) = some (some (.agg #[.string ⟨#[]⟩, .string ⟨#[]⟩, .int .i64 0, .string ⟨#[]⟩, .slice none 0 0, .slice none 0 0, .slice none 0 0]), 7, 128) := by kernel_rfl

set_option maxHeartbeats 1000000 in
theorem make_any (a : Option Addr) (n c : Nat) (S : Nat → ByteArray) (a1 : Option Addr) (n1 c1 : Nat) (A1 : Nat → Option Addr) (L1 C1 : Nat → Nat) (S1 : Nat → Nat → ByteArray) (w : World)
    (hn : n ≤ 4096) (h0 : StrsAt w a n S) (h1 : NestAt w a1 n1 A1 L1 C1 S1) :
    Calls Try.prog 17 #[.slice a n c, .slice a1 n1 c1] w fun e w' => e = .returned (.slice (some ⟨w.heap.size, 0, none⟩) n n) ∧ AllAt w' (some ⟨w.heap.size, 0, none⟩) n S (atA n1 A1) (atN n1 L1) (atN n1 C1) S1 ∧ Below w.heap.size w w' := by
  obtain ⟨i56, hi, hz0, hz1, hz2⟩ := info_parts info56
  have H0 : Hid (StrsAt w a n S) := h0
  have H1 : Hid (NestAt w a1 n1 A1 L1 C1 S1) := h1
  clear h0 h1
  go_enter Try.func17, Try.ntmps17
  go_wp2_with (at_make; refine wpList_make_full _ rfl _ _ 39 rfl w.heap.size 56 i56 _ 7 Try.underlying39 hi hz0 hz1 _ _ _ _ n rfl rfl rfl rfl (by rw [hz2]; omega) (by unfold maxLen; omega) (Nat.le_refl _) ?_; intro w1 hown hgrow)
  have hb1 : Below w.heap.size w w1 := (Below.refl _ _).grown hgrow (Nat.le_refl _) (by simp)
  have hr1 := Row.of_owns hown
  clear hown hgrow hi hz0 hz1 hz2
  go_loopw [6] (fun i wr => ∃ (k : Nat) (xs : List Value), k ≤ n ∧ i = .int .i64 k ∧ xs.length = n * 7 ∧ Row wr w.heap.size 56 xs ∧ (∀ i, i < k → xs[i * 7]? = some (.string (S i)) ∧ xs[i * 7 + 4]? = some (.slice (atA n1 A1 i) (atN n1 L1 i) (atN n1 C1 i))) ∧ Below w.heap.size w wr) (fun i _ => n - (intOf i).toNat)
  case atStart => exact ⟨0, _, Nat.zero_le _, rfl, by simp [size_madeCells], hr1, fun _ h => absurd h (Nat.not_lt_zero _), hb1⟩
  case round =>
    obtain ⟨k, xs, hk, rfl, hxl, hrow, hxs, hbel⟩ := hrel
    clear hb1 hr1
    by_cases hlt : k < n
    · obtain ⟨b, off, rfl, hc⟩ := H0.out k hlt
      have hcr : wr.cell? ⟨b, off + k, none⟩ = some (.string (S k)) := by rw [hbel.cell (lt_of_cell hc)]; exact hc
      have hcw : ∀ j, j < 7 → ∃ x, wr.cell? ⟨w.heap.size, k * 7 + j, none⟩ = some x := fun j hj => by rw [hrow.cell]; exact ⟨_, List.getElem?_eq_getElem (by omega)⟩
      obtain ⟨x0, hx0⟩ := hcw 0 (by omega)
      obtain ⟨x1, hx1⟩ := hcw 1 (by omega)
      obtain ⟨x2, hx2⟩ := hcw 2 (by omega)
      obtain ⟨x3, hx3⟩ := hcw 3 (by omega)
      obtain ⟨x4, hx4⟩ := hcw 4 (by omega)
      obtain ⟨x5, hx5⟩ := hcw 5 (by omega)
      obtain ⟨x6, hx6⟩ := hcw 6 (by omega)
      rw [Nat.add_zero] at hx0
      have f0 : wr.frozen? ⟨w.heap.size, k * 7, none⟩ = false := hrow.frozen _
      have f1 : wr.frozen? ⟨w.heap.size, k * 7 + 1, none⟩ = false := hrow.frozen _
      have f2 : wr.frozen? ⟨w.heap.size, k * 7 + 2, none⟩ = false := hrow.frozen _
      have f3 : wr.frozen? ⟨w.heap.size, k * 7 + 3, none⟩ = false := hrow.frozen _
      have f4 : wr.frozen? ⟨w.heap.size, k * 7 + 4, none⟩ = false := hrow.frozen _
      have f5 : wr.frozen? ⟨w.heap.size, k * 7 + 5, none⟩ = false := hrow.frozen _
      have f6 : wr.frozen? ⟨w.heap.size, k * 7 + 6, none⟩ = false := hrow.frozen _
      have hne : ¬ b = w.heap.size := by have := lt_of_cell hc; simp at this; omega
      have R : Hid (Row (put7 wr w.heap.size k (.string (S k)) (.string ⟨#[]⟩) (.int .i64 0) (.string ⟨#[]⟩) (.slice (atA n1 A1 k) (atN n1 L1 k) (atN n1 C1 k)) (.slice none 0 0) (.slice none 0 0)).drew w.heap.size 56 (set7 xs k (.string (S k)) (.string ⟨#[]⟩) (.int .i64 0) (.string ⟨#[]⟩) (.slice (atA n1 A1 k) (atN n1 L1 k) (atN n1 C1 k)) (.slice none 0 0) (.slice none 0 0)) ∧ (∀ i, i < k + 1 → (set7 xs k (.string (S k)) (.string ⟨#[]⟩) (.int .i64 0) (.string ⟨#[]⟩) (.slice (atA n1 A1 k) (atN n1 L1 k) (atN n1 C1 k)) (.slice none 0 0) (.slice none 0 0))[i * 7]? = some (.string (S i)) ∧ (set7 xs k (.string (S k)) (.string ⟨#[]⟩) (.int .i64 0) (.string ⟨#[]⟩) (.slice (atA n1 A1 k) (atN n1 L1 k) (atN n1 C1 k)) (.slice none 0 0) (.slice none 0 0))[i * 7 + 4]? = some (.slice (atA n1 A1 i) (atN n1 L1 i) (atN n1 C1 i))) ∧ Below w.heap.size w (put7 wr w.heap.size k (.string (S k)) (.string ⟨#[]⟩) (.int .i64 0) (.string ⟨#[]⟩) (.slice (atA n1 A1 k) (atN n1 L1 k) (atN n1 C1 k)) (.slice none 0 0) (.slice none 0 0)).drew) := by
        refine ⟨Row.drew (hrow.put7 _ _ _ _ _ _ _), fun i hi => ?_, (below_put7 hbel (Nat.le_refl _) _ _ _ _ _ _ _ _).drew⟩
        by_cases e : i = k
        · subst e
          exact ⟨set7_zero _ _ _ _ _ _ _ _ _ (by omega), set7_four _ _ _ _ _ _ _ _ _ (by omega)⟩
        · have h2 := hxs i (by omega)
          exact ⟨by have := set7_other xs k i 0 (.string (S k)) (.string ⟨#[]⟩) (.int .i64 0) (.string ⟨#[]⟩) (.slice (atA n1 A1 k) (atN n1 L1 k) (atN n1 C1 k)) (.slice none 0 0) (.slice none 0 0) e (by omega); rw [Nat.add_zero] at this; rw [this]; exact h2.1, by rw [set7_other _ _ _ _ _ _ _ _ _ _ _ e (by omega)]; exact h2.2⟩
      have HN : Hid (NestAt wr.drew a1 n1 A1 L1 C1 S1) := H1.out.below hbel.drew
      have i0 : (0 : Int) ≤ (k : Int) := by omega
      have i1 : (k : Int) < (n : Int) := by omega
      clear hc hrow hxs hbel hcw
      go_wp2_with fail
      go_region_held3 (fun w' => w'.cell? ⟨b, off + k, none⟩ = some (.string (S k)))
        (first | with_reducible assumption | (rw [cell_set7 hne]; with_reducible assumption) | (rw [cell_drew]; with_reducible assumption) | (rw [cell_drew, cell_set7 hne]; with_reducible assumption))
        (first
          | (go_at_call 13; refine (at_any a1 n1 c1 A1 L1 C1 S1 _ k HN.out).mono ?_; rintro e w' ⟨rfl, hww⟩; obtain rfl := hww.symm)
          | fail)
      go_wp2
      go_roundw
      case rel => exact ⟨k + 1, _, by omega, by go_num, by rw [set7_length]; exact hxl, R.out.1, R.out.2.1, R.out.2.2⟩
      case measure => simp [intOf]; omega
    · obtain rfl : k = n := by omega
      have R : Hid (AllAt wr (some ⟨w.heap.size, 0, none⟩) k S (atA n1 A1) (atN n1 L1) (atN n1 C1) S1 ∧ Below w.heap.size w wr) := by
        refine ⟨fun i hi => ?_, hbel⟩
        have hf := at_facts (H1.out.below hbel) i
        refine ⟨by have := hf.1; unfold maxLen; omega, hf.2.2, w.heap.size, 0, rfl, ?_, ?_⟩
        · rw [Nat.zero_add, hrow.cell]; exact (hxs i hi).1
        · rw [Nat.zero_add, hrow.cell]; exact (hxs i hi).2
      clear hrow hxs hbel hxl
      go_wp2
      go_ret
      exact ⟨rfl, R.out⟩

end Go.Proofs.Qxb6604472a
