import Derived.Test.Qxb6604472aAt
namespace Go.Proofs.Qxb6604472a
open Go.RowKit Go.Maps Go.ChangeMaps Go.WideMaps
attribute [local go_sem] eq22 eq31
attribute [local go_sem ↓] Go.wp_at_zero Go.wp_at_succ

theorem specs_nil (a1 a2 a3 a4 a5 a6 : Option Addr) (n1 c1 n2 c2 n3 c3 n4 c4 n5 c5 n6 c6 : Nat) (w : World) : Calls Try.prog 10 #[.slice none 0 0, .slice a1 n1 c1, .slice a2 n2 c2, .slice a3 n3 c3, .slice a4 n4 c4, .slice a5 n5 c5, .slice a6 n6 c6] w fun e w' => e = .returned (.slice none 0 0) ∧ w' = w := by
  go_enter Try.func10, Try.ntmps10
  go_wp2
  go_ret
  exact ⟨rfl, rfl⟩

theorem cell_keep {w1 w2 : World} {a : Addr} {v : Value} (hb : Below w1.heap.size w1 w2) (h : w1.cell? a = some v) : w2.cell? a = some v := by rw [hb.cell (lt_of_cell h)]; exact h
theorem froz_keep {w1 w2 : World} {a : Addr} {v : Value} (hb : Below w1.heap.size w1 w2) (h : w1.cell? a = some v) (hf : w1.frozen? a = false) : w2.frozen? a = false := by rw [hb.frozen (lt_of_cell h)]; exact hf

theorem cell_set5 {W : World} {b o g o0 o1 o2 o3 o4 : Nat} {u0 u1 u2 u3 u4 : Value} (hne : ¬ b = g) :
    (((((W.setCell ⟨g, o0, none⟩ u0).setCell ⟨g, o1, none⟩ u1).setCell ⟨g, o2, none⟩ u2).setCell ⟨g, o3, none⟩ u3).setCell ⟨g, o4, none⟩ u4).cell? ⟨b, o, none⟩ = W.cell? ⟨b, o, none⟩ := by
  rw [World.cell?_of_block (w := W)]
  rw [Below.heap_setCell _ _ _ _ hne, Below.heap_setCell _ _ _ _ hne, Below.heap_setCell _ _ _ _ hne, Below.heap_setCell _ _ _ _ hne, Below.heap_setCell _ _ _ _ hne]
theorem cell_drew {W : World} (a : Addr) : W.drew.cell? a = W.cell? a := rfl

/-- What the store at the end of b1Specs' round leans on, kept behind a call that only makes memory. -/
theorem keep5 {wr w1 w2 : World} {k g : Nat} {x0 x1 x2 x3 x4 : Value} (hb : Below w1.heap.size w1 w2) (c0 : w1.cell? ⟨g, k * 5, none⟩ = some x0) (c1 : w1.cell? ⟨g, k * 5 + 1, none⟩ = some x1) (c2 : w1.cell? ⟨g, k * 5 + 2, none⟩ = some x2) (c3 : w1.cell? ⟨g, k * 5 + 3, none⟩ = some x3) (c4 : w1.cell? ⟨g, k * 5 + 4, none⟩ = some x4)
    (f0 : w1.frozen? ⟨g, k * 5, none⟩ = false) (f1 : w1.frozen? ⟨g, k * 5 + 1, none⟩ = false) (f2 : w1.frozen? ⟨g, k * 5 + 2, none⟩ = false) (f3 : w1.frozen? ⟨g, k * 5 + 3, none⟩ = false) (f4 : w1.frozen? ⟨g, k * 5 + 4, none⟩ = false) (hB : Below wr.heap.size wr w1) :
    w2.cell? ⟨g, k * 5, none⟩ = some x0 ∧ w2.cell? ⟨g, k * 5 + 1, none⟩ = some x1 ∧ w2.cell? ⟨g, k * 5 + 2, none⟩ = some x2 ∧ w2.cell? ⟨g, k * 5 + 3, none⟩ = some x3 ∧ w2.cell? ⟨g, k * 5 + 4, none⟩ = some x4 ∧
      w2.frozen? ⟨g, k * 5, none⟩ = false ∧ w2.frozen? ⟨g, k * 5 + 1, none⟩ = false ∧ w2.frozen? ⟨g, k * 5 + 2, none⟩ = false ∧ w2.frozen? ⟨g, k * 5 + 3, none⟩ = false ∧ w2.frozen? ⟨g, k * 5 + 4, none⟩ = false ∧ Below wr.heap.size wr w2 := by
  exact ⟨cell_keep hb c0, cell_keep hb c1, cell_keep hb c2, cell_keep hb c3, cell_keep hb c4, froz_keep hb c0 f0, froz_keep hb c1 f1, froz_keep hb c2 f2, froz_keep hb c3 f3, froz_keep hb c4 f4, hB.trans (hb.mono hB.size)⟩

/-- Five cells stored from k * 5 on. -/
def set5 (xs : List Value) (k : Nat) (u0 u1 u2 u3 u4 : Value) : List Value := ((((xs.set (k * 5) u0).set (k * 5 + 1) u1).set (k * 5 + 2) u2).set (k * 5 + 3) u3).set (k * 5 + 4) u4
def put5 (W : World) (g k : Nat) (u0 u1 u2 u3 u4 : Value) : World := ((((W.setCell ⟨g, k * 5, none⟩ u0).setCell ⟨g, k * 5 + 1, none⟩ u1).setCell ⟨g, k * 5 + 2, none⟩ u2).setCell ⟨g, k * 5 + 3, none⟩ u3).setCell ⟨g, k * 5 + 4, none⟩ u4

theorem set5_length (xs : List Value) (k : Nat) (u0 u1 u2 u3 u4 : Value) : (set5 xs k u0 u1 u2 u3 u4).length = xs.length := by simp [set5]
theorem set5_other (xs : List Value) (k i j : Nat) (u0 u1 u2 u3 u4 : Value) (hi : i ≠ k) (hj : j < 5) : (set5 xs k u0 u1 u2 u3 u4)[i * 5 + j]? = xs[i * 5 + j]? := by
  unfold set5
  rw [List.getElem?_set_ne (by omega), List.getElem?_set_ne (by omega), List.getElem?_set_ne (by omega), List.getElem?_set_ne (by omega), List.getElem?_set_ne (by omega)]
theorem set5_same (xs : List Value) (k j : Nat) (u0 u1 u2 u3 u4 : Value) (hj : j < 5) (hl : k * 5 + 5 ≤ xs.length) : (set5 xs k u0 u1 u2 u3 u4)[k * 5 + j]? = [u0, u1, u2, u3, u4][j]? := by
  unfold set5
  match j, hj with
  | 0, _ =>
    rw [List.getElem?_set_ne (by omega), List.getElem?_set_ne (by omega), List.getElem?_set_ne (by omega), List.getElem?_set_ne (by omega), Nat.add_zero, List.getElem?_set_self (by omega)]
    rfl
  | 1, _ =>
    rw [List.getElem?_set_ne (by omega), List.getElem?_set_ne (by omega), List.getElem?_set_ne (by omega), List.getElem?_set_self (by simp; omega)]
    rfl
  | 2, _ =>
    rw [List.getElem?_set_ne (by omega), List.getElem?_set_ne (by omega), List.getElem?_set_self (by simp; omega)]
    rfl
  | 3, _ =>
    rw [List.getElem?_set_ne (by omega), List.getElem?_set_self (by simp; omega)]
    rfl
  | 4, _ =>
    rw [List.getElem?_set_self (by simp; omega)]
    rfl
theorem Row.put5 {W : World} {g k : Nat} {e : TypeId} {xs : List Value} (h : Row W g e xs) (u0 u1 u2 u3 u4 : Value) : Row (put5 W g k u0 u1 u2 u3 u4) g e (set5 xs k u0 u1 u2 u3 u4) := ((((h.set _ _).set _ _).set _ _).set _ _).set _ _
theorem SpecC.put5 {w W : World} {s : ByteArray} {cs : List Value} (h : SpecC w W s cs) (g k : Nat) (u0 u1 u2 u3 u4 : Value) : SpecC w (put5 W g k u0 u1 u2 u3 u4) s cs := ((((h.setCell _ _).setCell _ _).setCell _ _).setCell _ _).setCell _ _
theorem below_put5 {B : Nat} {w W : World} (h : Below B w W) {g : Nat} (hg : B ≤ g) (k : Nat) (u0 u1 u2 u3 u4 : Value) : Below B w (put5 W g k u0 u1 u2 u3 u4) := ((((h.setCell hg _).setCell hg _).setCell hg _).setCell hg _).setCell hg _

/-- One round of b1Specs, outside the walk. -/
theorem specs_step {w wr wm1 wm2 : World} {n k : Nat} {S : Nat → ByteArray} {xs : List Value} {a1 a4 : Option Addr} {n1 c1 n4 c4 : Nat} {S1 S4 : Nat → ByteArray} {r2 r3 : Option Nat} (hlt : k < n) (hxl : xs.length = n * 5)
    (HR : Row wr w.heap.size 36 xs ∧ (∀ i, i < k → ∃ cs, (∀ j, j < 5 → xs[i * 5 + j]? = cs[j]?) ∧ SpecC w wr (S i) cs) ∧ Below w.heap.size w wr) (hB : Below wr.heap.size wr wm2) (h1 : n1 ≤ maxLen) (h4 : n4 ≤ maxLen) (g1 : StrsAt w a1 n1 S1) (g4 : StrsAt w a4 n4 S4)
    (hm2 : MapIs wm1 r2) (hb3 : Below wm1.heap.size wm1 wm2) (hm3 : MapIs wm2 r3) :
    ∃ xs' : List Value, xs'.length = n * 5 ∧ Row (put5 wm2 w.heap.size k (.string (S k)) (.slice a1 n1 c1) (.map r2) (.map r3) (.slice a4 n4 c4)) w.heap.size 36 xs' ∧
      (∀ i, i < k + 1 → ∃ cs, (∀ j, j < 5 → xs'[i * 5 + j]? = cs[j]?) ∧ SpecC w (put5 wm2 w.heap.size k (.string (S k)) (.slice a1 n1 c1) (.map r2) (.map r3) (.slice a4 n4 c4)) (S i) cs) ∧
      Below w.heap.size w (put5 wm2 w.heap.size k (.string (S k)) (.slice a1 n1 c1) (.map r2) (.map r3) (.slice a4 n4 c4)) := by
  obtain ⟨hrow, hxs, hbel⟩ := HR
  refine ⟨_, by rw [set5_length]; exact hxl, (hrow.below hB hrow.lt).put5 _ _ _ _ _, ?_, below_put5 (hbel.trans (hB.mono hbel.size)) (Nat.le_refl _) _ _ _ _ _ _⟩
  intro i hi
  by_cases e : i = k
  · subst e
    exact ⟨_, fun j hj => set5_same _ _ _ _ _ _ _ _ hj (by omega), SpecC.put5 ⟨a1, n1, c1, S1, r2, r3, a4, n4, c4, S4, rfl, h1, h4, g1, g4, hm2.below hb3, hm3⟩ _ _ _ _ _ _ _⟩
  · obtain ⟨cs, h5, hS⟩ := hxs i (by omega)
    exact ⟨cs, fun j hj => by rw [set5_other _ _ _ _ _ _ _ _ _ e hj]; exact h5 j hj, (hS.below hB).put5 _ _ _ _ _ _ _⟩

set_option maxHeartbeats 1000000 in
theorem specs_some (a : Addr) (n c : Nat) (S : Nat → ByteArray)
    (a1 : Option Addr) (n1 c1 : Nat) (A1 : Nat → Option Addr) (L1 C1 : Nat → Nat) (S1 : Nat → Nat → ByteArray)
    (a2 : Option Addr) (n2 c2 : Nat) (A2 : Nat → Option Addr) (L2 C2 : Nat → Nat) (S2 : Nat → Nat → ByteArray)
    (a3 : Option Addr) (n3 c3 : Nat) (A3 : Nat → Option Addr) (L3 C3 : Nat → Nat) (S3 : Nat → Nat → ByteArray)
    (a4 : Option Addr) (n4 c4 : Nat) (A4 : Nat → Option Addr) (L4 C4 : Nat → Nat) (S4 : Nat → Nat → ByteArray)
    (a5 : Option Addr) (n5 c5 : Nat) (A5 : Nat → Option Addr) (L5 C5 : Nat → Nat) (S5 : Nat → Nat → ByteArray)
    (a6 : Option Addr) (n6 c6 : Nat) (A6 : Nat → Option Addr) (L6 C6 : Nat → Nat) (S6 : Nat → Nat → ByteArray) (w : World)
    (hn : n ≤ 4096) (h0 : StrsAt w (some a) n S) (h1 : NestAt w a1 n1 A1 L1 C1 S1) (h2 : NestAt w a2 n2 A2 L2 C2 S2) (h3 : NestAt w a3 n3 A3 L3 C3 S3) (h4 : NestAt w a4 n4 A4 L4 C4 S4) (h5 : NestAt w a5 n5 A5 L5 C5 S5) (h6 : NestAt w a6 n6 A6 L6 C6 S6)
    (s2 : ∀ i j, (S2 i j).size ≤ maxLen) (s3 : ∀ i j, (S3 i j).size ≤ maxLen) (s4 : ∀ i j, (S4 i j).size ≤ maxLen) (s5 : ∀ i j, (S5 i j).size ≤ maxLen) :
    Calls Try.prog 10 #[.slice (some a) n c, .slice a1 n1 c1, .slice a2 n2 c2, .slice a3 n3 c3, .slice a4 n4 c4, .slice a5 n5 c5, .slice a6 n6 c6] w fun e w' => e = .returned (.slice (some ⟨w.heap.size, 0, none⟩) n n) ∧
      (∃ xs : List Value, Row w' w.heap.size 36 xs ∧ xs.length = n * 5 ∧ ∀ i, i < n → ∃ cs, (∀ j, j < 5 → xs[i * 5 + j]? = cs[j]?) ∧ SpecC w w' (S i) cs) ∧ Below w.heap.size w w' := by
  obtain ⟨i36, hi, hz0, hz1, hz2⟩ := info_parts info36
  have H0 : Hid (StrsAt w (some a) n S) := h0
  have H1 : Hid (NestAt w a1 n1 A1 L1 C1 S1) := h1
  have H2 : Hid (NestAt w a2 n2 A2 L2 C2 S2) := h2
  have H3 : Hid (NestAt w a3 n3 A3 L3 C3 S3) := h3
  have H4 : Hid (NestAt w a4 n4 A4 L4 C4 S4) := h4
  have H5 : Hid (NestAt w a5 n5 A5 L5 C5 S5) := h5
  have H6 : Hid (NestAt w a6 n6 A6 L6 C6 S6) := h6
  have HS : Hid ((∀ i j, (S2 i j).size ≤ maxLen) ∧ (∀ i j, (S3 i j).size ≤ maxLen) ∧ (∀ i j, (S4 i j).size ≤ maxLen) ∧ (∀ i j, (S5 i j).size ≤ maxLen)) := ⟨s2, s3, s4, s5⟩
  clear h0 h1 h2 h3 h4 h5 h6 s2 s3 s4 s5
  go_enter Try.func10, Try.ntmps10
  go_wp2_with (at_make; refine wpList_make_full _ rfl _ _ 27 rfl w.heap.size 36 i36 _ 5 Try.underlying27 hi hz0 hz1 _ _ _ _ n rfl rfl rfl rfl (by rw [hz2]; omega) (by unfold maxLen; omega) (Nat.le_refl _) ?_; intro w1 hown hgrow)
  have hb1 : Below w.heap.size w w1 := (Below.refl _ _).grown hgrow (Nat.le_refl _) (by simp)
  have hr1 := Row.of_owns hown
  clear hown hgrow hi hz0 hz1 hz2
  go_loopw [16] (fun i wr => ∃ (k : Nat) (xs : List Value), k ≤ n ∧ i = .int .i64 k ∧ xs.length = n * 5 ∧ Row wr w.heap.size 36 xs ∧ (∀ i, i < k → ∃ cs, (∀ j, j < 5 → xs[i * 5 + j]? = cs[j]?) ∧ SpecC w wr (S i) cs) ∧ Below w.heap.size w wr) (fun i _ => n - (intOf i).toNat)
  case atStart => exact ⟨0, _, Nat.zero_le _, rfl, by simp [size_madeCells], hr1, fun _ h => absurd h (Nat.not_lt_zero _), hb1⟩
  case round =>
    obtain ⟨k, xs, hk, rfl, hxl, hrow, hxs, hbel⟩ := hrel
    clear hb1 hr1
    by_cases hlt : k < n
    · obtain ⟨b, off, e, hc⟩ := H0.out k hlt
      cases e
      have hcr : wr.cell? ⟨b, off + k, none⟩ = some (.string (S k)) := by rw [hbel.cell (lt_of_cell hc)]; exact hc
      have hcw : ∀ j, j < 5 → ∃ x, wr.cell? ⟨w.heap.size, k * 5 + j, none⟩ = some x := fun j hj => by rw [hrow.cell]; exact ⟨_, List.getElem?_eq_getElem (by omega)⟩
      obtain ⟨x0, hx0⟩ := hcw 0 (by omega)
      obtain ⟨x1, hx1⟩ := hcw 1 (by omega)
      obtain ⟨x2, hx2⟩ := hcw 2 (by omega)
      obtain ⟨x3, hx3⟩ := hcw 3 (by omega)
      obtain ⟨x4, hx4⟩ := hcw 4 (by omega)
      rw [Nat.add_zero] at hx0
      have f0 : wr.frozen? ⟨w.heap.size, k * 5, none⟩ = false := hrow.frozen _
      have f1 : wr.frozen? ⟨w.heap.size, k * 5 + 1, none⟩ = false := hrow.frozen _
      have f2 : wr.frozen? ⟨w.heap.size, k * 5 + 2, none⟩ = false := hrow.frozen _
      have f3 : wr.frozen? ⟨w.heap.size, k * 5 + 3, none⟩ = false := hrow.frozen _
      have f4 : wr.frozen? ⟨w.heap.size, k * 5 + 4, none⟩ = false := hrow.frozen _
      have hB0 : Below wr.heap.size wr wr.drew := (Below.refl _ _).drew
      have HR : Hid (Row wr w.heap.size 36 xs ∧ (∀ i, i < k → ∃ cs, (∀ j, j < 5 → xs[i * 5 + j]? = cs[j]?) ∧ SpecC w wr (S i) cs) ∧ Below w.heap.size w wr) := ⟨hrow, hxs, hbel⟩
      have hne : ¬ b = w.heap.size := by have := lt_of_cell hc; simp at this; omega
      have i0 : (0 : Int) ≤ (k : Int) := by omega
      have i1 : (k : Int) < (n : Int) := by omega
      clear hc hrow hxs hbel hcw
      go_wp2_with fail
      go_region_held3 (fun w' => w'.cell? ⟨b, off + k, none⟩ = some (.string (S k)))
        (first | with_reducible assumption | (rw [cell_set5 hne]; with_reducible assumption) | (rw [cell_drew]; with_reducible assumption))
        (first
          | (go_at_call_of 13 (Value.slice a1 n1 c1); refine (at_any a1 n1 c1 A1 L1 C1 S1 _ k ?_).mono ?_; (refine H1.out.below (HR.out.2.2.trans (Below.mono (B := wr.heap.size) ?_ HR.out.2.2.size)); with_reducible assumption); rintro e w' ⟨rfl, hww⟩; obtain rfl := hww.symm)
          | (go_at_call_of 13 (Value.slice a2 n2 c2); refine (at_any a2 n2 c2 A2 L2 C2 S2 _ k ?_).mono ?_; (refine H2.out.below (HR.out.2.2.trans (Below.mono (B := wr.heap.size) ?_ HR.out.2.2.size)); with_reducible assumption); rintro e w' ⟨rfl, hww⟩; obtain rfl := hww.symm)
          | (go_at_call_of 13 (Value.slice a3 n3 c3); refine (at_any a3 n3 c3 A3 L3 C3 S3 _ k ?_).mono ?_; (refine H3.out.below (HR.out.2.2.trans (Below.mono (B := wr.heap.size) ?_ HR.out.2.2.size)); with_reducible assumption); rintro e w' ⟨rfl, hww⟩; obtain rfl := hww.symm)
          | (go_at_call_of 13 (Value.slice a4 n4 c4); refine (at_any a4 n4 c4 A4 L4 C4 S4 _ k ?_).mono ?_; (refine H4.out.below (HR.out.2.2.trans (Below.mono (B := wr.heap.size) ?_ HR.out.2.2.size)); with_reducible assumption); rintro e w' ⟨rfl, hww⟩; obtain rfl := hww.symm)
          | (go_at_call_of 13 (Value.slice a5 n5 c5); refine (at_any a5 n5 c5 A5 L5 C5 S5 _ k ?_).mono ?_; (refine H5.out.below (HR.out.2.2.trans (Below.mono (B := wr.heap.size) ?_ HR.out.2.2.size)); with_reducible assumption); rintro e w' ⟨rfl, hww⟩; obtain rfl := hww.symm)
          | (go_at_call_of 13 (Value.slice a6 n6 c6); refine (at_any a6 n6 c6 A6 L6 C6 S6 _ k ?_).mono ?_; (refine H6.out.below (HR.out.2.2.trans (Below.mono (B := wr.heap.size) ?_ HR.out.2.2.size)); with_reducible assumption); rintro e w' ⟨rfl, hww⟩; obtain rfl := hww.symm)
          | (go_at_call_of 24 (Value.slice (atA n2 A2 k) (atN n2 L2 k) (atN n2 C2 k)); refine (map_any _ _ _ (S2 k) _ _ _ (S3 k) _ (at_facts H2.out k).1 (at_facts H2.out k).2.1 ?_ ?_ (HS.out.1 k) (HS.out.2.1 k)).mono ?_; (refine (at_facts H2.out k).2.2.below (HR.out.2.2.trans (Below.mono (B := wr.heap.size) ?_ HR.out.2.2.size)); with_reducible assumption); (refine (at_facts H3.out k).2.2.below (HR.out.2.2.trans (Below.mono (B := wr.heap.size) ?_ HR.out.2.2.size)); with_reducible assumption); rintro e wm1 ⟨r2, rfl, hm2, hb2⟩; obtain ⟨y0, y1, y2, y3, y4, z0, z1, z2, z3, z4, hBm1⟩ := keep5 (wr := wr) (w1 := wr.drew) hb2 hx0 hx1 hx2 hx3 hx4 f0 f1 f2 f3 f4 hB0; have hcm1 := cell_keep (w1 := wr.drew) hb2 hcr)
          | (go_at_call_of 24 (Value.slice (atA n4 A4 k) (atN n4 L4 k) (atN n4 C4 k)); refine (map_any _ _ _ (S4 k) _ _ _ (S5 k) _ (at_facts H4.out k).1 (at_facts H4.out k).2.1 ?_ ?_ (HS.out.2.2.1 k) (HS.out.2.2.2 k)).mono ?_; (refine (at_facts H4.out k).2.2.below (HR.out.2.2.trans (Below.mono (B := wr.heap.size) ?_ HR.out.2.2.size)); with_reducible assumption); (refine (at_facts H5.out k).2.2.below (HR.out.2.2.trans (Below.mono (B := wr.heap.size) ?_ HR.out.2.2.size)); with_reducible assumption); rintro e wm2 ⟨r3, rfl, hm3, hb3⟩; obtain ⟨t0, t1, t2, t3, t4, g0, g1, g2, g3, g4, hBm2⟩ := keep5 (wr := wr) (w1 := wm1) hb3 y0 y1 y2 y3 y4 z0 z1 z2 z3 z4 hBm1; have hcm2 := cell_keep (w1 := wm1) hb3 hcm1))
      have m1 := (at_facts H1.out k).1
      have m6 := (at_facts H6.out k).1
      have R : Hid _ := specs_step hlt hxl HR.out hBm2 (show atN n1 L1 k ≤ maxLen by unfold maxLen; omega) (show atN n6 L6 k ≤ maxLen by unfold maxLen; omega) (c1 := atN n1 C1 k) (c4 := atN n6 C6 k) (at_facts H1.out k).2.2 (at_facts H6.out k).2.2 hm2 hb3 hm3
      clear m1 m6 y0 y1 y2 y3 y4 z0 z1 z2 z3 z4 hBm1 t0 t1 t2 t3 t4 g0 g1 g2 g3 g4 hBm2 hm2 hb2 hm3 hb3 hcm1 hcm2 hx0 hx1 hx2 hx3 hx4 f0 f1 f2 f3 f4 hB0 hcr
      go_wp2
      go_roundw
      case rel =>
        obtain ⟨xs', r1, r2', r3', r4'⟩ := R.out
        exact ⟨k + 1, xs', by omega, by go_num, r1, r2', r3', r4'⟩
      case measure => simp [intOf]; omega
    · have : k = n := by omega
      subst this
      have R : Hid ((∃ xs : List Value, Row wr w.heap.size 36 xs ∧ xs.length = k * 5 ∧ ∀ i, i < k → ∃ cs, (∀ j, j < 5 → xs[i * 5 + j]? = cs[j]?) ∧ SpecC w wr (S i) cs) ∧ Below w.heap.size w wr) := ⟨⟨xs, hrow, hxl, hxs⟩, hbel⟩
      clear hrow hxs hbel hxl
      go_wp2
      go_ret
      exact ⟨rfl, R.out⟩

end Go.Proofs.Qxb6604472a
