import Derived.Test.Qxb6602571aFold
namespace Go.Proofs.Qxb6602571a
open Go.RowKit

theorem nl_len (d : Nat → Int) (p g : Nat) (h : p ≤ g) : nl d p g ≤ g - p := by
  induction g with
  | zero => simp [nl]
  | succ g ih =>
    by_cases e : p = g + 1
    · rw [e, nl_self]; omega
    · have := ih (by omega)
      unfold nl
      rw [if_pos (by omega)]
      split <;> omega

theorem gapText_len (d : Nat → Int) (p g : Nat) (h : p ≤ g) : (gapText d p g).length ≤ g - p := by
  have := nl_len d p g h
  unfold gapText
  split
  · rw [seg_length]; omega
  · simp; omega
  · simp; omega

/-- foldSpan's inner loop. -/
def InGap (d : Nat → Int) (a k m j cn : Nat) : Prop := k ≤ j ∧ j ≤ m ∧ (∀ i, a + k ≤ i → i < a + j → Blank (d i)) ∧ cn = nl d (a + k) (a + j)

theorem InGap.space {d : Nat → Int} {a k m j cn : Nat} (h : InGap d a k m j cn) (hj : j < m) (c : d (a + j) = 32) : InGap d a k m (j + 1) cn := by
  obtain ⟨h1, h2, h3, h4⟩ := h
  refine ⟨by omega, by omega, fun i x y => ?_, ?_⟩
  · by_cases e : i = a + j
    · rw [e]; exact .inl c
    · exact h3 i x (by omega)
  · rw [← Nat.add_assoc, nl_no d (a + k) (a + j) (by omega) (by omega)]; exact h4

theorem InGap.br {d : Nat → Int} {a k m j cn : Nat} (h : InGap d a k m j cn) (hj : j < m) (c : d (a + j) = 10) : InGap d a k m (j + 1) (cn + 1) := by
  obtain ⟨h1, h2, h3, h4⟩ := h
  refine ⟨by omega, by omega, fun i x y => ?_, ?_⟩
  · by_cases e : i = a + j
    · rw [e]; exact .inr c
    · exact h3 i x (by omega)
  · rw [← Nat.add_assoc, nl_br d (a + k) (a + j) (by omega) c, h4]

/-- The span's state: t is the fold of what is behind us. -/
def SP (d : Nat → Int) (a m : Nat) (k : Nat) (t : List Int) : Prop := k ≤ m ∧ t.length ≤ k ∧ t ++ fs d (a + k) (a + m) = fs d a (a + m)

theorem SP.one {d : Nat → Int} {a m k : Nat} {t : List Int} (h : SP d a m k t) (hk : k < m) (hb : ¬ Blank (d (a + k))) : SP d a m (k + 1) (t ++ [d (a + k)]) := by
  obtain ⟨h1, h2, h3⟩ := h
  refine ⟨hk, by simp; omega, ?_⟩
  rw [← h3, fs_cons d (a + k) (a + m) (by omega) hb]
  simp [Nat.add_assoc]

theorem SP.gap {d : Nat → Int} {a m k j cn : Nat} {t : List Int} (h : SP d a m k t) (hk : k < m) (hb : Blank (d (a + k))) (hg : InGap d a k m j cn) (he : j < m → ¬ Blank (d (a + j))) : k < j ∧ SP d a m j (t ++ gapText d (a + k) (a + j)) := by
  obtain ⟨h1, h2, h3⟩ := h
  obtain ⟨g1, g2, g3, g4⟩ := hg
  have hu : gapEnd d (a + m) (a + k) = a + j := gap_uniq d (a + m) (a + k) (a + j) (by omega) (by omega) g3 (fun x => he (by omega))
  have hkj : k < j := by
    by_cases e : k = j
    · subst e; exact absurd hb (he hk)
    · omega
  refine ⟨hkj, g2, ?_, ?_⟩
  · have := gapText_len d (a + k) (a + j) (by omega)
    rw [List.length_append]; omega
  · rw [← h3, fs_blank d (a + k) (a + m) (by omega) hb, hu, List.append_assoc]

theorem gapText0 {d : Nat → Int} {p g cn : Nat} (h : cn = nl d p g) (h0 : cn = 0) : gapText d p g = seg d p g := by unfold gapText; rw [← h, h0]
theorem gapText1 {d : Nat → Int} {p g cn : Nat} (h : cn = nl d p g) (h0 : cn = 1) : gapText d p g = [32] := by unfold gapText; rw [← h, h0]
theorem gapText2 {d : Nat → Int} {p g cn : Nat} (h : cn = nl d p g) (h0 : 2 ≤ cn) : gapText d p g = List.replicate (cn - 1) 10 := by
  obtain ⟨k, rfl⟩ : ∃ k, cn = k + 2 := ⟨cn - 2, by omega⟩
  unfold gapText
  rw [← h]
  rfl

set_option maxHeartbeats 4000000 in
set_option maxRecDepth 100000 in
theorem fold_any (g : Nat) (ad : Option Addr) (m c a : Nat) (d : Nat → Int) (w : World) (hg : g ≤ w.heap.size) (hm : m ≤ 1048576) (hmc : m ≤ c) (h : By w g ad m d a) :
    Calls Try.prog 11 #[.slice ad m c] w fun e w' => ∃ v, e = .returned v ∧ Own w' w.heap.size v (fs d a (a + m)) ∧ Below w.heap.size w w' := by
  obtain ⟨i5, hi, hz0, hz1, hz2⟩ := info_parts info5
  have H : Hid (By w g ad m d a) := h
  clear h
  go_enter Try.func11, Try.ntmps11
  go_wp2_with (at_make; refine wpList_make_own _ rfl _ _ 22 rfl w.heap.size 5 i5 _ 1 Try.underlying22 hi hz0 hz1 _ _ _ m rfl rfl rfl (by rw [hz2]; omega) (by unfold maxLen; omega) (Nat.le_refl _) ?_; intro w1 hown hgrow)
  have H1 : Hid (Own w1 w.heap.size (.slice (some ⟨w.heap.size, 0, none⟩) 0 m) [] ∧ Below w.heap.size w w1) := ⟨hown, (Below.refl _ _).grown hgrow (Nat.le_refl _) (fun _ e => by cases e)⟩
  clear hown hgrow
  go_loopw [3, 4] (fun v i wr => ∃ (k : Nat) (t : List Int), i = .int .i64 k ∧ Own wr w.heap.size v t ∧ SP d a m k t ∧ Below w.heap.size w wr) (fun _ i _ => m - (intOf i).toNat)
  case atStart => exact ⟨0, [], rfl, H1.out.1, ⟨Nat.zero_le _, Nat.le_refl _, rfl⟩, H1.out.2⟩
  case round =>
    clear H1
    obtain ⟨k, t, rfl, hown, hsp, hbel⟩ := hrel
    have hk := hsp.1
    have HR : Hid (Own wr w.heap.size u3 t ∧ SP d a m k t ∧ Below w.heap.size w wr) := ⟨hown, hsp, hbel⟩
    have HY : Hid (By wr g ad m d a) := H.out.below (hbel.mono hg)
    have HZ : Hid (w.heap.size ≤ wr.heap.size) := hbel.size
    have ht := hsp.2.1
    clear hown hsp hbel
    by_cases hlt : k < m
    · obtain ⟨b, off, rfl, hb, hc⟩ := HY.out k hlt
      have i1 : (k : Int) < (m : Int) := by omega
      by_cases hbl : Blank (d (a + k))
      · have hbl' : d (a + k) = 32 ∨ d (a + k) = 10 := hbl
        rcases hbl' with hv | hv
        all_goals
          rw [hv] at hc
          go_wp2_with fail
          go_loop [5, 6] (fun vj vc => ∃ (j cn : Nat), vj = .int .i64 j ∧ vc = .int .i64 cn ∧ InGap d a k m j cn) (fun vj _ => m - (intOf vj).toNat)
          case atStart => exact ⟨k, 0, rfl, rfl, Nat.le_refl _, by omega, fun i x y => by omega, (nl_self _ _).symm⟩
          case round =>
            obtain ⟨j, cn, rfl, rfl, hgap⟩ := hrel
            have HG : Hid (InGap d a k m j cn) := hgap
            have hj1 := hgap.1
            have hj2 := hgap.2.1
            clear hgap
            by_cases hjm : j < m
            · obtain ⟨b2, off2, e2, hb2, hc2⟩ := HY.out j hjm
              simp only [Option.some.injEq, Addr.mk.injEq, and_true] at e2
              obtain ⟨rfl, rfl⟩ := e2
              have k1 : (j : Int) < (m : Int) := by omega
              by_cases k32 : d (a + j) = 32
              · rw [k32] at hc2
                have HN : Hid (InGap d a k m (j + 1) cn) := HG.out.space hjm k32
                go_wp2
                refine ⟨⟨j + 1, cn, by go_num, rfl, HN.out⟩, ?_⟩
                simp [intOf]; omega
              by_cases k10 : d (a + j) = 10
              · rw [k10] at hc2
                have HN : Hid (InGap d a k m (j + 1) (cn + 1)) := HG.out.br hjm k10
                have hcn0 : cn ≤ 1048576 := by have h1 := HG.out.2.2.2; have h2 := nl_len d (a + k) (a + j) (by omega); omega
                go_wp2
                refine ⟨⟨j + 1, cn + 1, by go_num, by go_num, HN.out⟩, ?_⟩
                simp [intOf]; omega
              have e32 : (d (a + j) == 32) = false := beq_eq_false_iff_ne.2 k32
              have e10 : (d (a + j) == 10) = false := beq_eq_false_iff_ne.2 k10
              have HX : Hid (j < m → ¬ Blank (d (a + j))) := fun _ h => h.elim k32 k10
              have HJ : Hid (k < j ∧ SP d a m j (t ++ gapText d (a + k) (a + j))) := HR.out.2.1.gap hlt hbl HG.out HX.out
              have hkj : k < j := HJ.out.1
              have hcn : cn ≤ j - k := by have h1 := HG.out.2.2.2; have h2 := nl_len d (a + k) (a + j) (by omega); omega
              clear HX
              by_cases c0 : cn = 0
              · have HT : Hid (gapText d (a + k) (a + j) = seg d (a + k) (a + j)) := gapText0 HG.out.2.2.2 c0
                have hck : ¬ c = k := by omega
                have hkc : (k : Int) ≤ (j : Int) := by omega
                have hjc : (j : Int) ≤ (c : Int) := by omega
                subst c0
                go_wp2_with (at_builtin; refine wpList_append_own _ rfl _ _ 22 rfl w.heap.size 5 i5 _ 1 1 Try.underlying22 hi hz0 hz1 hz2 rfl (by decide) _ t.length (t.map (Value.int .u8)) rfl HR.out.1 ⟨b, off + k, none⟩ (j - k) (c - k) (List.map (Value.int .u8) (seg d (a + k) (a + j))) rfl (by rw [List.length_map, seg_length]; omega) (HY.out.news k j (by omega)) (ints_one _) (by unfold maxLen; omega) (by omega) HZ.out ?_; intro v' w1 hown1 hgrow1 hnil1)
                have HM : Hid (Own w1 w.heap.size v' (t ++ gapText d (a + k) (a + j)) ∧ Below w.heap.size w w1) := ⟨by rw [HT.out]; exact Own.of_append (by rw [seg_length]; omega) hown1, HR.out.2.2.grown hgrow1 HZ.out (fun j hj => (HR.out.1.lt j hj).1)⟩
                clear hown1 hgrow1 hnil1
                go_wp2
                go_roundw
                case rel => exact ⟨j, _, rfl, HM.out.1, HJ.out.2, HM.out.2⟩
                case measure => simp [intOf]; omega
              by_cases c1 : cn = 1
              · have HT : Hid (gapText d (a + k) (a + j) = [32]) := gapText1 HG.out.2.2.2 c1
                subst c1
                go_wp2_with (at_builtin; refine wpList_append_own _ rfl _ _ 22 rfl w.heap.size 5 i5 _ 1 1 Try.underlying22 hi hz0 hz1 hz2 rfl (by decide) _ t.length (t.map (Value.int .u8)) rfl (World.ownsRow.alloc HR.out.1 _) ⟨wr.heap.size, 0, none⟩ 1 1 (List.map (Value.int .u8) [32]) rfl rfl (cell_one_new _ _ _) (ints_one _) (by unfold maxLen; omega) (by omega) (by have := HZ.out; simp; omega) ?_; intro v' w1 hown1 hgrow1 hnil1)
                have HM : Hid (Own w1 w.heap.size v' (t ++ gapText d (a + k) (a + j)) ∧ Below w.heap.size w w1) := ⟨by rw [HT.out]; exact Own.of_append rfl hown1, (HR.out.2.2.alloc HZ.out _).grown hgrow1 (by have := HZ.out; simp; omega) (fun j hj => (HR.out.1.lt j hj).1)⟩
                clear hown1 hgrow1 hnil1
                go_wp2
                go_roundw
                case rel => exact ⟨j, _, rfl, HM.out.1, HJ.out.2, HM.out.2⟩
                case measure => simp [intOf]; omega
              · have HT : Hid (gapText d (a + k) (a + j) = List.replicate (cn - 1) 10) := gapText2 HG.out.2.2.2 (by omega)
                have n0 : ((cn : Int) == 0) = false := beq_eq_false_iff_ne.2 (by omega)
                have n1 : ((cn : Int) == 1) = false := beq_eq_false_iff_ne.2 (by omega)
                have HC : Hid (Calls Try.prog 22 #[u3, .int .i64 ((cn : Int) - 1)] wr fun e w' => ∃ v', e = .returned v' ∧ Own w' w.heap.size v' (t ++ List.replicate (cn - 1) 10) ∧ Below w.heap.size wr w') := by
                  have := newlines_any w.heap.size u3 t (cn - 1) wr HZ.out (by omega) HR.out.1
                  rw [show ((cn - 1 : Nat) : Int) = (cn : Int) - 1 by omega] at this
                  exact this
                go_wp2_with fail
                refine HC.out.mono ?_
                rintro e w1 ⟨v', rfl, hown1, hbel1⟩
                have HM : Hid (Own w1 w.heap.size v' (t ++ gapText d (a + k) (a + j)) ∧ Below w.heap.size w w1) := ⟨by rw [HT.out]; exact hown1, HR.out.2.2.trans hbel1⟩
                clear hown1 hbel1
                go_wp2
                go_roundw
                case rel => exact ⟨j, _, rfl, HM.out.1, HJ.out.2, HM.out.2⟩
                case measure => simp [intOf]; omega
            · have HX : Hid (j < m → ¬ Blank (d (a + j))) := fun h => absurd h hjm
              have HJ : Hid (k < j ∧ SP d a m j (t ++ gapText d (a + k) (a + j))) := HR.out.2.1.gap hlt hbl HG.out HX.out
              have hkj : k < j := HJ.out.1
              have hcn : cn ≤ j - k := by have h1 := HG.out.2.2.2; have h2 := nl_len d (a + k) (a + j) (by omega); omega
              clear HX
              by_cases c0 : cn = 0
              · have HT : Hid (gapText d (a + k) (a + j) = seg d (a + k) (a + j)) := gapText0 HG.out.2.2.2 c0
                have hck : ¬ c = k := by omega
                have hkc : (k : Int) ≤ (j : Int) := by omega
                have hjc : (j : Int) ≤ (c : Int) := by omega
                subst c0
                go_wp2_with (at_builtin; refine wpList_append_own _ rfl _ _ 22 rfl w.heap.size 5 i5 _ 1 1 Try.underlying22 hi hz0 hz1 hz2 rfl (by decide) _ t.length (t.map (Value.int .u8)) rfl HR.out.1 ⟨b, off + k, none⟩ (j - k) (c - k) (List.map (Value.int .u8) (seg d (a + k) (a + j))) rfl (by rw [List.length_map, seg_length]; omega) (HY.out.news k j (by omega)) (ints_one _) (by unfold maxLen; omega) (by omega) HZ.out ?_; intro v' w1 hown1 hgrow1 hnil1)
                have HM : Hid (Own w1 w.heap.size v' (t ++ gapText d (a + k) (a + j)) ∧ Below w.heap.size w w1) := ⟨by rw [HT.out]; exact Own.of_append (by rw [seg_length]; omega) hown1, HR.out.2.2.grown hgrow1 HZ.out (fun j hj => (HR.out.1.lt j hj).1)⟩
                clear hown1 hgrow1 hnil1
                go_wp2
                go_roundw
                case rel => exact ⟨j, _, rfl, HM.out.1, HJ.out.2, HM.out.2⟩
                case measure => simp [intOf]; omega
              by_cases c1 : cn = 1
              · have HT : Hid (gapText d (a + k) (a + j) = [32]) := gapText1 HG.out.2.2.2 c1
                subst c1
                go_wp2_with (at_builtin; refine wpList_append_own _ rfl _ _ 22 rfl w.heap.size 5 i5 _ 1 1 Try.underlying22 hi hz0 hz1 hz2 rfl (by decide) _ t.length (t.map (Value.int .u8)) rfl (World.ownsRow.alloc HR.out.1 _) ⟨wr.heap.size, 0, none⟩ 1 1 (List.map (Value.int .u8) [32]) rfl rfl (cell_one_new _ _ _) (ints_one _) (by unfold maxLen; omega) (by omega) (by have := HZ.out; simp; omega) ?_; intro v' w1 hown1 hgrow1 hnil1)
                have HM : Hid (Own w1 w.heap.size v' (t ++ gapText d (a + k) (a + j)) ∧ Below w.heap.size w w1) := ⟨by rw [HT.out]; exact Own.of_append rfl hown1, (HR.out.2.2.alloc HZ.out _).grown hgrow1 (by have := HZ.out; simp; omega) (fun j hj => (HR.out.1.lt j hj).1)⟩
                clear hown1 hgrow1 hnil1
                go_wp2
                go_roundw
                case rel => exact ⟨j, _, rfl, HM.out.1, HJ.out.2, HM.out.2⟩
                case measure => simp [intOf]; omega
              · have HT : Hid (gapText d (a + k) (a + j) = List.replicate (cn - 1) 10) := gapText2 HG.out.2.2.2 (by omega)
                have n0 : ((cn : Int) == 0) = false := beq_eq_false_iff_ne.2 (by omega)
                have n1 : ((cn : Int) == 1) = false := beq_eq_false_iff_ne.2 (by omega)
                have HC : Hid (Calls Try.prog 22 #[u3, .int .i64 ((cn : Int) - 1)] wr fun e w' => ∃ v', e = .returned v' ∧ Own w' w.heap.size v' (t ++ List.replicate (cn - 1) 10) ∧ Below w.heap.size wr w') := by
                  have := newlines_any w.heap.size u3 t (cn - 1) wr HZ.out (by omega) HR.out.1
                  rw [show ((cn - 1 : Nat) : Int) = (cn : Int) - 1 by omega] at this
                  exact this
                go_wp2_with fail
                refine HC.out.mono ?_
                rintro e w1 ⟨v', rfl, hown1, hbel1⟩
                have HM : Hid (Own w1 w.heap.size v' (t ++ gapText d (a + k) (a + j)) ∧ Below w.heap.size w w1) := ⟨by rw [HT.out]; exact hown1, HR.out.2.2.trans hbel1⟩
                clear hown1 hbel1
                go_wp2
                go_roundw
                case rel => exact ⟨j, _, rfl, HM.out.1, HJ.out.2, HM.out.2⟩
                case measure => simp [intOf]; omega
      · have h32 : ¬ d (a + k) = 32 := fun e => hbl (.inl e)
        have h10 : ¬ d (a + k) = 10 := fun e => hbl (.inr e)
        have e32 : (d (a + k) == 32) = false := beq_eq_false_iff_ne.2 h32
        have e10 : (d (a + k) == 10) = false := beq_eq_false_iff_ne.2 h10
        have HN : Hid (SP d a m (k + 1) (t ++ [d (a + k)])) := HR.out.2.1.one hlt hbl
        have n32 : (d (a + k) != 32) = true := by simp [bne, e32]
        have n10 : (d (a + k) != 10) = true := by simp [bne, e10]
        clear hbl
        go_wp2_with (at_builtin; refine wpList_append_own _ rfl _ _ 22 rfl w.heap.size 5 i5 _ 1 1 Try.underlying22 hi hz0 hz1 hz2 rfl (by decide) _ t.length (t.map (Value.int .u8)) rfl (World.ownsRow.alloc HR.out.1 _) ⟨wr.heap.size, 0, none⟩ 1 1 (List.map (Value.int .u8) [d (a + k)]) rfl rfl (cell_one_new _ _ _) (ints_one _) (by unfold maxLen; omega) (by omega) (by have := HZ.out; simp; omega) ?_; intro v' w1 hown1 hgrow1 hnil1)
        have HM : Hid (Own w1 w.heap.size v' (t ++ [d (a + k)]) ∧ Below w.heap.size w w1) := ⟨Own.of_append rfl hown1, (HR.out.2.2.alloc HZ.out _).grown hgrow1 (by have := HZ.out; simp; omega) (fun j hj => (HR.out.1.lt j hj).1)⟩
        clear hown1 hgrow1 hnil1
        go_roundw
        case rel => exact ⟨k + 1, _, by go_num, HM.out.1, HN.out, HM.out.2⟩
        case measure => simp [intOf]; omega
    · obtain rfl : k = m := by omega
      go_wp2
      go_ret
      refine ⟨_, rfl, ?_, HR.out.2.2⟩
      have := HR.out.2.1.2.2
      rw [fs_end, List.append_nil] at this
      rw [← this]
      exact HR.out.1

end Go.Proofs.Qxb6602571a
