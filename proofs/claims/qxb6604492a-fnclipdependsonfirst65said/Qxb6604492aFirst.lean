import Derived.Test.Qxb6604492aExact
namespace Go.Proofs.Qxb6604492a
open Go.RowKit

theorem zz9_any (s t : ByteArray) (w : World) (_hs : s.size + t.size ≤ 1048576) : Calls Try.prog 9 #[.string s, .string t] w fun e w' => e = .returned (.bool true) ∧ w' = w := by
  go_enter Try.func9, Try.ntmps9
  go_wp2
  go_ret
  exact ⟨rfl, rfl⟩
theorem zz9_no (s t : ByteArray) (w : World) (_hs : ¬ s.size + t.size ≤ 1048576) (_h1 : s.size ≤ maxLen) (_h2 : t.size ≤ maxLen) : Calls Try.prog 9 #[.string s, .string t] w fun e w' => e = .returned (.bool false) ∧ w' = w := by
  unfold maxLen at *
  by_cases a : s.size ≤ 1048576
  · by_cases b : t.size ≤ 1048576
    all_goals
      go_enter Try.func9, Try.ntmps9
      go_wp2
      go_ret
      exact ⟨rfl, rfl⟩
  · go_enter Try.func9, Try.ntmps9
    go_wp2
    go_ret
    exact ⟨rfl, rfl⟩

/-- A clipped text clips to itself. -/
theorem clip_clip (s : ByteArray) : clip (clip s) = clip s := by
  by_cases h : posAt s 64 < s.size
  · rw [clip_long h]
    have hp : (s.extract 0 (posAt s 64)).size = posAt s 64 := by simp; omega
    obtain ⟨p, hpp⟩ : ∃ p, s.extract 0 (posAt s 64) = p := ⟨_, rfl⟩
    rw [hpp] at hp ⊢
    have hk := kept_count (s := s) (p := p) hp.symm (by rw [hp]; exact hpp) (by omega)
    have e : posAt (p ++ dots) 64 = p.size := by
      rw [posAt_dots p dots (by decide) (by decide) (.inr (by decide)) (.inr (by decide)) 64 hk.2 64 (Nat.le_refl _)]
      exact hk.1
    have hl : posAt (p ++ dots) 64 < (p ++ dots).size := by rw [e]; simp [dots_size]
    rw [clip_long hl, e, cut_text]
  · rw [clip_short h, clip_short h]

theorem clip_size (s : ByteArray) : (clip s).size ≤ s.size + 3 := by
  by_cases h : posAt s 64 < s.size
  · rw [clip_long h]; simp [dots_size]; omega
  · rw [clip_short h]; omega

/-- Where a character begins at the joint, the two texts have the same characters ahead of it. -/
theorem joint {s t : ByteArray} {j : Nat} (h : posAt (s ++ t) j = s.size) : ∀ k, k ≤ j → posAt s k = posAt (s ++ t) k := by
  have e := posAt_prefix (s ++ t) j s.size h
  have e2 : (s ++ t).extract 0 s.size = s := ByteArray.extract_append_eq_left rfl
  rw [e2] at e
  exact e

theorem joint_ge {s t : ByteArray} {j n : Nat} (h : posAt (s ++ t) j = s.size) (hn : ∀ k, k < n → posAt s k < s.size) : n ≤ j := by
  by_cases hc : n ≤ j
  · exact hc
  · have h1 := hn j (by omega)
    rw [joint h j (Nat.le_refl _), h] at h1
    omega

/-- 65 characters or more: what follows changes nothing. -/
theorem clip_more {s t : ByteArray} {j n : Nat} (h : posAt (s ++ t) j = s.size) (hn : ∀ k, k < n → posAt s k < s.size) (h65 : 65 ≤ n) : clip (s ++ t) = clip s := by
  have hj := joint_ge h hn
  have e := joint h 64 (by omega)
  have h1 := hn 64 (by omega)
  have h2 : posAt (s ++ t) 64 < (s ++ t).size := by rw [← e]; simp; omega
  rw [clip_long h1, clip_long h2, ← e]
  congr 1
  rw [ByteArray.extract_append]
  simp [show posAt s 64 - s.size = 0 by omega]

/-- 64 characters: three dots once anything follows. -/
theorem clip_64 {s t : ByteArray} {j : Nat} (h : posAt (s ++ t) j = s.size) (hn : ∀ k, k < 64 → posAt s k < s.size) (h64 : posAt s 64 = s.size) (ht : 0 < t.size) : clip (s ++ t) = s ++ dots := by
  have hj := joint_ge h hn
  have e := joint h 64 hj
  have h2 : posAt (s ++ t) 64 < (s ++ t).size := by rw [← e, h64]; simp; omega
  rw [clip_long h2, ← e, h64]
  congr 1
  exact ByteArray.extract_append_eq_left rfl

/-- The two ways in which Clip is met again: it gives the text back. -/
theorem clip_again (x : ByteArray) (hx : clip x = x) (w : World) (hs : x.size ≤ 2000000) : Calls Try.prog 6 #[.string x] w fun e w' => e = .returned (.string x) ∧ Below w.heap.size w w' := by
  have := clip_any x w hs
  rw [hx] at this
  exact this

set_option maxHeartbeats 1000000 in
theorem first_walk (s t : ByteArray) (w : World) (h1 : s.size ≤ maxLen) (h2 : t.size ≤ maxLen) : Calls Try.prog 4 #[.string s, .string t] w fun e w' => e = .returned (.bool true) ∧ Below w.heap.size w w' := by
  by_cases hs : s.size + t.size ≤ 1048576
  · clear h1 h2
    go_enter Try.func4, Try.ntmps4
    go_wp2_with fail
    refine (zz9_any s t _ hs).mono ?_
    rintro e w' ⟨rfl, hww⟩
    obtain rfl := hww.symm
    go_wp2_with fail
    have ssz : (s ++ t).size = s.size + t.size := by simp
    refine (starts_any (s ++ t) s.size _ (by omega) (by omega)).mono ?_
    rintro e w1 ⟨⟨b, rfl, hT⟩, hb1⟩
    have B1 : Hid (Below w.heap.size w w1) := hb1
    clear hb1
    cases b with
    | false =>
      clear hT ssz
      go_wp2
      go_ret
      exact ⟨rfl, B1.out⟩
    | true =>
    obtain ⟨j, hj⟩ := hT.1 rfl
    have HJ : Hid (posAt (s ++ t) j = s.size) := hj
    clear hT hj
    go_wp2_with fail
    refine (count_any s _ (by omega)).mono ?_
    rintro e w2 ⟨n, rfl, hn, hc, hb2⟩
    have B2 : Hid (Below w.heap.size w w2) := bnext B1.out hb2
    have C2 : Hid (posAt s n = s.size ∧ ∀ k, k < n → posAt s k < s.size) := hc
    clear hb2 hc B1
    go_wp2_with fail
    refine (clip_any s _ (by omega)).mono ?_
    rintro e w3 ⟨rfl, hb3⟩
    have B3 : Hid (Below w.heap.size w w3) := bnext B2.out hb3
    clear hb3 B2
    go_wp2_with fail
    refine (clip_any (s ++ t) _ (by omega)).mono ?_
    rintro e w4 ⟨rfl, hb4⟩
    have B4 : Hid (Below w.heap.size w w4) := bnext B3.out hb4
    have HW : Hid (clip (clip (s ++ t)) = clip (s ++ t)) := clip_clip _
    have hz := clip_size (s ++ t)
    clear hb4 B3
    by_cases n65 : 65 ≤ n
    · rw [clip_more HJ.out C2.out.2 n65] at HW hz ⊢
      generalize clip s = cs at *
      clear C2 HJ
      go_wp2_with fail
      refine (clip_again cs HW.out _ (by omega)).mono ?_
      rintro e w5 ⟨rfl, hb5⟩
      have B5 : Hid (Below w.heap.size w w5) := bnext B4.out hb5
      clear hb5
      go_wp2
      go_ret
      exact ⟨rfl, B5.out⟩
    · have hcs : clip s = s := clip_short (by have := posAt_mono s (show n ≤ 64 by omega); have := C2.out.1; omega)
      rw [hcs]
      clear hcs
      by_cases n64 : n = 64
      · subst n64
        by_cases ht : 0 < t.size
        · have hq : ((clip (s ++ t)).toList == (s ++ ⟨#[46, 46, 46]⟩ : ByteArray).toList) = true := by
            rw [clip_64 HJ.out C2.out.2 C2.out.1 ht]
            exact beq_self_eq_true _
          generalize clip (s ++ t) = wh at *
          clear HJ C2
          go_wp2_with fail
          refine (clip_again wh HW.out _ (by omega)).mono ?_
          rintro e w5 ⟨rfl, hb5⟩
          have B5 : Hid (Below w.heap.size w w5) := bnext B4.out hb5
          clear hb5
          go_wp2
          go_ret
          exact ⟨rfl, B5.out⟩
        · have e : s ++ t = s := by
            obtain rfl : t = ByteArray.empty := ByteArray.size_eq_zero_iff.1 (by omega)
            simp
          have hcs : clip s = s := clip_short (by have := C2.out.1; omega)
          rw [e, hcs] at HW hz ⊢
          clear e HJ C2 hcs ssz hz
          go_wp2_with fail
          refine (clip_again s HW.out _ (by omega)).mono ?_
          rintro e w5 ⟨rfl, hb5⟩
          have B5 : Hid (Below w.heap.size w w5) := bnext B4.out hb5
          clear hb5
          go_wp2
          go_ret
          exact ⟨rfl, B5.out⟩
      · generalize clip (s ++ t) = wh at *
        have hq : ((n : Int) == 64) = false := by simp; omega
        clear HJ C2
        go_wp2_with fail
        refine (clip_again wh HW.out _ (by omega)).mono ?_
        rintro e w5 ⟨rfl, hb5⟩
        have B5 : Hid (Below w.heap.size w w5) := bnext B4.out hb5
        clear hb5
        go_wp2
        go_ret
        exact ⟨rfl, B5.out⟩
  · go_enter Try.func4, Try.ntmps4
    go_wp2_with fail
    refine (zz9_no s t _ hs h1 h2).mono ?_
    rintro e w' ⟨rfl, hww⟩
    obtain rfl := hww.symm
    go_wp2
    go_ret
    exact ⟨rfl, Below.refl _ _⟩

end Go.Proofs.Qxb6604492a
