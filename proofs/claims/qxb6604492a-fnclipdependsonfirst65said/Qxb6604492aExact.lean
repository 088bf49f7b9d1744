import Derived.Test.Qxb6604492aClip
namespace Go.Proofs.Qxb6604492a
open Go.RowKit

theorem bnext {a b c : World} (h : Below a.heap.size a b) (k : Below b.heap.size b c) : Below a.heap.size a c := h.trans (k.mono h.size)

theorem zz5_any (s : ByteArray) (w : World) (_hs : s.size ≤ 1048576) : Calls Try.prog 5 #[.string s] w fun e w' => e = .returned (.bool true) ∧ w' = w := by
  go_enter Try.func5, Try.ntmps5
  go_wp2
  go_ret
  exact ⟨rfl, rfl⟩
theorem zz5_no (s : ByteArray) (w : World) (_hs : ¬ s.size ≤ 1048576) : Calls Try.prog 5 #[.string s] w fun e w' => e = .returned (.bool false) ∧ w' = w := by
  go_enter Try.func5, Try.ntmps5
  go_wp2
  go_ret
  exact ⟨rfl, rfl⟩

/-- The three dots. -/
def dots : ByteArray := ⟨#[46, 46, 46]⟩
theorem dots_size : dots.size = 3 := rfl
theorem clip_short {s : ByteArray} (h : ¬ posAt s 64 < s.size) : clip s = s := by rw [clip, if_neg h]
theorem clip_long {s : ByteArray} (h : posAt s 64 < s.size) : clip s = s.extract 0 (posAt s 64) ++ dots := by rw [clip, if_pos h]; rfl

theorem dots_list : dots.toList = [46, 46, 46] := by kernel_rfl
theorem cut_dots (p : ByteArray) : ((p ++ dots).extract p.size (p.size + 3)).toList = [46, 46, 46] := by
  have : (p ++ dots).extract p.size (p.size + 3) = dots := by
    have h := ByteArray.extract_append_eq_right (a := p) (b := dots) (i := p.size) (j := p.size + 3) rfl (by simp [dots_size])
    exact h
  rw [this]
  exact dots_list
theorem cut_text (p : ByteArray) : (p ++ dots).extract 0 p.size = p := ByteArray.extract_append_eq_left rfl

theorem count_unique {s : ByteArray} {a b : Nat} (ha : posAt s a = s.size) (ha' : ∀ k, k < a → posAt s k < s.size) (hb : posAt s b = s.size) (hb' : ∀ k, k < b → posAt s k < s.size) : a = b := by
  rcases Nat.lt_trichotomy a b with h | h | h
  · have := hb' a h; omega
  · exact h
  · have := ha' b h; omega

/-- The text that is kept of a long one has 64 characters. -/
theorem kept_count {s p : ByteArray} (hI : posAt s 64 = p.size) (hP : s.extract 0 p.size = p) (hp : p.size < s.size) : posAt p 64 = p.size ∧ ∀ k, k < 64 → posAt p k < p.size := by
  have e := posAt_prefix s 64 p.size hI
  rw [hP] at e
  refine ⟨by rw [e 64 (Nat.le_refl _)]; exact hI, fun k hk => ?_⟩
  rw [e k (by omega)]
  have h1 : posAt s k < s.size := by have := posAt_mono s (show k ≤ 64 by omega); omega
  have := posAt_strict s hk h1
  omega

set_option maxHeartbeats 400000 in
theorem exact_walk (s : ByteArray) (w : World) : Calls Try.prog 3 #[.string s] w fun e w' => e = .returned (.bool true) ∧ Below w.heap.size w w' := by
  by_cases hs : s.size ≤ 1048576
  · go_enter Try.func3, Try.ntmps3
    go_wp2_with fail
    refine (zz5_any s _ hs).mono ?_
    rintro e w' ⟨rfl, hww⟩
    obtain rfl := hww.symm
    go_wp2_with fail
    refine (clip_any s _ (by omega)).mono ?_
    rintro e w1 ⟨rfl, hb1⟩
    have B1 : Hid (Below w.heap.size w w1) := hb1
    clear hb1
    go_wp2_with fail
    refine (count_any s _ (by omega)).mono ?_
    rintro e w2 ⟨n, rfl, hn, hc, hb2⟩
    have B2 : Hid (Below w.heap.size w w2) := bnext B1.out hb2
    have C2 : Hid (posAt s n = s.size ∧ ∀ k, k < n → posAt s k < s.size) := hc
    clear hb2 hc B1
    by_cases h64 : n ≤ 64
    · have hp : ¬ posAt s 64 < s.size := by have := posAt_mono s h64; have := C2.out.1; omega
      rw [clip_short hp]
      clear hp
      go_wp2
      go_ret
      exact ⟨rfl, B2.out⟩
    · have hp : posAt s 64 < s.size := C2.out.2 64 (by omega)
      rw [clip_long hp]
      obtain ⟨i, hi⟩ : ∃ i, posAt s 64 = i := ⟨_, rfl⟩
      have HI : Hid (posAt s 64 = i) := hi
      rw [hi] at hp ⊢
      clear hi
      obtain ⟨p, hpp⟩ : ∃ p, s.extract 0 i = p := ⟨_, rfl⟩
      have HP : Hid (s.extract 0 i = p) := hpp
      have psz : p.size = i := by rw [← hpp]; simp; omega
      rw [hpp]
      clear hpp
      subst psz
      obtain ⟨o, ho⟩ : ∃ o, p ++ dots = o := ⟨_, rfl⟩
      have osz : o.size = p.size + 3 := by rw [← ho]; simp [dots_size]
      have o1 : (o.extract p.size (p.size + 3)).toList = [46, 46, 46] := by rw [← ho]; exact cut_dots p
      have o2 : o.extract 0 p.size = p := by rw [← ho]; exact cut_text p
      have o3 : s.extract 0 p.size = p := HP.out
      rw [ho]
      clear ho
      go_wp2_with fail
      refine (count_any p _ (by omega)).mono ?_
      rintro e w3 ⟨m, rfl, hm, hc3, hb3⟩
      have B3 : Hid (Below w.heap.size w w3) := bnext B2.out hb3
      have hm64 : m = 64 := by
        have hk := kept_count HI.out HP.out hp
        exact count_unique hc3.1 hc3.2 hk.1 hk.2
      subst hm64
      clear hb3 hc3 hm
      go_wp2_with fail
      refine (starts_any s p.size _ (by omega) (by omega)).mono ?_
      rintro e w4 ⟨⟨b, rfl, hT⟩, hb4⟩
      have B4 : Hid (Below w.heap.size w w4) := bnext B3.out hb4
      obtain rfl : b = true := hT.2 ⟨64, HI.out⟩
      clear hT hb4
      go_wp2
      go_ret
      exact ⟨rfl, B4.out⟩
  · go_enter Try.func3, Try.ntmps3
    go_wp2_with fail
    refine (zz5_no s _ hs).mono ?_
    rintro e w' ⟨rfl, hww⟩
    obtain rfl := hww.symm
    go_wp2
    go_ret
    exact ⟨rfl, Below.refl _ _⟩

end Go.Proofs.Qxb6604492a
