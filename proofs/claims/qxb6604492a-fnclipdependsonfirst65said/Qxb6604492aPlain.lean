import Derived.Lib.RuneCount
namespace Go.Proofs.Qxb6604492a

/-- The model's decoding of one character, over four bytes and whether each of the last three is there and continues. -/
def dec (b0 b1 b2 b3 : Nat) (c1 c2 c3 : Bool) : Nat × Nat :=
  if b0 < 0x80 then (b0, 1)
  else if b0 / 32 == 6 && c1 then
    if (b0 % 32) * 64 + b1 % 64 ≥ 0x80 then ((b0 % 32) * 64 + b1 % 64, 2) else (Utf8.runeError, 1)
  else if b0 / 16 == 14 && c1 && c2 then
    if (b0 % 16) * 4096 + (b1 % 64) * 64 + b2 % 64 ≥ 0x800 && Utf8.valid ((b0 % 16) * 4096 + (b1 % 64) * 64 + b2 % 64) then ((b0 % 16) * 4096 + (b1 % 64) * 64 + b2 % 64, 3) else (Utf8.runeError, 1)
  else if b0 / 8 == 30 && c1 && c2 && c3 then
    if (b0 % 8) * 262144 + (b1 % 64) * 4096 + (b2 % 64) * 64 + b3 % 64 ≥ 0x10000 && Utf8.valid ((b0 % 8) * 262144 + (b1 % 64) * 4096 + (b2 % 64) * 64 + b3 % 64) then ((b0 % 8) * 262144 + (b1 % 64) * 4096 + (b2 % 64) * 64 + b3 % 64, 4) else (Utf8.runeError, 1)
  else (Utf8.runeError, 1)

def byt (s : ByteArray) (i : Nat) : Nat := (s.get! i).toNat
def con (s : ByteArray) (i : Nat) : Bool := decide (i < s.size) && byt s i / 64 == 2

theorem decode_eq (s : ByteArray) (i : Nat) : Utf8.decode s i = dec (byt s i) (byt s (i + 1)) (byt s (i + 2)) (byt s (i + 3)) (con s (i + 1)) (con s (i + 2)) (con s (i + 3)) := rfl

/-- The width is 1, or each byte that it takes in is there and continues. -/
theorem dec_width (b0 b1 b2 b3 : Nat) (c1 c2 c3 : Bool) :
    (dec b0 b1 b2 b3 c1 c2 c3).2 = 1 ∨ ((dec b0 b1 b2 b3 c1 c2 c3).2 = 2 ∧ c1 = true) ∨ ((dec b0 b1 b2 b3 c1 c2 c3).2 = 3 ∧ c1 = true ∧ c2 = true) ∨ ((dec b0 b1 b2 b3 c1 c2 c3).2 = 4 ∧ c1 = true ∧ c2 = true ∧ c3 = true) := by
  unfold dec
  repeat' split
  all_goals simp_all

/-- Two readings that agree on the bytes of the one's width have the same width, where what continues in the second continues in the first. -/
theorem dec_same (b0 b1 b2 b3 d1 d2 d3 : Nat) (c1 c2 c3 e1 e2 e3 : Bool) (h1 : e1 = true → c1 = true ∧ d1 = b1) (h2 : e2 = true → c2 = true ∧ d2 = b2) (h3 : e3 = true → c3 = true ∧ d3 = b3)
    (k1 : 1 < (dec b0 b1 b2 b3 c1 c2 c3).2 → e1 = true) (k2 : 2 < (dec b0 b1 b2 b3 c1 c2 c3).2 → e2 = true) (k3 : 3 < (dec b0 b1 b2 b3 c1 c2 c3).2 → e3 = true) :
    (dec b0 d1 d2 d3 e1 e2 e3).2 = (dec b0 b1 b2 b3 c1 c2 c3).2 := by
  by_cases h0 : b0 < 0x80
  · simp [dec, h0]
  by_cases l2 : b0 / 32 = 6
  · have n3 : ¬ b0 / 16 = 14 := by omega
    have n4 : ¬ b0 / 8 = 30 := by omega
    simp only [dec, h0, l2, n3, n4, if_false, beq_self_eq_true, Bool.true_and, beq_eq_false_iff_ne.2 n3, beq_eq_false_iff_ne.2 n4, Bool.false_and, Bool.false_eq_true] at *
    cases e1
    · cases c1 <;> simp at *
      split <;> simp_all
    · obtain ⟨rfl, rfl⟩ := h1 rfl
      rfl
  by_cases l3 : b0 / 16 = 14
  · have n4 : ¬ b0 / 8 = 30 := by omega
    simp only [dec, h0, l3, if_false, beq_self_eq_true, Bool.true_and, beq_eq_false_iff_ne.2 l2, beq_eq_false_iff_ne.2 n4, Bool.false_and, Bool.false_eq_true] at *
    cases e1
    · cases c1 <;> cases c2 <;> simp at *
      split <;> simp_all
    · obtain ⟨rfl, rfl⟩ := h1 rfl
      cases e2
      · cases c2 <;> simp at *
        split <;> simp_all
      · obtain ⟨rfl, rfl⟩ := h2 rfl
        rfl
  by_cases l4 : b0 / 8 = 30
  · simp only [dec, h0, l4, if_false, beq_self_eq_true, Bool.true_and, beq_eq_false_iff_ne.2 l2, beq_eq_false_iff_ne.2 l3, Bool.false_and, Bool.false_eq_true] at *
    cases e1
    · cases c1 <;> cases c2 <;> cases c3 <;> simp at *
      split <;> simp_all
    · obtain ⟨rfl, rfl⟩ := h1 rfl
      cases e2
      · cases c2 <;> cases c3 <;> simp at *
        split <;> simp_all
      · obtain ⟨rfl, rfl⟩ := h2 rfl
        cases e3
        · cases c3 <;> simp at *
          split <;> simp_all
        · obtain ⟨rfl, rfl⟩ := h3 rfl
          rfl
  · simp [dec, h0, l2, l3, l4]

theorem get_eq (s : ByteArray) (j : Nat) (h : j < s.size) : s.get! j = s[j]'h := by
  simp [ByteArray.get!, getElem!_pos, h]
  rfl

theorem byt_extract (s : ByteArray) (i j : Nat) (hj : j < i) (hi : i ≤ s.size) : byt (s.extract 0 i) j = byt s j := by
  unfold byt
  have h1 : j < (s.extract 0 i).size := by simp; omega
  rw [get_eq _ j h1, get_eq s j (by omega)]
  simp [ByteArray.getElem_extract]

theorem byt_append_left (a b : ByteArray) (j : Nat) (hj : j < a.size) : byt (a ++ b) j = byt a j := by
  unfold byt
  have h1 : j < (a ++ b).size := by simp; omega
  rw [get_eq _ j h1, get_eq a j hj, ByteArray.getElem_append_left hj]

theorem byt_append_right (a b : ByteArray) (j : Nat) (hj : j < b.size) : byt (a ++ b) (a.size + j) = byt b j := by
  unfold byt
  have h1 : a.size + j < (a ++ b).size := by simp; omega
  rw [get_eq _ _ h1, get_eq b j hj, ByteArray.getElem_append_right (by omega)]
  congr 1
  simp

theorem con_extract (s : ByteArray) (i j : Nat) (hi : i ≤ s.size) : con (s.extract 0 i) j = (decide (j < i) && con s j) := by
  unfold con
  have hs : (s.extract 0 i).size = i := by simp; omega
  rw [hs]
  by_cases hj : j < i
  · rw [byt_extract s i j hj hi]
    simp [hj, show j < s.size by omega]
  · simp [hj]

/-- Where the character that stands at p ends. -/
def nxt (s : ByteArray) (p : Nat) : Nat := if p < s.size then p + (Utf8.decode s p).2 else p
/-- Where the k-th character begins, or the end. -/
def posAt (s : ByteArray) : Nat → Nat
  | 0 => 0
  | k + 1 => nxt s (posAt s k)

theorem width_pos (s : ByteArray) (p : Nat) : 1 ≤ (Utf8.decode s p).2 := by
  rw [decode_eq]
  rcases dec_width (byt s p) (byt s (p + 1)) (byt s (p + 2)) (byt s (p + 3)) (con s (p + 1)) (con s (p + 2)) (con s (p + 3)) with h | ⟨h, _⟩ | ⟨h, _⟩ | ⟨h, _⟩ <;> omega

theorem con_lt {s : ByteArray} {i : Nat} (h : con s i = true) : i < s.size := by
  unfold con at h
  simp at h
  exact h.1

theorem width_le (s : ByteArray) (p : Nat) (hp : p < s.size) : p + (Utf8.decode s p).2 ≤ s.size := by
  rw [decode_eq]
  rcases dec_width (byt s p) (byt s (p + 1)) (byt s (p + 2)) (byt s (p + 3)) (con s (p + 1)) (con s (p + 2)) (con s (p + 3)) with h | ⟨h, h1⟩ | ⟨h, h1, h2⟩ | ⟨h, h1, h2, h3⟩
  · omega
  · have := con_lt h1; omega
  · have := con_lt h2; omega
  · have := con_lt h3; omega

theorem nxt_le (s : ByteArray) (p : Nat) (hp : p ≤ s.size) : nxt s p ≤ s.size := by
  unfold nxt
  split
  · exact width_le s p (by assumption)
  · exact hp
theorem nxt_gt (s : ByteArray) (p : Nat) (hp : p < s.size) : p < nxt s p := by
  have := width_pos s p
  simp [nxt, hp]
  omega
theorem posAt_le (s : ByteArray) (k : Nat) : posAt s k ≤ s.size := by
  induction k with
  | zero => exact Nat.zero_le _
  | succ k ih => exact nxt_le s _ ih
theorem posAt_step (s : ByteArray) (k : Nat) (h : posAt s k < s.size) : posAt s k < posAt s (k + 1) := nxt_gt s _ h
theorem posAt_stay (s : ByteArray) (k : Nat) (h : ¬ posAt s k < s.size) : posAt s (k + 1) = posAt s k := by simp [posAt, nxt, h]
theorem posAt_mono (s : ByteArray) {j k : Nat} (h : j ≤ k) : posAt s j ≤ posAt s k := by
  induction k with
  | zero => obtain rfl : j = 0 := by omega
            exact Nat.le_refl _
  | succ k ih =>
    by_cases e : j = k + 1
    · subst e; exact Nat.le_refl _
    · have h1 := ih (by omega)
      by_cases hk : posAt s k < s.size
      · have := posAt_step s k hk; omega
      · rw [posAt_stay s k hk]; exact h1
theorem posAt_strict (s : ByteArray) {j k : Nat} (h : j < k) (hj : posAt s j < s.size) : posAt s j < posAt s k :=
  Nat.lt_of_lt_of_le (posAt_step s j hj) (posAt_mono s h)
theorem posAt_ge (s : ByteArray) (k : Nat) (h : posAt s k < s.size) : k ≤ posAt s k := by
  induction k with
  | zero => exact Nat.zero_le _
  | succ k ih =>
    have h1 : posAt s k < s.size := Nat.lt_of_le_of_lt (posAt_mono s (Nat.le_succ k)) h
    have := ih h1
    have := posAt_step s k h1
    omega
theorem posAt_end (s : ByteArray) {j k : Nat} (h : j ≤ k) (hj : ¬ posAt s j < s.size) : posAt s k = s.size := by
  have h1 := posAt_mono s h
  have h2 := posAt_le s k
  omega

/-- A prefix that ends where the n-th character begins has the same characters up to there. -/
theorem width_prefix (s : ByteArray) (i p : Nat) (hi : i ≤ s.size) (hp : p < i) (h : p + (Utf8.decode s p).2 ≤ i) : (Utf8.decode (s.extract 0 i) p).2 = (Utf8.decode s p).2 := by
  rw [decode_eq s p] at h ⊢
  rw [decode_eq, byt_extract s i p hp hi]
  apply dec_same
  · rw [con_extract s i _ hi]; intro hh; simp at hh; exact ⟨hh.2, byt_extract s i _ hh.1 hi⟩
  · rw [con_extract s i _ hi]; intro hh; simp at hh; exact ⟨hh.2, byt_extract s i _ hh.1 hi⟩
  · rw [con_extract s i _ hi]; intro hh; simp at hh; exact ⟨hh.2, byt_extract s i _ hh.1 hi⟩
  all_goals
    intro hh
    rw [con_extract s i _ hi]
    rcases dec_width (byt s p) (byt s (p + 1)) (byt s (p + 2)) (byt s (p + 3)) (con s (p + 1)) (con s (p + 2)) (con s (p + 3)) with h' | ⟨h', h1⟩ | ⟨h', h1, h2⟩ | ⟨h', h1, h2, h3⟩ <;> (rw [h'] at hh h; first | omega | (simp only [*, Bool.and_true, decide_eq_true_eq]; omega))

theorem posAt_prefix (s : ByteArray) (n i : Nat) (hi : posAt s n = i) : ∀ k, k ≤ n → posAt (s.extract 0 i) k = posAt s k := by
  have hle : i ≤ s.size := by rw [← hi]; exact posAt_le s n
  have hs : (s.extract 0 i).size = i := by simp; omega
  intro k
  induction k with
  | zero => intro _; rfl
  | succ k ih =>
    intro hk
    have e := ih (by omega)
    show nxt (s.extract 0 i) (posAt (s.extract 0 i) k) = nxt s (posAt s k)
    rw [e]
    have hm : posAt s (k + 1) ≤ i := by rw [← hi]; exact posAt_mono s hk
    by_cases hp : posAt s k < i
    · have hp' : posAt s k < s.size := by omega
      have hm' : posAt s k + (Utf8.decode s (posAt s k)).2 ≤ i := by simpa [posAt, nxt, hp'] using hm
      simp only [nxt, hs, hp, hp', if_true]
      rw [width_prefix s i _ hle hp hm']
    · have h1 : posAt s k = i := by
        have := posAt_mono s (show k ≤ k + 1 by omega)
        omega
      have h2 : ¬ posAt s k < (s.extract 0 i).size := by rw [hs]; omega
      by_cases hp' : posAt s k < s.size
      · have := posAt_step s k hp'; omega
      · rw [nxt, if_neg h2, nxt, if_neg hp']

/-- Three dots behind a text: its own characters stay. -/
theorem width_dots (p t : ByteArray) (q : Nat) (hq : q < p.size) (ht : 0 < t.size) (h0 : byt t 0 / 64 ≠ 2) (h1 : t.size ≤ 1 ∨ byt t 1 / 64 ≠ 2) (h2 : t.size ≤ 2 ∨ byt t 2 / 64 ≠ 2) : (Utf8.decode (p ++ t) q).2 = (Utf8.decode p q).2 := by
  have hs : (p ++ t).size = p.size + t.size := by simp
  have key : ∀ j, j < p.size + 3 → con (p ++ t) j = con p j := by
    intro j hj
    by_cases hp : j < p.size
    · unfold con
      rw [byt_append_left p t j hp, hs]
      simp [hp, show j < p.size + t.size by omega]
    · have e2 : con p j = false := by simp [con, hp]
      rw [e2]
      unfold con
      by_cases hj' : j < (p ++ t).size
      · obtain ⟨m, rfl⟩ : ∃ m, j = p.size + m := ⟨j - p.size, by omega⟩
        rw [byt_append_right p t m (by omega)]
        have : byt t m / 64 ≠ 2 := by
          match m, hj with
          | 0, _ => exact h0
          | 1, _ => exact h1.resolve_left (by omega)
          | 2, _ => exact h2.resolve_left (by omega)
          | m + 3, hj => omega
        simp [this]
      · rw [decide_eq_false hj', Bool.false_and]
  rw [decode_eq, decode_eq, byt_append_left p t q hq, key (q + 1) (by omega), key (q + 2) (by omega), key (q + 3) (by omega)]
  apply dec_same
  · intro hh; exact ⟨hh, byt_append_left p t _ (con_lt hh)⟩
  · intro hh; exact ⟨hh, byt_append_left p t _ (con_lt hh)⟩
  · intro hh; exact ⟨hh, byt_append_left p t _ (con_lt hh)⟩
  all_goals
    intro hh
    rcases dec_width (byt p q) (byt p (q + 1)) (byt p (q + 2)) (byt p (q + 3)) (con p (q + 1)) (con p (q + 2)) (con p (q + 3)) with h' | ⟨h', h1⟩ | ⟨h', h1, h2⟩ | ⟨h', h1, h2, h3⟩ <;> (rw [h'] at hh; first | omega | assumption)

theorem posAt_dots (p t : ByteArray) (ht : 0 < t.size) (h0 : byt t 0 / 64 ≠ 2) (h1 : t.size ≤ 1 ∨ byt t 1 / 64 ≠ 2) (h2 : t.size ≤ 2 ∨ byt t 2 / 64 ≠ 2) (n : Nat) (hn : ∀ k, k < n → posAt p k < p.size) : ∀ k, k ≤ n → posAt (p ++ t) k = posAt p k := by
  have hs : (p ++ t).size = p.size + t.size := by simp
  intro k
  induction k with
  | zero => intro _; rfl
  | succ k ih =>
    intro hk
    have e := ih (by omega)
    have hp := hn k (by omega)
    show nxt (p ++ t) (posAt (p ++ t) k) = nxt p (posAt p k)
    rw [e]
    simp only [nxt, hs, show posAt p k < p.size + t.size by omega, hp, if_true]
    rw [width_dots p t _ hp ht h0 h1 h2]

end Go.Proofs.Qxb6604492a
