import Derived.Test.Qxb6602571aRows
namespace Go.Proofs.Qxb6602571a
set_option linter.unusedVariables false

/-- A space or a line break. -/
def Blank (c : Int) : Prop := c = 32 ∨ c = 10

def flowI (c : Int) : Bool := c == 44 || (c == 63 || (c == 91 || (c == 93 || (c == 123 || c == 125))))
def boe (c : Int) : Bool := c == 32 || c == 10 || c == 0

/-- The plain scalar stops at i < n. -/
def stopAt (d : Nat → Int) (n : Nat) (fl : Bool) (i : Nat) : Bool := (d i == 58 && (decide (i + 1 = n) || boe (d (i + 1)))) || (fl && flowI (d i))

def gapF (d : Nat → Int) (n : Nat) : Nat → Nat → Nat
  | 0, p => p
  | k + 1, p => if p < n ∧ (d p = 32 ∨ d p = 10) then gapF d n k (p + 1) else p
def gapEnd (d : Nat → Int) (n p : Nat) : Nat := gapF d n (n - p) p

theorem gap_go (d : Nat → Int) (n p : Nat) (h : p < n) (hb : Blank (d p)) : gapEnd d n p = gapEnd d n (p + 1) := by
  unfold gapEnd
  rw [show n - p = (n - (p + 1)) + 1 by omega]
  exact if_pos ⟨h, hb⟩

theorem gap_stay (d : Nat → Int) (n p : Nat) (h : ¬ (p < n ∧ Blank (d p))) : gapEnd d n p = p := by
  unfold gapEnd
  cases e : n - p with
  | zero => rfl
  | succ k => exact if_neg h

def wordF (d : Nat → Int) (n : Nat) (fl : Bool) : Nat → Nat → Nat
  | 0, p => p
  | k + 1, p => if p < n ∧ ¬ (d p = 32 ∨ d p = 10) ∧ stopAt d n fl p = false then wordF d n fl k (p + 1) else p
def wordEnd (d : Nat → Int) (n : Nat) (fl : Bool) (p : Nat) : Nat := wordF d n fl (n - p) p

theorem gap_uniq (d : Nat → Int) (n p g : Nat) (h1 : p ≤ g) (h2 : g ≤ n) (h3 : ∀ i, p ≤ i → i < g → Blank (d i)) (h4 : g < n → ¬ Blank (d g)) : gapEnd d n p = g := by
  obtain ⟨k, hk⟩ : ∃ k, k = g - p := ⟨_, rfl⟩
  induction k generalizing p with
  | zero =>
    obtain rfl : p = g := by omega
    exact gap_stay d n p (fun e => h4 e.1 e.2)
  | succ k ih =>
    rw [gap_go d n p (by omega) (h3 p (Nat.le_refl _) (by omega))]
    exact ih (p + 1) (by omega) (fun i a b => h3 i (by omega) b) (by omega)

theorem gap_spec (d : Nat → Int) (n p : Nat) (h : p ≤ n) : p ≤ gapEnd d n p ∧ gapEnd d n p ≤ n ∧ (∀ i, p ≤ i → i < gapEnd d n p → Blank (d i)) ∧ (gapEnd d n p < n → ¬ Blank (d (gapEnd d n p))) := by
  obtain ⟨k, hk⟩ : ∃ k, k = n - p := ⟨_, rfl⟩
  induction k generalizing p with
  | zero =>
    rw [gap_stay d n p (by omega)]
    exact ⟨Nat.le_refl _, h, fun i h1 h2 => by omega, fun a => by omega⟩
  | succ k ih =>
    by_cases e : p < n ∧ Blank (d p)
    · rw [gap_go d n p e.1 e.2]
      obtain ⟨a, b, c, f⟩ := ih (p + 1) (by omega) (by omega)
      refine ⟨by omega, b, fun i h1 h2 => ?_, f⟩
      by_cases hi : i = p
      · rw [hi]; exact e.2
      · exact c i (by omega) h2
    · rw [gap_stay d n p e]
      exact ⟨Nat.le_refl _, h, fun i h1 h2 => by omega, fun a b => e ⟨a, b⟩⟩

theorem word_go (d : Nat → Int) (n : Nat) (fl : Bool) (p : Nat) (h : p < n) (h1 : ¬ Blank (d p)) (h2 : stopAt d n fl p = false) : wordEnd d n fl p = wordEnd d n fl (p + 1) := by
  unfold wordEnd
  rw [show n - p = (n - (p + 1)) + 1 by omega]
  exact if_pos ⟨h, h1, h2⟩

theorem word_stay (d : Nat → Int) (n : Nat) (fl : Bool) (p : Nat) (h : ¬ (p < n ∧ ¬ Blank (d p) ∧ stopAt d n fl p = false)) : wordEnd d n fl p = p := by
  unfold wordEnd
  cases e : n - p with
  | zero => rfl
  | succ k => exact if_neg h

theorem word_uniq (d : Nat → Int) (n : Nat) (fl : Bool) (p g : Nat) (h1 : p ≤ g) (h2 : g ≤ n) (h3 : ∀ i, p ≤ i → i < g → ¬ Blank (d i) ∧ stopAt d n fl i = false) (h4 : g < n → Blank (d g) ∨ stopAt d n fl g = true) : wordEnd d n fl p = g := by
  obtain ⟨k, hk⟩ : ∃ k, k = g - p := ⟨_, rfl⟩
  induction k generalizing p with
  | zero =>
    obtain rfl : p = g := by omega
    refine word_stay d n fl p ?_
    rintro ⟨a, b, c⟩
    rcases h4 a with h | h
    · exact b h
    · rw [h] at c; cases c
  | succ k ih =>
    have h5 := h3 p (Nat.le_refl _) (by omega)
    rw [word_go d n fl p (by omega) h5.1 h5.2]
    exact ih (p + 1) (by omega) (fun i a b => h3 i (by omega) b) (by omega)

theorem word_spec (d : Nat → Int) (n : Nat) (fl : Bool) (p : Nat) (h : p ≤ n) : p ≤ wordEnd d n fl p ∧ wordEnd d n fl p ≤ n ∧ (∀ i, p ≤ i → i < wordEnd d n fl p → ¬ Blank (d i) ∧ stopAt d n fl i = false) ∧ (wordEnd d n fl p < n → Blank (d (wordEnd d n fl p)) ∨ stopAt d n fl (wordEnd d n fl p) = true) := by
  obtain ⟨k, hk⟩ : ∃ k, k = n - p := ⟨_, rfl⟩
  induction k generalizing p with
  | zero =>
    rw [word_stay d n fl p (by omega)]
    exact ⟨Nat.le_refl _, h, fun i h1 h2 => by omega, fun a => by omega⟩
  | succ k ih =>
    by_cases e : p < n ∧ ¬ Blank (d p) ∧ stopAt d n fl p = false
    · rw [word_go d n fl p e.1 e.2.1 e.2.2]
      obtain ⟨a, b, c, f⟩ := ih (p + 1) (by omega) (by omega)
      refine ⟨by omega, b, fun i h1 h2 => ?_, f⟩
      by_cases hi : i = p
      · rw [hi]; exact e.2
      · exact c i (by omega) h2
    · rw [word_stay d n fl p e]
      refine ⟨Nat.le_refl _, h, fun i h1 h2 => by omega, fun a => ?_⟩
      by_cases hb : Blank (d p)
      · exact .inl hb
      · refine .inr ?_
        cases hs : stopAt d n fl p
        · exact absurd ⟨a, hb, hs⟩ e
        · rfl

/-- How many line breaks lie in [p, g). -/
def nl (d : Nat → Int) (p : Nat) : Nat → Nat
  | 0 => 0
  | g + 1 => if p ≤ g then nl d p g + (if d g = 10 then 1 else 0) else 0

/-- Where the line of g starts, if l is where the line of p starts. -/
def ln (d : Nat → Int) (l : Int) (p : Nat) : Nat → Int
  | 0 => l
  | g + 1 => if p ≤ g then (if d g = 10 then (g : Int) + 1 else ln d l p g) else l

theorem nl_self (d : Nat → Int) (p : Nat) : nl d p p = 0 := by
  cases p with
  | zero => rfl
  | succ p => unfold nl; rw [if_neg (by omega)]
theorem ln_self (d : Nat → Int) (l : Int) (p : Nat) : ln d l p p = l := by
  cases p with
  | zero => rfl
  | succ p => unfold ln; rw [if_neg (by omega)]
theorem nl_br (d : Nat → Int) (p g : Nat) (h : p ≤ g) (e : d g = 10) : nl d p (g + 1) = nl d p g + 1 := by simp [nl, h, e]
theorem nl_no (d : Nat → Int) (p g : Nat) (h : p ≤ g) (e : ¬ d g = 10) : nl d p (g + 1) = nl d p g := by simp [nl, h, e]
theorem ln_br (d : Nat → Int) (l : Int) (p g : Nat) (h : p ≤ g) (e : d g = 10) : ln d l p (g + 1) = (g : Int) + 1 := by simp [ln, h, e]
theorem ln_no (d : Nat → Int) (l : Int) (p g : Nat) (h : p ≤ g) (e : ¬ d g = 10) : ln d l p (g + 1) = ln d l p g := by simp [ln, h, e]
theorem nl_le (d : Nat → Int) (p g : Nat) : nl d p g ≤ g := by
  induction g with
  | zero => simp [nl]
  | succ g ih =>
    unfold nl
    split
    · split <;> omega
    · omega

theorem nl_run (d : Nat → Int) (p q r : Nat) (h : p ≤ q) (h1 : q ≤ r) (h2 : ∀ i, q ≤ i → i < r → ¬ d i = 10) : nl d p r = nl d p q := by
  induction r with
  | zero => obtain rfl : q = 0 := by omega
            rfl
  | succ r ih =>
    by_cases e : q = r + 1
    · rw [e]
    · rw [nl_no d p r (by omega) (h2 r (by omega) (by omega))]
      exact ih (by omega) (fun i a b => h2 i a (by omega))

theorem ln_run (d : Nat → Int) (l : Int) (p q r : Nat) (h : p ≤ q) (h1 : q ≤ r) (h2 : ∀ i, q ≤ i → i < r → ¬ d i = 10) : ln d l p r = ln d l p q := by
  induction r with
  | zero => obtain rfl : q = 0 := by omega
            rfl
  | succ r ih =>
    by_cases e : q = r + 1
    · rw [e]
    · rw [ln_no d l p r (by omega) (h2 r (by omega) (by omega))]
      exact ih (by omega) (fun i a b => h2 i a (by omega))

theorem ln_cat (d : Nat → Int) (l : Int) (p g r : Nat) (h : p ≤ g) (h1 : g ≤ r) : ln d (ln d l p g) g r = ln d l p r := by
  induction r with
  | zero => obtain rfl : g = 0 := by omega
            rfl
  | succ r ih =>
    by_cases e : g = r + 1
    · rw [e, ln_self]
    · by_cases c : d r = 10
      · rw [ln_br d _ g r (by omega) c, ln_br d l p r (by omega) c]
      · rw [ln_no d _ g r (by omega) c, ln_no d l p r (by omega) c]
        exact ih (by omega)

/-- Where a line break lies between, the line at p does not count. -/
theorem ln_any (d : Nat → Int) (l l' : Int) (p g : Nat) (h : 0 < nl d p g) : ln d l p g = ln d l' p g := by
  induction g with
  | zero => simp [nl] at h
  | succ g ih =>
    unfold nl at h
    unfold ln
    split at h
    · next hp =>
      rw [if_pos hp, if_pos hp]
      split at h
      · next e => rw [if_pos e, if_pos e]
      · next e => rw [if_neg e, if_neg e]; exact ih (by omega)
    · omega

theorem ln_bound (d : Nat → Int) (p g : Nat) : 0 ≤ ln d 0 p g ∧ ln d 0 p g ≤ g := by
  induction g with
  | zero => simp [ln]
  | succ g ih =>
    unfold ln
    split
    · split <;> omega
    · omega

/-- What the gap [p, g) says of the next word. -/
def cont (d : Nat → Int) (n : Nat) (fl : Bool) (par : Int) (p : Nat) : Prop :=
  gapEnd d n p < n ∧ stopAt d n fl (gapEnd d n p) = false ∧ d (gapEnd d n p) ≠ 0 ∧ d (gapEnd d n p) ≠ 35 ∧ ¬ (0 < nl d p (gapEnd d n p) ∧ ((gapEnd d n p : Nat) : Int) - ln d 0 p (gapEnd d n p) ≤ par)

theorem cont_grows {d : Nat → Int} {n : Nat} {fl : Bool} {par : Int} {p : Nat} (h : cont d n fl par p) (hp : p ≤ n) : gapEnd d n p < wordEnd d n fl (gapEnd d n p) := by
  obtain ⟨h1, h2, _⟩ := h
  obtain ⟨a, b, c, f⟩ := gap_spec d n p hp
  rw [word_go d n fl _ h1 (f h1) h2]
  exact (word_spec d n fl (gapEnd d n p + 1) (by omega)).1

/-- The end of the scalar, if its last word so far ended at p; k rounds at most. -/
def extF (d : Nat → Int) (n : Nat) (fl : Bool) (par : Int) : Nat → Nat → Nat
  | 0, p => p
  | k + 1, p => if gapEnd d n p < n ∧ stopAt d n fl (gapEnd d n p) = false ∧ d (gapEnd d n p) ≠ 0 ∧ d (gapEnd d n p) ≠ 35 ∧ ¬ (0 < nl d p (gapEnd d n p) ∧ ((gapEnd d n p : Nat) : Int) - ln d 0 p (gapEnd d n p) ≤ par) then extF d n fl par k (wordEnd d n fl (gapEnd d n p)) else p
def ext (d : Nat → Int) (n : Nat) (fl : Bool) (par : Int) (p : Nat) : Nat := extF d n fl par (n - p) p

theorem extF_go {d : Nat → Int} {n : Nat} {fl : Bool} {par : Int} {p : Nat} (k : Nat) (h : cont d n fl par p) : extF d n fl par (k + 1) p = extF d n fl par k (wordEnd d n fl (gapEnd d n p)) := if_pos h
theorem extF_stay {d : Nat → Int} {n : Nat} {fl : Bool} {par : Int} {p : Nat} (k : Nat) (h : ¬ cont d n fl par p) : extF d n fl par k p = p := by
  cases k with
  | zero => rfl
  | succ k => exact if_neg h

/-- Where a round goes on, it ends further on. -/
theorem cont_next {d : Nat → Int} {n : Nat} {fl : Bool} {par : Int} {p : Nat} (h : cont d n fl par p) (hp : p ≤ n) : p < n ∧ p < wordEnd d n fl (gapEnd d n p) ∧ wordEnd d n fl (gapEnd d n p) ≤ n := by
  have h1 := cont_grows h hp
  have h2 := (gap_spec d n p hp).1
  have h3 := h.1
  have h4 := (word_spec d n fl (gapEnd d n p) (by omega)).2.1
  omega

theorem extF_same {d : Nat → Int} {n : Nat} {fl : Bool} {par : Int} (k : Nat) : ∀ (m p : Nat), p ≤ n → n - p ≤ k → n - p ≤ m → extF d n fl par k p = extF d n fl par m p := by
  induction k with
  | zero =>
    intro m p hp hk hm
    have hc : ¬ cont d n fl par p := fun h => by have := (cont_next h hp).1; omega
    rw [extF_stay 0 hc, extF_stay m hc]
  | succ k ih =>
    intro m p hp hk hm
    by_cases h : cont d n fl par p
    · obtain ⟨h1, h2, h3⟩ := cont_next h hp
      cases m with
      | zero => omega
      | succ m =>
        rw [extF_go k h, extF_go m h]
        exact ih m _ h3 (by omega) (by omega)
    · rw [extF_stay _ h, extF_stay _ h]

theorem ext_go {d : Nat → Int} {n : Nat} {fl : Bool} {par : Int} {p : Nat} (hp : p ≤ n) (h : cont d n fl par p) : ext d n fl par p = ext d n fl par (wordEnd d n fl (gapEnd d n p)) := by
  obtain ⟨h1, h2, h3⟩ := cont_next h hp
  unfold ext
  rw [show n - p = (n - (p + 1)) + 1 by omega, extF_go _ h]
  exact extF_same _ _ _ h3 (by omega) (by omega)

theorem ext_stay {d : Nat → Int} {n : Nat} {fl : Bool} {par : Int} {p : Nat} (h : ¬ cont d n fl par p) : ext d n fl par p = p := extF_stay _ h

theorem ext_spec (d : Nat → Int) (n : Nat) (fl : Bool) (par : Int) (p : Nat) (hp : p ≤ n) : p ≤ ext d n fl par p ∧ ext d n fl par p ≤ n := by
  obtain ⟨k, hk⟩ : ∃ k, n - p ≤ k := ⟨_, Nat.le_refl _⟩
  induction k generalizing p with
  | zero =>
    rw [ext_stay (fun h => by have := (cont_next h hp).1; omega)]
    exact ⟨Nat.le_refl _, hp⟩
  | succ k ih =>
    by_cases h : cont d n fl par p
    · obtain ⟨h1, h2, h3⟩ := cont_next h hp
      rw [ext_go hp h]
      have := ih (wordEnd d n fl (gapEnd d n p)) h3 (by omega)
      omega
    · rw [ext_stay h]
      exact ⟨Nat.le_refl _, hp⟩

/-- The bytes of [p, g). -/
def seg (d : Nat → Int) (p g : Nat) : List Int := (List.range' p (g - p)).map d
theorem seg_self (d : Nat → Int) (p : Nat) : seg d p p = [] := by simp [seg]
theorem seg_length (d : Nat → Int) (p g : Nat) : (seg d p g).length = g - p := by simp [seg]
theorem seg_get (d : Nat → Int) (p g j : Nat) (h : j < g - p) : (seg d p g)[j]? = some (d (p + j)) := by
  simp [seg, h]
theorem seg_cons (d : Nat → Int) (p g : Nat) (h : p < g) : seg d p g = d p :: seg d (p + 1) g := by
  unfold seg
  rw [show g - p = (g - (p + 1)) + 1 by omega, List.range'_succ]
  simp

/-- What the gap [p, g) is folded to. -/
def gapText (d : Nat → Int) (p g : Nat) : List Int :=
  match nl d p g with
  | 0 => seg d p g
  | 1 => [32]
  | k + 2 => List.replicate (k + 1) 10

/-- The span [i, e), folded; k rounds at most. -/
def fsF (d : Nat → Int) (e : Nat) : Nat → Nat → List Int
  | 0, _ => []
  | k + 1, i => if i < e then (if d i = 32 ∨ d i = 10 then gapText d i (gapEnd d e i) ++ fsF d e k (gapEnd d e i) else d i :: fsF d e k (i + 1)) else []
/-- The span [i, e), folded. -/
def fs (d : Nat → Int) (i e : Nat) : List Int := fsF d e (e - i) i

theorem fsF_end (d : Nat → Int) (e k i : Nat) (h : ¬ i < e) : fsF d e k i = [] := by
  cases k with
  | zero => rfl
  | succ k => exact if_neg h
theorem fsF_blank (d : Nat → Int) (e k i : Nat) (h : i < e) (hb : Blank (d i)) : fsF d e (k + 1) i = gapText d i (gapEnd d e i) ++ fsF d e k (gapEnd d e i) := (if_pos h).trans (if_pos hb)
theorem fsF_cons (d : Nat → Int) (e k i : Nat) (h : i < e) (hb : ¬ Blank (d i)) : fsF d e (k + 1) i = d i :: fsF d e k (i + 1) := (if_pos h).trans (if_neg hb)

theorem gap_grows (d : Nat → Int) (e i : Nat) (h : i < e) (hb : Blank (d i)) : i < gapEnd d e i := by
  rw [gap_go d e i h hb]
  have := (gap_spec d e (i + 1) (by omega)).1
  omega

theorem fsF_same (d : Nat → Int) (e k : Nat) : ∀ (m i : Nat), e - i ≤ k → e - i ≤ m → fsF d e k i = fsF d e m i := by
  induction k with
  | zero =>
    intro m i hk hm
    rw [fsF_end d e 0 i (by omega), fsF_end d e m i (by omega)]
  | succ k ih =>
    intro m i hk hm
    by_cases h : i < e
    · cases m with
      | zero => omega
      | succ m =>
        by_cases hb : Blank (d i)
        · have := gap_grows d e i h hb
          rw [fsF_blank d e k i h hb, fsF_blank d e m i h hb, ih m _ (by omega) (by omega)]
        · rw [fsF_cons d e k i h hb, fsF_cons d e m i h hb, ih m _ (by omega) (by omega)]
    · rw [fsF_end d e _ i h, fsF_end d e _ i h]

theorem fs_end (d : Nat → Int) (e : Nat) : fs d e e = [] := fsF_end d e _ e (by omega)
theorem fs_cons (d : Nat → Int) (i e : Nat) (h : i < e) (hb : ¬ Blank (d i)) : fs d i e = d i :: fs d (i + 1) e := by
  unfold fs
  rw [show e - i = (e - (i + 1)) + 1 by omega, fsF_cons d e _ i h hb]
theorem fs_blank (d : Nat → Int) (i e : Nat) (h : i < e) (hb : Blank (d i)) : fs d i e = gapText d i (gapEnd d e i) ++ fs d (gapEnd d e i) e := by
  have := gap_grows d e i h hb
  unfold fs
  rw [show e - i = (e - (i + 1)) + 1 by omega, fsF_blank d e _ i h hb, fsF_same d e (e - (i + 1)) (e - gapEnd d e i) _ (by omega) (by omega)]

theorem fs_word (d : Nat → Int) (g q e : Nat) (h1 : g ≤ q) (h2 : q ≤ e) (h3 : ∀ i, g ≤ i → i < q → ¬ Blank (d i)) : fs d g e = seg d g q ++ fs d q e := by
  obtain ⟨k, hk⟩ : ∃ k, k = q - g := ⟨_, rfl⟩
  induction k generalizing g with
  | zero =>
    obtain rfl : g = q := by omega
    rw [seg_self]; rfl
  | succ k ih =>
    rw [fs_cons d g e (by omega) (h3 g (Nat.le_refl _) (by omega)), seg_cons d g q (by omega), ih (g + 1) (by omega) (fun i a b => h3 i (by omega) b) (by omega)]
    rfl

theorem fs_gap (d : Nat → Int) (n p e : Nat) (hp : p ≤ n) (he : gapEnd d n p ≤ e) (hn : e ≤ n) : fs d p e = gapText d p (gapEnd d n p) ++ fs d (gapEnd d n p) e := by
  obtain ⟨h1, h2, h3, h4⟩ := gap_spec d n p hp
  by_cases h : gapEnd d n p = p
  · rw [h]
    simp [gapText, nl_self, seg_self]
  · have hu : gapEnd d e p = gapEnd d n p := gap_uniq d e p _ h1 he h3 (fun a => h4 (by omega))
    rw [fs_blank d p e (by omega) (h3 p (Nat.le_refl _) (by omega)), hu]

/-- The text of the scalar, round by round: behind the gap and the word that goes on. -/
theorem fs_step {d : Nat → Int} {n : Nat} {fl : Bool} {par : Int} {p : Nat} (hp : p ≤ n) (h : cont d n fl par p) (t T : List Int) (hT : t ++ fs d p (ext d n fl par p) = T) :
    (t ++ (gapText d p (gapEnd d n p) ++ seg d (gapEnd d n p) (wordEnd d n fl (gapEnd d n p)))) ++ fs d (wordEnd d n fl (gapEnd d n p)) (ext d n fl par (wordEnd d n fl (gapEnd d n p))) = T := by
  have h1 := h.1
  have h2 := word_spec d n fl (gapEnd d n p) (by omega)
  have h3 := ext_spec d n fl par (wordEnd d n fl (gapEnd d n p)) h2.2.1
  rw [← hT, ext_go hp h, fs_gap d n p _ hp (by omega) h3.2, fs_word d (gapEnd d n p) (wordEnd d n fl (gapEnd d n p)) _ h2.1 h3.1 (fun i a b => (h2.2.2.1 i a b).1)]
  simp

theorem fs_first {d : Nat → Int} {n : Nat} {fl : Bool} {par : Int} {s : Nat} (hs : s ≤ n) :
    seg d s (wordEnd d n fl s) ++ fs d (wordEnd d n fl s) (ext d n fl par (wordEnd d n fl s)) = fs d s (ext d n fl par (wordEnd d n fl s)) := by
  have h2 := word_spec d n fl s hs
  have h3 := ext_spec d n fl par (wordEnd d n fl s) h2.2.1
  rw [fs_word d s (wordEnd d n fl s) _ h2.1 h3.1 (fun i a b => (h2.2.2.1 i a b).1)]

theorem not_br {d : Nat → Int} {i : Nat} (h : ¬ Blank (d i)) : ¬ d i = 10 := fun e => h (.inr e)

theorem ln_word {d : Nat → Int} {n : Nat} {fl : Bool} (l : Int) {p s : Nat} (hp : p ≤ s) (hs : s ≤ n) : ln d l p (wordEnd d n fl s) = ln d l p s :=
  ln_run d l p s _ hp (word_spec d n fl s hs).1 (fun i a b => not_br ((word_spec d n fl s hs).2.2.1 i a b).1)

end Go.Proofs.Qxb6602571a
