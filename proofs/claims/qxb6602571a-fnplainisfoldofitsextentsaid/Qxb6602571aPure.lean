import Derived.Test.Qxb6602571aRows
namespace Go.Proofs.Qxb6602571a
set_option linter.unusedVariables false

/-- A space or a line break. -/
def Blank (c : Int) : Prop := c = 32 ∨ c = 10
instance (c : Int) : Decidable (Blank c) := by unfold Blank; infer_instance

def flowI (c : Int) : Bool := c == 44 || (c == 63 || (c == 91 || (c == 93 || (c == 123 || c == 125))))
def boe (c : Int) : Bool := c == 32 || c == 10 || c == 0

/-- The plain scalar stops at i < n. -/
def stopAt (d : Nat → Int) (n : Nat) (fl : Bool) (i : Nat) : Bool := (d i == 58 && (decide (i + 1 = n) || boe (d (i + 1)))) || (fl && flowI (d i))

def gapEnd (d : Nat → Int) (n p : Nat) : Nat := if h : p < n ∧ Blank (d p) then gapEnd d n (p + 1) else p
termination_by n - p
decreasing_by omega

def wordEnd (d : Nat → Int) (n : Nat) (fl : Bool) (p : Nat) : Nat := if h : p < n ∧ ¬ Blank (d p) ∧ stopAt d n fl p = false then wordEnd d n fl (p + 1) else p
termination_by n - p
decreasing_by omega

theorem gap_uniq (d : Nat → Int) (n p g : Nat) (h1 : p ≤ g) (h2 : g ≤ n) (h3 : ∀ i, p ≤ i → i < g → Blank (d i)) (h4 : g < n → ¬ Blank (d g)) : gapEnd d n p = g := by
  rw [gapEnd]
  by_cases e : p = g
  · subst e
    rw [dif_neg]
    rintro ⟨a, b⟩
    exact h4 a b
  · rw [dif_pos ⟨by omega, h3 p (Nat.le_refl _) (by omega)⟩]
    exact gap_uniq d n (p + 1) g (by omega) h2 (fun i a b => h3 i (by omega) b) h4
termination_by g - p
decreasing_by omega

theorem gap_spec (d : Nat → Int) (n p : Nat) (h : p ≤ n) : p ≤ gapEnd d n p ∧ gapEnd d n p ≤ n ∧ (∀ i, p ≤ i → i < gapEnd d n p → Blank (d i)) ∧ (gapEnd d n p < n → ¬ Blank (d (gapEnd d n p))) := by
  rw [gapEnd]
  split
  · next e =>
    obtain ⟨a, b, c, f⟩ := gap_spec d n (p + 1) (by omega)
    refine ⟨by omega, b, fun i h1 h2 => ?_, f⟩
    by_cases hi : i = p
    · rw [hi]; exact e.2
    · exact c i (by omega) h2
  · next e => exact ⟨Nat.le_refl _, h, fun i h1 h2 => by omega, fun a b => e ⟨a, b⟩⟩
termination_by n - p
decreasing_by omega

theorem word_uniq (d : Nat → Int) (n : Nat) (fl : Bool) (p g : Nat) (h1 : p ≤ g) (h2 : g ≤ n) (h3 : ∀ i, p ≤ i → i < g → ¬ Blank (d i) ∧ stopAt d n fl i = false) (h4 : g < n → Blank (d g) ∨ stopAt d n fl g = true) : wordEnd d n fl p = g := by
  rw [wordEnd]
  by_cases e : p = g
  · subst e
    rw [dif_neg]
    rintro ⟨a, b, c⟩
    rcases h4 a with h | h
    · exact b h
    · rw [h] at c; cases c
  · rw [dif_pos ⟨by omega, h3 p (Nat.le_refl _) (by omega)⟩]
    exact word_uniq d n fl (p + 1) g (by omega) h2 (fun i a b => h3 i (by omega) b) h4
termination_by g - p
decreasing_by omega

theorem word_spec (d : Nat → Int) (n : Nat) (fl : Bool) (p : Nat) (h : p ≤ n) : p ≤ wordEnd d n fl p ∧ wordEnd d n fl p ≤ n ∧ (∀ i, p ≤ i → i < wordEnd d n fl p → ¬ Blank (d i) ∧ stopAt d n fl i = false) ∧ (wordEnd d n fl p < n → Blank (d (wordEnd d n fl p)) ∨ stopAt d n fl (wordEnd d n fl p) = true) := by
  rw [wordEnd]
  split
  · next e =>
    obtain ⟨a, b, c, f⟩ := word_spec d n fl (p + 1) (by omega)
    refine ⟨by omega, b, fun i h1 h2 => ?_, f⟩
    by_cases hi : i = p
    · rw [hi]; exact e.2
    · exact c i (by omega) h2
  · next e =>
    refine ⟨Nat.le_refl _, h, fun i h1 h2 => by omega, fun a => ?_⟩
    by_cases hb : Blank (d p)
    · exact .inl hb
    · refine .inr ?_
      cases hs : stopAt d n fl p
      · exact absurd ⟨a, hb, hs⟩ e
      · rfl
termination_by n - p
decreasing_by omega

theorem word_go (d : Nat → Int) (n : Nat) (fl : Bool) (p : Nat) (h : p < n) (h1 : ¬ Blank (d p)) (h2 : stopAt d n fl p = false) : wordEnd d n fl p = wordEnd d n fl (p + 1) := by
  rw [wordEnd, dif_pos ⟨h, h1, h2⟩]

theorem word_stay (d : Nat → Int) (n : Nat) (fl : Bool) (p : Nat) (h : ¬ (p < n ∧ ¬ Blank (d p) ∧ stopAt d n fl p = false)) : wordEnd d n fl p = p := by
  rw [wordEnd, dif_neg h]

/-- How many line breaks lie in [p, g). -/
def nl (d : Nat → Int) (p : Nat) : Nat → Nat
  | 0 => 0
  | g + 1 => if p ≤ g then nl d p g + (if d g = 10 then 1 else 0) else 0

/-- Where the line of g starts, if l is where the line of p starts. -/
def ln (d : Nat → Int) (l : Int) (p : Nat) : Nat → Int
  | 0 => l
  | g + 1 => if p ≤ g then (if d g = 10 then (g : Int) + 1 else ln d l p g) else l

theorem nl_self (d : Nat → Int) (p : Nat) : nl d p p = 0 := by
  cases p with
  | zero => rfl
  | succ p => unfold nl; rw [if_neg (by omega)]
theorem ln_self (d : Nat → Int) (l : Int) (p : Nat) : ln d l p p = l := by
  cases p with
  | zero => rfl
  | succ p => unfold ln; rw [if_neg (by omega)]
theorem nl_br (d : Nat → Int) (p g : Nat) (h : p ≤ g) (e : d g = 10) : nl d p (g + 1) = nl d p g + 1 := by simp [nl, h, e]
theorem nl_no (d : Nat → Int) (p g : Nat) (h : p ≤ g) (e : ¬ d g = 10) : nl d p (g + 1) = nl d p g := by simp [nl, h, e]
theorem ln_br (d : Nat → Int) (l : Int) (p g : Nat) (h : p ≤ g) (e : d g = 10) : ln d l p (g + 1) = (g : Int) + 1 := by simp [ln, h, e]
theorem ln_no (d : Nat → Int) (l : Int) (p g : Nat) (h : p ≤ g) (e : ¬ d g = 10) : ln d l p (g + 1) = ln d l p g := by simp [ln, h, e]
theorem nl_le (d : Nat → Int) (p g : Nat) : nl d p g ≤ g := by
  induction g with
  | zero => simp [nl]
  | succ g ih =>
    unfold nl
    split
    · split <;> omega
    · omega

theorem nl_run (d : Nat → Int) (p q r : Nat) (h : p ≤ q) (h1 : q ≤ r) (h2 : ∀ i, q ≤ i → i < r → ¬ d i = 10) : nl d p r = nl d p q := by
  induction r with
  | zero => obtain rfl : q = 0 := by omega
            rfl
  | succ r ih =>
    by_cases e : q = r + 1
    · rw [e]
    · rw [nl_no d p r (by omega) (h2 r (by omega) (by omega))]
      exact ih (by omega) (fun i a b => h2 i a (by omega))

theorem ln_run (d : Nat → Int) (l : Int) (p q r : Nat) (h : p ≤ q) (h1 : q ≤ r) (h2 : ∀ i, q ≤ i → i < r → ¬ d i = 10) : ln d l p r = ln d l p q := by
  induction r with
  | zero => obtain rfl : q = 0 := by omega
            rfl
  | succ r ih =>
    by_cases e : q = r + 1
    · rw [e]
    · rw [ln_no d l p r (by omega) (h2 r (by omega) (by omega))]
      exact ih (by omega) (fun i a b => h2 i a (by omega))

theorem ln_cat (d : Nat → Int) (l : Int) (p g r : Nat) (h : p ≤ g) (h1 : g ≤ r) : ln d (ln d l p g) g r = ln d l p r := by
  induction r with
  | zero => obtain rfl : g = 0 := by omega
            rfl
  | succ r ih =>
    by_cases e : g = r + 1
    · rw [e, ln_self]
    · by_cases c : d r = 10
      · rw [ln_br d _ g r (by omega) c, ln_br d l p r (by omega) c]
      · rw [ln_no d _ g r (by omega) c, ln_no d l p r (by omega) c]
        exact ih (by omega)

/-- Where a line break lies between, the line at p does not count. -/
theorem ln_any (d : Nat → Int) (l l' : Int) (p g : Nat) (h : 0 < nl d p g) : ln d l p g = ln d l' p g := by
  induction g with
  | zero => simp [nl] at h
  | succ g ih =>
    unfold nl at h
    unfold ln
    split at h
    · next hp =>
      rw [if_pos hp, if_pos hp]
      split at h
      · next e => rw [if_pos e, if_pos e]
      · next e => rw [if_neg e, if_neg e]; exact ih (by omega)
    · omega

theorem ln_bound (d : Nat → Int) (p g : Nat) : 0 ≤ ln d 0 p g ∧ ln d 0 p g ≤ g := by
  induction g with
  | zero => simp [ln]
  | succ g ih =>
    unfold ln
    split
    · split <;> omega
    · omega

/-- What the gap [p, g) says of the next word. -/
def cont (d : Nat → Int) (n : Nat) (fl : Bool) (par : Int) (p : Nat) : Prop :=
  gapEnd d n p < n ∧ stopAt d n fl (gapEnd d n p) = false ∧ d (gapEnd d n p) ≠ 0 ∧ d (gapEnd d n p) ≠ 35 ∧ ¬ (0 < nl d p (gapEnd d n p) ∧ ((gapEnd d n p : Nat) : Int) - ln d 0 p (gapEnd d n p) ≤ par)
instance (d : Nat → Int) (n : Nat) (fl : Bool) (par : Int) (p : Nat) : Decidable (cont d n fl par p) := by unfold cont; infer_instance

theorem cont_grows {d : Nat → Int} {n : Nat} {fl : Bool} {par : Int} {p : Nat} (h : cont d n fl par p) (hp : p ≤ n) : gapEnd d n p < wordEnd d n fl (gapEnd d n p) := by
  obtain ⟨h1, h2, _⟩ := h
  obtain ⟨a, b, c, f⟩ := gap_spec d n p hp
  rw [word_go d n fl _ h1 (f h1) h2]
  exact (word_spec d n fl (gapEnd d n p + 1) (by omega)).1

/-- The end of the scalar, if its last word so far ended at p. -/
def ext (d : Nat → Int) (n : Nat) (fl : Bool) (par : Int) (p : Nat) : Nat :=
  if h : p ≤ n ∧ cont d n fl par p then ext d n fl par (wordEnd d n fl (gapEnd d n p)) else p
termination_by n - p
decreasing_by
  have h1 := cont_grows h.2 h.1
  have h2 := (gap_spec d n p h.1).1
  have h3 := h.2.1
  omega

theorem ext_go {d : Nat → Int} {n : Nat} {fl : Bool} {par : Int} {p : Nat} (hp : p ≤ n) (h : cont d n fl par p) : ext d n fl par p = ext d n fl par (wordEnd d n fl (gapEnd d n p)) := by
  rw [ext, dif_pos ⟨hp, h⟩]

theorem ext_stay {d : Nat → Int} {n : Nat} {fl : Bool} {par : Int} {p : Nat} (h : ¬ cont d n fl par p) : ext d n fl par p = p := by
  rw [ext, dif_neg (fun e => h e.2)]

theorem ext_spec (d : Nat → Int) (n : Nat) (fl : Bool) (par : Int) (p : Nat) (hp : p ≤ n) : p ≤ ext d n fl par p ∧ ext d n fl par p ≤ n := by
  by_cases h : cont d n fl par p
  · rw [ext_go hp h]
    have h1 := cont_grows h hp
    have h2 := (gap_spec d n p hp).1
    have h3 := h.1
    have h4 := (word_spec d n fl (gapEnd d n p) (by omega)).2.1
    have := ext_spec d n fl par (wordEnd d n fl (gapEnd d n p)) h4
    omega
  · rw [ext_stay h]
    exact ⟨Nat.le_refl _, hp⟩
termination_by n - p
decreasing_by
  have h1 := cont_grows h hp
  have h2 := (gap_spec d n p hp).1
  have h3 := h.1
  omega

/-- The bytes of [p, g). -/
def seg (d : Nat → Int) (p g : Nat) : List Int := (List.range' p (g - p)).map d
theorem seg_self (d : Nat → Int) (p : Nat) : seg d p p = [] := by simp [seg]
theorem seg_length (d : Nat → Int) (p g : Nat) : (seg d p g).length = g - p := by simp [seg]
theorem seg_get (d : Nat → Int) (p g j : Nat) (h : j < g - p) : (seg d p g)[j]? = some (d (p + j)) := by
  simp [seg, h]
theorem seg_cons (d : Nat → Int) (p g : Nat) (h : p < g) : seg d p g = d p :: seg d (p + 1) g := by
  unfold seg
  rw [show g - p = (g - (p + 1)) + 1 by omega, List.range'_succ]
  simp

/-- What the gap [p, g) is folded to. -/
def gapText (d : Nat → Int) (p g : Nat) : List Int :=
  match nl d p g with
  | 0 => seg d p g
  | 1 => [32]
  | k + 2 => List.replicate (k + 1) 10

/-- The span [i, e), folded. -/
def fs (d : Nat → Int) (i e : Nat) : List Int :=
  if h : i < e then (if hb : Blank (d i) then gapText d i (gapEnd d e i) ++ fs d (gapEnd d e i) e else d i :: fs d (i + 1) e) else []
termination_by e - i
decreasing_by
  · have h1 : gapEnd d e i = gapEnd d e (i + 1) := by rw [gapEnd, dif_pos ⟨h, hb⟩]
    have := (gap_spec d e (i + 1) (by omega)).1
    omega
  · omega

theorem fs_end (d : Nat → Int) (e : Nat) : fs d e e = [] := by rw [fs, dif_neg (by omega)]
theorem fs_cons (d : Nat → Int) (i e : Nat) (h : i < e) (hb : ¬ Blank (d i)) : fs d i e = d i :: fs d (i + 1) e := by rw [fs, dif_pos h, dif_neg hb]
theorem fs_blank (d : Nat → Int) (i e : Nat) (h : i < e) (hb : Blank (d i)) : fs d i e = gapText d i (gapEnd d e i) ++ fs d (gapEnd d e i) e := by rw [fs, dif_pos h, dif_pos hb]

theorem fs_word (d : Nat → Int) (g q e : Nat) (h1 : g ≤ q) (h2 : q ≤ e) (h3 : ∀ i, g ≤ i → i < q → ¬ Blank (d i)) : fs d g e = seg d g q ++ fs d q e := by
  by_cases h : g = q
  · rw [h, seg_self]; rfl
  · rw [fs_cons d g e (by omega) (h3 g (Nat.le_refl _) (by omega)), seg_cons d g q (by omega), fs_word d (g + 1) q e (by omega) h2 (fun i a b => h3 i (by omega) b)]
    rfl
termination_by q - g
decreasing_by omega

theorem fs_gap (d : Nat → Int) (n p e : Nat) (hp : p ≤ n) (he : gapEnd d n p ≤ e) (hn : e ≤ n) : fs d p e = gapText d p (gapEnd d n p) ++ fs d (gapEnd d n p) e := by
  obtain ⟨h1, h2, h3, h4⟩ := gap_spec d n p hp
  by_cases h : gapEnd d n p = p
  · rw [h]
    simp [gapText, nl_self, seg_self]
  · have hu : gapEnd d e p = gapEnd d n p := gap_uniq d e p _ h1 he h3 (fun a => h4 (by omega))
    rw [fs_blank d p e (by omega) (h3 p (Nat.le_refl _) (by omega)), hu]

/-- The text of the scalar, round by round: behind the gap and the word that goes on. -/
theorem fs_step {d : Nat → Int} {n : Nat} {fl : Bool} {par : Int} {p : Nat} (hp : p ≤ n) (h : cont d n fl par p) (t T : List Int) (hT : t ++ fs d p (ext d n fl par p) = T) :
    (t ++ (gapText d p (gapEnd d n p) ++ seg d (gapEnd d n p) (wordEnd d n fl (gapEnd d n p)))) ++ fs d (wordEnd d n fl (gapEnd d n p)) (ext d n fl par (wordEnd d n fl (gapEnd d n p))) = T := by
  have h1 := h.1
  have h2 := word_spec d n fl (gapEnd d n p) (by omega)
  have h3 := ext_spec d n fl par (wordEnd d n fl (gapEnd d n p)) h2.2.1
  rw [← hT, ext_go hp h, fs_gap d n p _ hp (by omega) h3.2, fs_word d (gapEnd d n p) (wordEnd d n fl (gapEnd d n p)) _ h2.1 h3.1 (fun i a b => (h2.2.2.1 i a b).1)]
  simp

theorem fs_first {d : Nat → Int} {n : Nat} {fl : Bool} {par : Int} {s : Nat} (hs : s ≤ n) :
    seg d s (wordEnd d n fl s) ++ fs d (wordEnd d n fl s) (ext d n fl par (wordEnd d n fl s)) = fs d s (ext d n fl par (wordEnd d n fl s)) := by
  have h2 := word_spec d n fl s hs
  have h3 := ext_spec d n fl par (wordEnd d n fl s) h2.2.1
  rw [fs_word d s (wordEnd d n fl s) _ h2.1 h3.1 (fun i a b => (h2.2.2.1 i a b).1)]

theorem not_br {d : Nat → Int} {i : Nat} (h : ¬ Blank (d i)) : ¬ d i = 10 := fun e => h (.inr e)

theorem ln_word {d : Nat → Int} {n : Nat} {fl : Bool} (l : Int) {p s : Nat} (hp : p ≤ s) (hs : s ≤ n) : ln d l p (wordEnd d n fl s) = ln d l p s :=
  ln_run d l p s _ hp (word_spec d n fl s hs).1 (fun i a b => not_br ((word_spec d n fl s hs).2.2.1 i a b).1)

end Go.Proofs.Qxb6602571a
