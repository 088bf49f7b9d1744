import Derived.Test.Qxb6604492aDoorAdd
namespace Go.Proofs.Qxb6604492aDoor
open Go.RowKit
attribute [local go_sem ↓] Go.wp_at_zero Go.wp_at_succ

/-! ### The plain table of first appearances -/
/-- Steps a and b say the same text under the same check. -/
def same (ck : Nat → Int) (tx : Nat → ByteArray) (a b : Nat) : Prop := tx a = tx b ∧ ck a = ck b
/-- The law's own list 'firsts' after k steps. -/
def firsts (ck : Nat → Int) (tx : Nat → ByteArray) : Nat → List Nat
  | 0 => []
  | k + 1 => if (∃ j ∈ firsts ck tx k, tx j = tx k ∧ ck j = ck k) ∨ 1025 ≤ (firsts ck tx k).length then firsts ck tx k else firsts ck tx k ++ [k]

theorem firsts_keep {ck : Nat → Int} {tx : Nat → ByteArray} {k : Nat} (h : (∃ j ∈ firsts ck tx k, same ck tx j k) ∨ 1025 ≤ (firsts ck tx k).length) : firsts ck tx (k + 1) = firsts ck tx k := if_pos h
theorem firsts_add {ck : Nat → Int} {tx : Nat → ByteArray} {k : Nat} (h : ¬ ((∃ j ∈ firsts ck tx k, same ck tx j k) ∨ 1025 ≤ (firsts ck tx k).length)) : firsts ck tx (k + 1) = firsts ck tx k ++ [k] := if_neg h

/-- The lengths of the first k texts. -/
def tots (tx : Nat → ByteArray) : Nat → Nat
  | 0 => 0
  | k + 1 => tots tx k + (tx k).size

theorem tots_mono (tx : Nat → ByteArray) {j k : Nat} (h : j ≤ k) : tots tx j ≤ tots tx k := by
  induction k with
  | zero => obtain rfl : j = 0 := by omega
            exact Nat.le_refl _
  | succ k ih =>
    by_cases e : j = k + 1
    · rw [e]; exact Nat.le_refl _
    · exact Nat.le_trans (ih (by omega)) (Nat.le_add_right _ _)

/-- What k steps have left. -/
structure Ran (of : Nat → Int) (ck : Nat → Int) (tx : Nat → ByteArray) (k : Nat) (g : G) : Prop where
  np : g.np = k
  off : ∀ i, i < k → g.of i = of i
  idx : ∀ i, i < k → g.ix i < g.m ∧ g.tx (g.ix i) = tx i ∧ g.ck (g.ix i) = ck i
  le : g.m ≤ k
  kc : g.kc = min g.m 1024
  nb : g.nb ≤ g.m
  last : g.last < g.m + 1
  br : ∀ i, i < g.m → g.br i = brk (g.tx i)
  fl : (firsts ck tx k).length = min g.m 1025
  fs : ∀ (j s : Nat), (firsts ck tx k)[j]? = some s → s < k ∧ tx s = g.tx j ∧ ck s = g.ck j

theorem Ran.step {of ck : Nat → Int} {tx : Nat → ByteArray} {k j : Nat} {g g' : G} (h : Ran of ck tx k g) (a : Added g g' (of k) (tx k) (ck k) j) : Ran of ck tx (k + 1) g' := by
  have hnp := h.np
  have hoff : ∀ i, i < k + 1 → g'.of i = of i := by
    intro i hi
    rw [a.of, hnp]
    by_cases e : i = k
    · subst e; rw [upd_same]
    · rw [upd_ne _ _ e]; exact h.off i (by omega)
  rcases a.how with ⟨m, tx', ck', br, kc, nb, h1, h2, h3⟩ | ⟨h1, h2, m, tx', ck', br, kc, nb⟩
  · refine ⟨by rw [a.np, hnp], hoff, fun i hi => ?_, by rw [m]; have := h.le; omega, by rw [kc, m]; exact h.kc, by rw [nb, m]; exact h.nb, by rw [a.last, m]; omega, fun i hi => ?_, ?_, ?_⟩
    · rw [a.ix, hnp, m, tx', ck']
      by_cases e : i = k
      · subst e; rw [upd_same]; exact ⟨h1, h2, h3⟩
      · rw [upd_ne _ _ e]; exact h.idx i (by omega)
    · rw [br, tx']; rw [m] at hi; exact h.br i hi
    all_goals
      have hF : firsts ck tx (k + 1) = firsts ck tx k := by
        refine firsts_keep ?_
        by_cases hj : j < 1025
        · left
          have hlt : j < (firsts ck tx k).length := by rw [h.fl]; omega
          have hg := h.fs j _ (List.getElem?_eq_getElem hlt)
          exact ⟨_, List.getElem_mem hlt, by rw [hg.2.1, h2], by rw [hg.2.2, h3]⟩
        · right
          rw [h.fl]
          omega
      rw [hF]
    · rw [m]; exact h.fl
    · intro j' s hs
      rw [tx', ck']
      have := h.fs j' s hs
      exact ⟨by omega, this.2⟩
  · have hsame : ∀ i, i < g.m → upd g.tx g.m (tx k) i = g.tx i ∧ upd g.ck g.m (ck k) i = g.ck i := fun i hi => ⟨upd_ne _ _ (by omega), upd_ne _ _ (by omega)⟩
    refine ⟨by rw [a.np, hnp], hoff, fun i hi => ?_, by rw [m]; have := h.le; omega, ?_, by rw [m]; have := h.nb; omega, by rw [a.last, m]; omega, fun i hi => ?_, ?_, ?_⟩
    · rw [a.ix, hnp, m, tx', ck']
      by_cases e : i = k
      · subst e; rw [upd_same, h2, upd_same, upd_same]; exact ⟨by omega, rfl, rfl⟩
      · rw [upd_ne _ _ e]
        obtain ⟨i1, i2, i3⟩ := h.idx i (by omega)
        rw [(hsame _ i1).1, (hsame _ i1).2]
        exact ⟨by omega, i2, i3⟩
    · rw [kc, m]
      have := h.kc
      split <;> omega
    · rw [br, tx']
      rw [m] at hi
      by_cases e : i = g.m
      · subst e; rw [upd_same, upd_same]
      · rw [upd_ne _ _ e, upd_ne _ _ e]; exact h.br i (by omega)
    all_goals
      by_cases hm : g.m ≤ 1024
    · have hF : firsts ck tx (k + 1) = firsts ck tx k ++ [k] := by
        refine firsts_add ?_
        rintro (⟨s, hs, e1, e2⟩ | hl)
        · obtain ⟨j', hj'⟩ := List.getElem?_of_mem hs
          have hlt : j' < (firsts ck tx k).length := (List.getElem?_eq_some_iff.1 hj').1
          have hg := h.fs j' s hj'
          rw [h.fl] at hlt
          refine h1 j' (by rw [h.kc]; omega) ⟨?_, ?_⟩
          · rw [← hg.2.1, e1]
          · rw [← hg.2.2, e2]
        · rw [h.fl] at hl
          omega
      rw [hF, m, List.length_append, h.fl]
      simp
      omega
    · have hF : firsts ck tx (k + 1) = firsts ck tx k := by
        refine firsts_keep (.inr ?_)
        rw [h.fl]
        omega
      rw [hF, m, h.fl]
      omega
    · have hF : firsts ck tx (k + 1) = firsts ck tx k ++ [k] := by
        refine firsts_add ?_
        rintro (⟨s, hs, e1, e2⟩ | hl)
        · obtain ⟨j', hj'⟩ := List.getElem?_of_mem hs
          have hlt : j' < (firsts ck tx k).length := (List.getElem?_eq_some_iff.1 hj').1
          have hg := h.fs j' s hj'
          rw [h.fl] at hlt
          refine h1 j' (by rw [h.kc]; omega) ⟨?_, ?_⟩
          · rw [← hg.2.1, e1]
          · rw [← hg.2.2, e2]
        · rw [h.fl] at hl
          omega
      intro j' s hs
      rw [hF] at hs
      rw [tx', ck']
      by_cases e : j' < (firsts ck tx k).length
      · rw [List.getElem?_append_left e] at hs
        have hg := h.fs j' s hs
        rw [h.fl] at e
        rw [(hsame j' (by omega)).1, (hsame j' (by omega)).2]
        exact ⟨by omega, hg.2⟩
      · rw [List.getElem?_append_right (by omega), List.getElem?_singleton] at hs
        split at hs
        · cases hs
          have : j' = g.m := by rw [h.fl] at *; omega
          subst this
          rw [upd_same, upd_same]
          exact ⟨by omega, rfl, rfl⟩
        · cases hs
    · have hF : firsts ck tx (k + 1) = firsts ck tx k := by
        refine firsts_keep (.inr ?_)
        rw [h.fl]
        omega
      intro j' s hs
      rw [hF] at hs
      rw [tx', ck']
      have hlt := (List.getElem?_eq_some_iff.1 hs).1
      rw [h.fl] at hlt
      have hg := h.fs j' s hs
      rw [(hsame j' (by omega)).1, (hsame j' (by omega)).2]
      exact ⟨by omega, hg.2⟩

end Go.Proofs.Qxb6604492aDoor
