import Derived.Test.Qxb6602571aApp
namespace Go.Proofs.Qxb6602571a
open Go.RowKit

/-- plainExtent's state at i. -/
def PE (d : Nat → Int) (n : Nat) (fl : Bool) (par : Int) (R i e nls : Nat) (ls : Int) (b : Bool) : Prop :=
  i ≤ n ∧ e ≤ n ∧ 0 ≤ ls ∧ ls ≤ i ∧ nls ≤ i ∧
  ((b = true ∧ e = i ∧ nls = 0 ∧ ext d n fl par (wordEnd d n fl i) = R) ∨
   (b = false ∧ e ≤ i ∧ (∀ k, e ≤ k → k < i → Blank (d k)) ∧ nls = nl d e i ∧ (0 < nls → ls = ln d 0 e i) ∧ ext d n fl par e = R))

section
variable {d : Nat → Int} {n : Nat} {fl : Bool} {par : Int} {R i e nls : Nat} {ls : Int} {b : Bool}

theorem PE.space (h : PE d n fl par R i e nls ls b) (hi : i < n) (c : d i = 32) : PE d n fl par R (i + 1) e nls ls false := by
  obtain ⟨h1, h2, h3, h4, h5, h6⟩ := h
  refine ⟨hi, h2, h3, by omega, by omega, .inr ⟨rfl, ?_⟩⟩
  rcases h6 with ⟨rfl, rfl, rfl, hR⟩ | ⟨rfl, he, hall, hn, hl, hR⟩
  · refine ⟨by omega, fun k a b => ?_, ?_, fun a => by omega, ?_⟩
    · obtain rfl : k = e := by omega
      exact .inl c
    · rw [nl_no d e e (Nat.le_refl _) (by omega), nl_self]
    · rw [word_stay d n fl e (fun a => a.2.1 (.inl c))] at hR
      exact hR
  · refine ⟨by omega, fun k a b => ?_, ?_, fun a => ?_, hR⟩
    · by_cases hk : k = i
      · rw [hk]; exact .inl c
      · exact hall k a (by omega)
    · rw [nl_no d e i he (by omega)]; exact hn
    · rw [ln_no d 0 e i he (by omega)]; exact hl a

theorem PE.br (h : PE d n fl par R i e nls ls b) (hi : i < n) (c : d i = 10) : PE d n fl par R (i + 1) e (nls + 1) ((i : Int) + 1) false := by
  obtain ⟨h1, h2, h3, h4, h5, h6⟩ := h
  refine ⟨hi, h2, by omega, by omega, by omega, .inr ⟨rfl, ?_⟩⟩
  rcases h6 with ⟨rfl, rfl, rfl, hR⟩ | ⟨rfl, he, hall, hn, hl, hR⟩
  · refine ⟨by omega, fun k a b => ?_, ?_, fun a => ?_, ?_⟩
    · obtain rfl : k = e := by omega
      exact .inr c
    · rw [nl_br d e e (Nat.le_refl _) c, nl_self]
    · rw [ln_br d 0 e e (Nat.le_refl _) c]
    · rw [word_stay d n fl e (fun a => a.2.1 (.inr c))] at hR
      exact hR
  · refine ⟨by omega, fun k a b => ?_, ?_, fun a => ?_, hR⟩
    · by_cases hk : k = i
      · rw [hk]; exact .inr c
      · exact hall k a (by omega)
    · rw [nl_br d e i he c, hn]
    · rw [ln_br d 0 e i he c]

theorem PE.over (h : PE d n fl par R i e nls ls b) (hi : ¬ i < n) : R = e := by
  obtain ⟨h1, h2, h3, h4, h5, h6⟩ := h
  obtain rfl : i = n := by omega
  rcases h6 with ⟨rfl, rfl, rfl, hR⟩ | ⟨rfl, he, hall, hn, hl, hR⟩
  · rw [word_stay d e fl e (fun a => hi a.1), ext_stay] at hR
    · exact hR.symm
    · intro hc
      have h1 := hc.1
      have h2 := (gap_spec d e e (Nat.le_refl _)).1
      omega
  · rw [ext_stay] at hR
    · exact hR.symm
    · intro hc
      have h1 := hc.1
      rw [gap_uniq d i e i he (Nat.le_refl _) hall (fun a => absurd a hi)] at h1
      omega

theorem PE.stop (h : PE d n fl par R i e nls ls b) (hi : i < n) (hb : ¬ Blank (d i)) (hs : stopAt d n fl i = true) : R = e := by
  obtain ⟨h1, h2, h3, h4, h5, h6⟩ := h
  rcases h6 with ⟨rfl, rfl, rfl, hR⟩ | ⟨rfl, he, hall, hn, hl, hR⟩
  · rw [word_stay d n fl e (fun a => by have := a.2.2; rw [hs] at this; cases this), ext_stay] at hR
    · exact hR.symm
    · intro hc
      have h1 := hc.2.1
      rw [gap_uniq d n e e (Nat.le_refl _) h2 (fun i a b => by omega) (fun _ => hb), hs] at h1
      cases h1
  · rw [ext_stay] at hR
    · exact hR.symm
    · intro hc
      have h1 := hc.2.1
      rw [gap_uniq d n e i he (by omega) hall (fun _ => hb), hs] at h1
      cases h1

theorem PE.word (h : PE d n fl par R i e nls ls true) (hi : i < n) (hb : ¬ Blank (d i)) (hs : stopAt d n fl i = false) : nls = 0 ∧ PE d n fl par R (i + 1) (i + 1) nls ls true := by
  obtain ⟨h1, h2, h3, h4, h5, h6⟩ := h
  rcases h6 with ⟨_, rfl, rfl, hR⟩ | ⟨h, _⟩
  · refine ⟨rfl, hi, hi, h3, by omega, by omega, .inl ⟨rfl, rfl, rfl, ?_⟩⟩
    rw [← word_go d n fl e hi hb hs]
    exact hR
  · cases h

theorem PE.brk (h : PE d n fl par R i e nls ls false) (_ : i < n) (hb : ¬ Blank (d i)) (hc : d i = 0 ∨ d i = 35 ∨ (0 < nls ∧ (i : Int) - ls ≤ par)) : R = e := by
  obtain ⟨h1, h2, h3, h4, h5, h6⟩ := h
  rcases h6 with ⟨h, _⟩ | ⟨_, he, hall, hn, hl, hR⟩
  · cases h
  · rw [ext_stay] at hR
    · exact hR.symm
    · rintro ⟨k1, k2, k3, k4, k5⟩
      rw [gap_uniq d n e i he (by omega) hall (fun _ => hb)] at k3 k4 k5
      rcases hc with c | c | ⟨c, c'⟩
      · exact k3 c
      · exact k4 c
      · rw [← hn, ← hl c] at k5
        exact k5 ⟨c, c'⟩

theorem PE.next (h : PE d n fl par R i e nls ls false) (hi : i < n) (hb : ¬ Blank (d i)) (hs : stopAt d n fl i = false) (c0 : ¬ d i = 0) (c1 : ¬ d i = 35) (c2 : ¬ (0 < nls ∧ (i : Int) - ls ≤ par)) : PE d n fl par R (i + 1) (i + 1) 0 ls true := by
  obtain ⟨h1, h2, h3, h4, h5, h6⟩ := h
  rcases h6 with ⟨h, _⟩ | ⟨_, he, hall, hn, hl, hR⟩
  · cases h
  · refine ⟨hi, hi, h3, by omega, by omega, .inl ⟨rfl, rfl, rfl, ?_⟩⟩
    have hg : gapEnd d n e = i := gap_uniq d n e i he (by omega) hall (fun _ => hb)
    have hc : cont d n fl par e := by
      unfold cont
      rw [hg]
      refine ⟨hi, hs, c0, c1, ?_⟩
      intro ⟨a, b⟩
      rw [← hn] at a
      rw [← hl a] at b
      exact c2 ⟨a, b⟩
    rw [← word_go d n fl i hi hb hs, ← hR, ext_go h2 hc, hg]
end

set_option maxHeartbeats 4000000 in
set_option maxRecDepth 100000 in
theorem extent_any (g : Nat) (ad : Option Addr) (n s : Nat) (par : Int) (fl : Bool) (d : Nat → Int) (w : World) (hs : s ≤ n) (hn : n ≤ 1048576) (h : By w g ad n d 0) :
    Calls Try.prog 10 #[.slice ad n n, .int .i64 s, .int .i64 par, .bool fl] w fun e w' => e = .returned (.int .i64 (ext d n fl par (wordEnd d n fl s) : Nat)) ∧ w' = w := by
  obtain ⟨R, hR⟩ : ∃ R, R = ext d n fl par (wordEnd d n fl s) := ⟨_, rfl⟩
  rw [← hR]
  have B : Hid (By w g ad n d 0) := h
  have HP : Hid (PE d n fl par R s s 0 0 true) := ⟨hs, hs, by omega, by omega, by omega, .inl ⟨rfl, rfl, rfl, hR.symm⟩⟩
  clear h hR
  go_enter Try.func10, Try.ntmps10
  go_wp2_with fail
  go_loop [10, 11, 12, 13, 14] (fun ve vb vn vl vi => ∃ (q e nls : Nat) (ls : Int) (b : Bool), ve = .int .i64 e ∧ vb = .bool b ∧ vn = .int .i64 nls ∧ vl = .int .i64 ls ∧ vi = .int .i64 q ∧ PE d n fl par R q e nls ls b) (fun _ _ _ _ vi => n - (intOf vi).toNat)
  case atStart => exact ⟨s, s, 0, 0, true, rfl, rfl, rfl, rfl, rfl, HP.out⟩
  case round =>
    clear HP
    obtain ⟨q, e, nls, ls, b, rfl, rfl, rfl, rfl, rfl, hpe⟩ := hrel
    have H : Hid (PE d n fl par R q e nls ls b) := hpe
    have j1 := hpe.1
    have j2 := hpe.2.1
    have j3 := hpe.2.2.1
    have j4 := hpe.2.2.2.1
    have j5 := hpe.2.2.2.2.1
    clear hpe
    by_cases hlt : q < n
    · obtain ⟨bk, off, rfl, hg, hc⟩ := B.out q hlt
      rw [Nat.zero_add] at hc
      by_cases h32 : d q = 32
      · rw [h32] at hc
        have HN : Hid (PE d n fl par R (q + 1) e nls ls false) := H.out.space hlt h32
        go_wp2
        refine ⟨⟨q + 1, e, nls, ls, false, rfl, rfl, rfl, rfl, by go_num, HN.out⟩, ?_⟩
        show n - (intOf (.int .i64 ((q : Int) + 1))).toNat < n - (intOf (.int .i64 (q : Int))).toNat; unfold intOf; dsimp only; omega
      by_cases h10 : d q = 10
      · rw [h10] at hc
        have HN : Hid (PE d n fl par R (q + 1) e (nls + 1) ((q : Int) + 1) false) := H.out.br hlt h10
        go_wp2
        refine ⟨⟨q + 1, e, nls + 1, (q : Int) + 1, false, rfl, rfl, by go_num, rfl, by go_num, HN.out⟩, ?_⟩
        show n - (intOf (.int .i64 ((q : Int) + 1))).toNat < n - (intOf (.int .i64 (q : Int))).toNat; unfold intOf; dsimp only; omega
      have HB : Hid (¬ Blank (d q)) := fun h => h.elim h32 h10
      obtain ⟨f, hff⟩ : ∃ f, f = flowI (d q) := ⟨_, rfl⟩
      have F : Hid (Calls Try.prog 21 #[.int .u8 (d q)] w fun e w' => e = .returned (.bool f) ∧ w' = w) := by rw [hff]; exact flow2_any _ _
      have HS0 : Hid (stopAt d n fl q = ((d q == 58 && (decide (q + 1 = n) || boe (d (q + 1)))) || (fl && f))) := by rw [hff]; rfl
      clear hff
      have e32 : (d q == 32) = false := beq_eq_false_iff_ne.2 h32
      have e10 : (d q == 10) = false := beq_eq_false_iff_ne.2 h10
      by_cases h58 : d q = 58
      · rw [h58] at hc F
        by_cases hend : q + 1 = n
        · have HE : Hid (R = e) := H.out.stop hlt HB.out (by rw [HS0.out, h58, decide_eq_true hend]; rfl)
          clear F HS0
          have hend' : (q : Int) + 1 = (n : Int) := by omega
          go_wp2
          go_ret
          exact ⟨by rw [HE.out]; rfl, rfl⟩
        · obtain ⟨b2, off2, e2, hg2, hc2⟩ := B.out (q + 1) (by omega)
          rw [Nat.zero_add] at hc2
          simp only [Option.some.injEq, Addr.mk.injEq, and_true] at e2
          obtain ⟨rfl, rfl⟩ := e2
          have hend' : ¬ (q : Int) + 1 = (n : Int) := by omega
          have i1 : (q : Int) + 1 < (n : Int) := by omega
          by_cases k32 : d (q + 1) = 32
          · have HE : Hid (R = e) := H.out.stop hlt HB.out (by rw [HS0.out, h58, decide_eq_false hend, k32]; rfl)
            rw [k32] at hc2
            clear F HS0
            go_wp2
            go_ret
            exact ⟨by rw [HE.out]; rfl, rfl⟩
          by_cases k10 : d (q + 1) = 10
          · have HE : Hid (R = e) := H.out.stop hlt HB.out (by rw [HS0.out, h58, decide_eq_false hend, k10]; rfl)
            rw [k10] at hc2
            clear F HS0
            go_wp2
            go_ret
            exact ⟨by rw [HE.out]; rfl, rfl⟩
          by_cases k0 : d (q + 1) = 0
          · have HE : Hid (R = e) := H.out.stop hlt HB.out (by rw [HS0.out, h58, decide_eq_false hend, k0]; rfl)
            rw [k0] at hc2
            clear F HS0
            go_wp2
            go_ret
            exact ⟨by rw [HE.out]; rfl, rfl⟩
          have HS1 : Hid (stopAt d n fl q = (fl && f)) := by
            have := HS0.out
            rw [h58, decide_eq_false hend, Bool.false_or, show boe (d (q + 1)) = false by simp [boe, k32, k10, k0]] at this
            exact this
          have l32 : (d (q + 1) == 32) = false := beq_eq_false_iff_ne.2 k32
          have l10 : (d (q + 1) == 10) = false := beq_eq_false_iff_ne.2 k10
          have l0 : (d (q + 1) == 0) = false := beq_eq_false_iff_ne.2 k0
          clear HS0 e32 e10
          cases fl
          · have HSt : Hid (stopAt d n false q = false) := by rw [HS1.out]; rfl
            clear HS1
            cases b
            · by_cases hnl : 0 < nls
              · have hnl' : (0 : Int) < (nls : Int) := by omega
                by_cases hpar : (q : Int) - ls ≤ par
                · have HE : Hid (R = e) := H.out.brk hlt HB.out (.inr (.inr ⟨hnl, hpar⟩))
                  go_wp2
                  go_ret
                  exact ⟨by rw [HE.out]; rfl, rfl⟩
                · have HN : Hid (PE d n _ par R (q + 1) (q + 1) 0 ls true) := H.out.next hlt HB.out HSt.out (by omega) (by omega) (fun a => hpar a.2)
                  go_wp2
                  refine ⟨⟨q + 1, q + 1, 0, ls, true, by go_num, rfl, rfl, rfl, by go_num, HN.out⟩, ?_⟩
                  show n - (intOf (.int .i64 ((q : Int) + 1))).toNat < n - (intOf (.int .i64 (q : Int))).toNat; unfold intOf; dsimp only; omega
              · have HN : Hid (PE d n _ par R (q + 1) (q + 1) 0 ls true) := H.out.next hlt HB.out HSt.out (by omega) (by omega) (fun a => hnl a.1)
                obtain rfl : nls = 0 := by omega
                go_wp2
                refine ⟨⟨q + 1, q + 1, 0, ls, true, by go_num, rfl, rfl, rfl, by go_num, HN.out⟩, ?_⟩
                show n - (intOf (.int .i64 ((q : Int) + 1))).toNat < n - (intOf (.int .i64 (q : Int))).toNat; unfold intOf; dsimp only; omega
            · have HN : Hid (nls = 0 ∧ PE d n _ par R (q + 1) (q + 1) nls ls true) := H.out.word hlt HB.out HSt.out
              go_wp2
              refine ⟨⟨q + 1, q + 1, nls, ls, true, by go_num, rfl, rfl, rfl, by go_num, HN.out.2⟩, ?_⟩
              show n - (intOf (.int .i64 ((q : Int) + 1))).toNat < n - (intOf (.int .i64 (q : Int))).toNat; unfold intOf; dsimp only; omega
          · cases f
            · have HSt : Hid (stopAt d n true q = false) := by rw [HS1.out]; rfl
              clear HS1
              cases b
              · by_cases hnl : 0 < nls
                · have hnl' : (0 : Int) < (nls : Int) := by omega
                  by_cases hpar : (q : Int) - ls ≤ par
                  · have HE : Hid (R = e) := H.out.brk hlt HB.out (.inr (.inr ⟨hnl, hpar⟩))
                    go_wp2_with fail
                    refine F.out.mono ?_; rintro e w' ⟨rfl, hww⟩; obtain rfl := hww.symm
                    go_wp2
                    go_ret
                    exact ⟨by rw [HE.out]; rfl, rfl⟩
                  · have HN : Hid (PE d n _ par R (q + 1) (q + 1) 0 ls true) := H.out.next hlt HB.out HSt.out (by omega) (by omega) (fun a => hpar a.2)
                    go_wp2_with fail
                    refine F.out.mono ?_; rintro e w' ⟨rfl, hww⟩; obtain rfl := hww.symm
                    go_wp2
                    refine ⟨⟨q + 1, q + 1, 0, ls, true, by go_num, rfl, rfl, rfl, by go_num, HN.out⟩, ?_⟩
                    show n - (intOf (.int .i64 ((q : Int) + 1))).toNat < n - (intOf (.int .i64 (q : Int))).toNat; unfold intOf; dsimp only; omega
                · have HN : Hid (PE d n _ par R (q + 1) (q + 1) 0 ls true) := H.out.next hlt HB.out HSt.out (by omega) (by omega) (fun a => hnl a.1)
                  obtain rfl : nls = 0 := by omega
                  go_wp2_with fail
                  refine F.out.mono ?_; rintro e w' ⟨rfl, hww⟩; obtain rfl := hww.symm
                  go_wp2
                  refine ⟨⟨q + 1, q + 1, 0, ls, true, by go_num, rfl, rfl, rfl, by go_num, HN.out⟩, ?_⟩
                  show n - (intOf (.int .i64 ((q : Int) + 1))).toNat < n - (intOf (.int .i64 (q : Int))).toNat; unfold intOf; dsimp only; omega
              · have HN : Hid (nls = 0 ∧ PE d n _ par R (q + 1) (q + 1) nls ls true) := H.out.word hlt HB.out HSt.out
                go_wp2_with fail
                refine F.out.mono ?_; rintro e w' ⟨rfl, hww⟩; obtain rfl := hww.symm
                go_wp2
                refine ⟨⟨q + 1, q + 1, nls, ls, true, by go_num, rfl, rfl, rfl, by go_num, HN.out.2⟩, ?_⟩
                show n - (intOf (.int .i64 ((q : Int) + 1))).toNat < n - (intOf (.int .i64 (q : Int))).toNat; unfold intOf; dsimp only; omega
            · have HE : Hid (R = e) := H.out.stop hlt HB.out (by rw [HS1.out]; rfl)
              clear HS1
              go_wp2_with fail
              refine F.out.mono ?_; rintro e w' ⟨rfl, hww⟩; obtain rfl := hww.symm
              go_wp2
              go_ret
              exact ⟨by rw [HE.out]; rfl, rfl⟩
      · have HS1 : Hid (stopAt d n fl q = (fl && f)) := by
          have := HS0.out
          rw [beq_eq_false_iff_ne.2 h58, Bool.false_and, Bool.false_or] at this
          exact this
        have e58 : (d q == 58) = false := beq_eq_false_iff_ne.2 h58
        clear HS0
        cases fl
        · have HSt : Hid (stopAt d n false q = false) := by rw [HS1.out]; rfl
          clear HS1
          cases b
          · by_cases h0 : d q = 0
            · have HE : Hid (R = e) := H.out.brk hlt HB.out (.inl h0)
              rw [h0] at hc F e32 e10 e58
              go_wp2
              go_ret
              exact ⟨by rw [HE.out]; rfl, rfl⟩
            by_cases h35 : d q = 35
            · have HE : Hid (R = e) := H.out.brk hlt HB.out (.inr (.inl h35))
              rw [h35] at hc F e32 e10 e58
              go_wp2
              go_ret
              exact ⟨by rw [HE.out]; rfl, rfl⟩
            have e0 : (d q == 0) = false := beq_eq_false_iff_ne.2 h0
            have e35 : (d q == 35) = false := beq_eq_false_iff_ne.2 h35
            by_cases hnl : 0 < nls
            · have hnl' : (0 : Int) < (nls : Int) := by omega
              by_cases hpar : (q : Int) - ls ≤ par
              · have HE : Hid (R = e) := H.out.brk hlt HB.out (.inr (.inr ⟨hnl, hpar⟩))
                go_wp2
                go_ret
                exact ⟨by rw [HE.out]; rfl, rfl⟩
              · have HN : Hid (PE d n _ par R (q + 1) (q + 1) 0 ls true) := H.out.next hlt HB.out HSt.out h0 h35 (fun a => hpar a.2)
                go_wp2
                refine ⟨⟨q + 1, q + 1, 0, ls, true, by go_num, rfl, rfl, rfl, by go_num, HN.out⟩, ?_⟩
                show n - (intOf (.int .i64 ((q : Int) + 1))).toNat < n - (intOf (.int .i64 (q : Int))).toNat; unfold intOf; dsimp only; omega
            · have HN : Hid (PE d n _ par R (q + 1) (q + 1) 0 ls true) := H.out.next hlt HB.out HSt.out h0 h35 (fun a => hnl a.1)
              obtain rfl : nls = 0 := by omega
              go_wp2
              refine ⟨⟨q + 1, q + 1, 0, ls, true, by go_num, rfl, rfl, rfl, by go_num, HN.out⟩, ?_⟩
              show n - (intOf (.int .i64 ((q : Int) + 1))).toNat < n - (intOf (.int .i64 (q : Int))).toNat; unfold intOf; dsimp only; omega
          · have HN : Hid (nls = 0 ∧ PE d n _ par R (q + 1) (q + 1) nls ls true) := H.out.word hlt HB.out HSt.out
            go_wp2
            refine ⟨⟨q + 1, q + 1, nls, ls, true, by go_num, rfl, rfl, rfl, by go_num, HN.out.2⟩, ?_⟩
            show n - (intOf (.int .i64 ((q : Int) + 1))).toNat < n - (intOf (.int .i64 (q : Int))).toNat; unfold intOf; dsimp only; omega
        · cases f
          · have HSt : Hid (stopAt d n true q = false) := by rw [HS1.out]; rfl
            clear HS1
            cases b
            · by_cases h0 : d q = 0
              · have HE : Hid (R = e) := H.out.brk hlt HB.out (.inl h0)
                rw [h0] at hc F e32 e10 e58
                go_wp2_with fail
                refine F.out.mono ?_; rintro e w' ⟨rfl, hww⟩; obtain rfl := hww.symm
                go_wp2
                go_ret
                exact ⟨by rw [HE.out]; rfl, rfl⟩
              by_cases h35 : d q = 35
              · have HE : Hid (R = e) := H.out.brk hlt HB.out (.inr (.inl h35))
                rw [h35] at hc F e32 e10 e58
                go_wp2_with fail
                refine F.out.mono ?_; rintro e w' ⟨rfl, hww⟩; obtain rfl := hww.symm
                go_wp2
                go_ret
                exact ⟨by rw [HE.out]; rfl, rfl⟩
              have e0 : (d q == 0) = false := beq_eq_false_iff_ne.2 h0
              have e35 : (d q == 35) = false := beq_eq_false_iff_ne.2 h35
              by_cases hnl : 0 < nls
              · have hnl' : (0 : Int) < (nls : Int) := by omega
                by_cases hpar : (q : Int) - ls ≤ par
                · have HE : Hid (R = e) := H.out.brk hlt HB.out (.inr (.inr ⟨hnl, hpar⟩))
                  go_wp2_with fail
                  refine F.out.mono ?_; rintro e w' ⟨rfl, hww⟩; obtain rfl := hww.symm
                  go_wp2
                  go_ret
                  exact ⟨by rw [HE.out]; rfl, rfl⟩
                · have HN : Hid (PE d n _ par R (q + 1) (q + 1) 0 ls true) := H.out.next hlt HB.out HSt.out h0 h35 (fun a => hpar a.2)
                  go_wp2_with fail
                  refine F.out.mono ?_; rintro e w' ⟨rfl, hww⟩; obtain rfl := hww.symm
                  go_wp2
                  refine ⟨⟨q + 1, q + 1, 0, ls, true, by go_num, rfl, rfl, rfl, by go_num, HN.out⟩, ?_⟩
                  show n - (intOf (.int .i64 ((q : Int) + 1))).toNat < n - (intOf (.int .i64 (q : Int))).toNat; unfold intOf; dsimp only; omega
              · have HN : Hid (PE d n _ par R (q + 1) (q + 1) 0 ls true) := H.out.next hlt HB.out HSt.out h0 h35 (fun a => hnl a.1)
                obtain rfl : nls = 0 := by omega
                go_wp2_with fail
                refine F.out.mono ?_; rintro e w' ⟨rfl, hww⟩; obtain rfl := hww.symm
                go_wp2
                refine ⟨⟨q + 1, q + 1, 0, ls, true, by go_num, rfl, rfl, rfl, by go_num, HN.out⟩, ?_⟩
                show n - (intOf (.int .i64 ((q : Int) + 1))).toNat < n - (intOf (.int .i64 (q : Int))).toNat; unfold intOf; dsimp only; omega
            · have HN : Hid (nls = 0 ∧ PE d n _ par R (q + 1) (q + 1) nls ls true) := H.out.word hlt HB.out HSt.out
              go_wp2_with fail
              refine F.out.mono ?_; rintro e w' ⟨rfl, hww⟩; obtain rfl := hww.symm
              go_wp2
              refine ⟨⟨q + 1, q + 1, nls, ls, true, by go_num, rfl, rfl, rfl, by go_num, HN.out.2⟩, ?_⟩
              show n - (intOf (.int .i64 ((q : Int) + 1))).toNat < n - (intOf (.int .i64 (q : Int))).toNat; unfold intOf; dsimp only; omega
          · have HE : Hid (R = e) := H.out.stop hlt HB.out (by rw [HS1.out]; rfl)
            clear HS1
            go_wp2_with fail
            refine F.out.mono ?_; rintro e w' ⟨rfl, hww⟩; obtain rfl := hww.symm
            go_wp2
            go_ret
            exact ⟨by rw [HE.out]; rfl, rfl⟩
    · have HE : Hid (R = e) := H.out.over hlt
      go_wp2
      go_ret
      exact ⟨by rw [HE.out]; rfl, rfl⟩

end Go.Proofs.Qxb6602571a
