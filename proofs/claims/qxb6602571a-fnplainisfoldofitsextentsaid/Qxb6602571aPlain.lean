import Derived.Test.Qxb6602571aStep
import Derived.Test.Qxb6602571aSpan
import Derived.Deep.DrawnRows
namespace Go.Proofs.Qxb6602571a
open Go.RowKit
attribute [local go_sem] eq22
attribute [local go_sem ↓] Go.wp_at_zero Go.wp_at_succ

/-- plain's state: the last word so far ended at p, its text is t. -/
def PL (d : Nat → Int) (n : Nat) (fl : Bool) (par : Int) (s E p : Nat) (t : List Int) : Prop :=
  s ≤ p ∧ p ≤ n ∧ ext d n fl par p = E ∧ t ++ fs d p E = fs d s E ∧ t.length ≤ p - s ∧ (p < n → Blank (d p) ∨ stopAt d n fl p = true)

section
variable {d : Nat → Int} {n : Nat} {fl : Bool} {par : Int} {s E p : Nat} {t : List Int}

theorem PL.first (hs : s ≤ n) : PL d n fl par s (ext d n fl par (wordEnd d n fl s)) (wordEnd d n fl s) (seg d s (wordEnd d n fl s)) := by
  have h := word_spec d n fl s hs
  exact ⟨h.1, h.2.1, rfl, fs_first hs, by rw [seg_length]; omega, h.2.2.2⟩

theorem PL.out (h : PL d n fl par s E p t) (hc : ¬ cont d n fl par p) : E = p ∧ t = fs d s E := by
  obtain ⟨h1, h2, h3, h4, _⟩ := h
  rw [ext_stay hc] at h3
  subst h3
  rw [fs_end, List.append_nil] at h4
  exact ⟨rfl, h4⟩

/-- A gap lies ahead of each further word. -/
theorem PL.gap (h : PL d n fl par s E p t) (hc : cont d n fl par p) : p < gapEnd d n p := by
  obtain ⟨h1, h2, h3, h4, h5, h6⟩ := h
  have hg := gap_spec d n p h2
  by_cases e : gapEnd d n p = p
  · have k1 := hc.1
    have k2 := hc.2.1
    have k3 := hg.2.2.2 k1
    rw [e] at k1 k2 k3
    rcases h6 k1 with h | h
    · exact absurd h k3
    · rw [h] at k2; cases k2
  · omega

theorem PL.step (h : PL d n fl par s E p t) (hc : cont d n fl par p) : PL d n fl par s E (wordEnd d n fl (gapEnd d n p)) ((t ++ gapText d p (gapEnd d n p)) ++ seg d (gapEnd d n p) (wordEnd d n fl (gapEnd d n p))) ∧ p < wordEnd d n fl (gapEnd d n p) := by
  have hgp := h.gap hc
  obtain ⟨h1, h2, h3, h4, h5, h6⟩ := h
  have hw := word_spec d n fl (gapEnd d n p) (Nat.le_of_lt hc.1)
  have h7 : ext d n fl par (wordEnd d n fl (gapEnd d n p)) = E := by rw [← ext_go h2 hc, h3]
  refine ⟨⟨by omega, hw.2.1, h7, ?_, ?_, hw.2.2.2⟩, by omega⟩
  · have := fs_step h2 hc t (fs d s E) (by rw [h3]; exact h4)
    rw [h7] at this
    rw [← this]
    simp [List.append_assoc]
  · have := gapText_len d p (gapEnd d n p) (by omega)
    rw [List.length_append, List.length_append, seg_length]
    omega
end

/-- The gap, as far as it is passed. -/
def GP (d : Nat → Int) (n p q : Nat) : Prop := p ≤ q ∧ q ≤ n ∧ (∀ i, p ≤ i → i < q → Blank (d i)) ∧ (q < n → ¬ d q = 32)

theorem GP.start {d : Nat → Int} {n p q : Nat} (h1 : p ≤ q) (h2 : q ≤ n) (h3 : ∀ i, p ≤ i → i < q → d i = 32) (h4 : q < n → ¬ d q = 32) (l : Int) : GP d n p q ∧ nl d p q = 0 ∧ ln d l p q = l := by
  refine ⟨⟨h1, h2, fun i a b => .inl (h3 i a b), h4⟩, ?_, ?_⟩
  · rw [nl_run d p p q (Nat.le_refl _) h1 (fun i a b e => by have := h3 i a b; omega), nl_self]
  · rw [ln_run d l p p q (Nat.le_refl _) h1 (fun i a b e => by have := h3 i a b; omega), ln_self]

theorem GP.next {d : Nat → Int} {n p q r : Nat} (h : GP d n p q) (c : d q = 10) (h1 : q + 1 ≤ r) (h2 : r ≤ n) (h3 : ∀ i, q + 1 ≤ i → i < r → d i = 32) (h4 : r < n → ¬ d r = 32) (l : Int) : GP d n p r ∧ nl d p r = nl d p q + 1 ∧ ln d l p r = (q : Int) + 1 := by
  obtain ⟨g1, g2, g3, g4⟩ := h
  refine ⟨⟨by omega, h2, fun i a b => ?_, h4⟩, ?_, ?_⟩
  · by_cases e : i < q
    · exact g3 i a e
    · by_cases e2 : i = q
      · rw [e2]; exact .inr c
      · exact .inl (h3 i (by omega) b)
  · rw [nl_run d p (q + 1) r (by omega) h1 (fun i a b e => by have := h3 i a b; omega), nl_br d p q g1 c]
  · rw [ln_run d l p (q + 1) r (by omega) h1 (fun i a b e => by have := h3 i a b; omega), ln_br d l p q g1 c]

theorem GP.ends {d : Nat → Int} {n p q : Nat} (h : GP d n p q) (hc : q < n → ¬ d q = 10) : gapEnd d n p = q :=
  gap_uniq d n p q h.1 h.2.1 h.2.2.1 (fun a b => b.elim (h.2.2.2 a) (hc a))

theorem at0_in (g : Nat) (ad : Option Addr) (n q : Nat) (l dep : Int) (d : Nat → Int) (w : World) (hq : q < n) (hn : n ≤ 1048576) (hr : Rd w g ad n q l dep) (hb : By w g ad n d 0) :
    Calls Try.prog 27 #[.pointer (some ⟨g, 0, none⟩), .int .i64 0] w fun e w' => e = .returned (.int .u8 (d q)) ∧ w' = w := by
  have := at_any g ad n q l dep d 0 w (by omega) (by omega) hn hr hb
  unfold byteAt at this
  rw [Nat.add_zero, if_pos hq] at this
  exact this

theorem at0_out (g : Nat) (ad : Option Addr) (n : Nat) (l dep : Int) (d : Nat → Int) (w : World) (hn : n ≤ 1048576) (hr : Rd w g ad n n l dep) (hb : By w g ad n d 0) :
    Calls Try.prog 27 #[.pointer (some ⟨g, 0, none⟩), .int .i64 0] w fun e w' => e = .returned (.int .u8 0) ∧ w' = w := by
  have := at_any g ad n n l dep d 0 w (by omega) (Nat.le_refl _) hn hr hb
  unfold byteAt at this
  rw [Nat.add_zero, if_neg (by omega)] at this
  exact this

set_option maxHeartbeats 8000000 in
set_option maxRecDepth 100000 in
theorem plain_any (g : Nat) (ad : Option Addr) (n s : Nat) (l dep par : Int) (d : Nat → Int) (fl : Bool) (w : World) (hs : s ≤ n) (hn : n ≤ 1048576) (hr : Rd w g ad n s l dep) (hb : By w g ad n d 0) :
    Calls Try.prog 20 #[.pointer (some ⟨g, 0, none⟩), .int .i64 par, .bool fl] w fun e w' =>
      e = .returned (.string (strOf (fs d s (ext d n fl par (wordEnd d n fl s))))) ∧ Rd w' g ad n (ext d n fl par (wordEnd d n fl s) : Nat) (ln d l s (ext d n fl par (wordEnd d n fl s))) dep ∧ Below g w w' := by
  obtain ⟨i5, hi, hz0, hz1, hz2⟩ := info_parts info5
  have hPL : PL d n fl par s (ext d n fl par (wordEnd d n fl s)) (wordEnd d n fl s) (seg d s (wordEnd d n fl s)) := PL.first hs
  have hLW : ln d l s (wordEnd d n fl s) = l := by rw [ln_word l (Nat.le_refl _) hs, ln_self]
  obtain ⟨E, hE⟩ : ∃ E, E = ext d n fl par (wordEnd d n fl s) := ⟨_, rfl⟩
  rw [← hE] at hPL ⊢
  have HP : Hid (PL d n fl par s E (wordEnd d n fl s) (seg d s (wordEnd d n fl s)) ∧ ln d l s (wordEnd d n fl s) = l) := ⟨hPL, hLW⟩
  have HB : Hid (By w g ad n d 0) := hb
  have HR : Hid (Rd w g ad n s l dep) := hr
  have c1 := hr.c1
  have hgB : Hid (g < w.heap.size) := hr.lt
  clear hb hr hPL hLW hE
  go_enter Try.func20, Try.ntmps20
  go_wp2_with fail
  refine (word_any g ad n s l dep d fl w hs hn HR.out HB.out).mono ?_
  rintro e w1 ⟨rfl, hrd1, hbut1⟩
  have d1 := hrd1.c1
  have d2 := hrd1.c2
  have H1 : Hid (Rd w1 g ad n (wordEnd d n fl s : Nat) l dep ∧ But g w w1) := ⟨hrd1, hbut1⟩
  obtain ⟨p0, hp0⟩ : ∃ p0, p0 = wordEnd d n fl s := ⟨_, rfl⟩
  rw [← hp0] at H1 HP d1
  clear hrd1 hbut1 c1 hp0
  go_wp2_with fail
  go_quiet (fail)
  go_wp2_with fail
  go_loopw [8, 9, 10] (fun ve vl vb wr => ∃ (p : Nat) (l' : Int) (t : List Int), ve = .int .i64 p ∧ vl = .int .i64 l' ∧ PL d n fl par s E p t ∧ l' = ln d l s p ∧ ((vb = .slice none 0 0 ∧ t = seg d s p) ∨ (Own wr w.heap.size vb t ∧ 0 < t.length)) ∧ Rd wr g ad n p l' dep ∧ Below g w wr) (fun ve _ _ _ => n - (intOf ve).toNat)
  case atStart => exact ⟨p0, l, _, rfl, rfl, HP.out.1, HP.out.2.symm, .inl ⟨rfl, rfl⟩, H1.out.1.drewN _, H1.out.2.below.trans ((But.refl g w1).drewN _).below⟩
  case round =>
    clear H1 HP d1 d2
    obtain ⟨p, l', t, rfl, rfl, hpl, hl', hbv, hrd, hbel⟩ := hrel
    have HPL : Hid (PL d n fl par s E p t ∧ l' = ln d l s p) := ⟨hpl, hl'⟩
    have hpn : p ≤ n := hpl.2.1
    have hsp : s ≤ p := hpl.1
    have htl : t.length ≤ p - s := hpl.2.2.2.2.1
    have HW : Hid (Rd wr g ad n p l' dep ∧ Below g w wr) := ⟨hrd, hbel⟩
    have HBy : Hid (By wr g ad n d 0) := HB.out.below hbel
    have HBV : Hid ((u10 = .slice none 0 0 ∧ t = seg d s p) ∨ (Own wr w.heap.size u10 t ∧ 0 < t.length)) := hbv
    have c1 := hrd.c1
    clear hpl hl' hbv hrd hbel
    go_wp2_with fail
    refine (spaces_any g ad n p l' dep d _ hpn hn HW.out.1 HBy.out).mono ?_
    rintro e w2 ⟨rfl, q1, a1, a2, a3, a4, hrd2, hbut2⟩
    have H2 : Hid (GP d n p q1 ∧ nl d p q1 = 0 ∧ ln d l' p q1 = l') := GP.start a1 a2 a3 a4 l'
    have H3 : Hid (Rd w2 g ad n q1 l' dep ∧ But g wr w2) := ⟨hrd2, hbut2⟩
    clear a1 a2 a3 a4 hrd2 hbut2 c1
    go_wp2_with fail
    obtain ⟨wo, rfl⟩ : ∃ wo, wo = wr := ⟨_, rfl⟩
    go_loopw [12] (fun vn wi => ∃ q : Nat, vn = .int .i64 (nl d p q : Nat) ∧ GP d n p q ∧ Rd wi g ad n q (ln d l' p q) dep ∧ But g wo wi) (fun _ wi => n - posOf wi g)
    case atStart => exact ⟨q1, by rw [H2.out.2.1]; rfl, H2.out.1, by rw [H2.out.2.2]; exact H3.out.1, H3.out.2⟩
    case round =>
      clear H2 H3
      obtain ⟨q, rfl, hgp, hrdi, hbuti⟩ := hrel
      have HG : Hid (GP d n p q) := hgp
      have HRi : Hid (Rd wr g ad n q (ln d l' p q) dep ∧ But g wo wr) := ⟨hrdi, hbuti⟩
      have HByi : Hid (By wr g ad n d 0) := HBy.out.below hbuti.below
      have hpq : p ≤ q := hgp.1
      have hqn : q ≤ n := hgp.2.1
      have hnl : nl d p q ≤ q - p := nl_len d p q hpq
      have c0 := hrdi.c0
      have c1 := hrdi.c1
      have c2 := hrdi.c2
      have f1 := hrdi.fr 1
      have f2 := hrdi.fr 2
      clear hgp hrdi hbuti
      by_cases hq10 : q < n ∧ d q = 10
      · have HA : Hid (Calls Try.prog 27 #[.pointer (some ⟨g, 0, none⟩), .int .i64 0] wr fun e w' => e = .returned (.int .u8 10) ∧ w' = wr) := by
          have := at0_in g ad n q _ dep d wr hq10.1 hn HRi.out.1 HByi.out
          rw [hq10.2] at this
          exact this
        have hq := hq10.1
        go_wp2_with fail
        refine HA.out.mono ?_; rintro e w' ⟨rfl, hww⟩; obtain rfl := hww.symm
        go_wp2_with fail
        refine (spaces_any g ad n (q + 1) ((q : Int) + 1) dep d _ (by omega) hn ((HRi.out.1.set1 _).set2 _) (HByi.out.below (((But.refl g wr).setCell 1 _).setCell 2 _).below)).mono ?_
        rintro e w3 ⟨rfl, r, b1, b2, b3, b4, hrd3, hbut3⟩
        have HN : Hid (GP d n p r ∧ nl d p r = nl d p q + 1 ∧ ln d l' p r = (q : Int) + 1) := HG.out.next hq10.2 b1 b2 b3 b4 l'
        have HN2 : Hid (Rd w3 g ad n r ((q : Int) + 1) dep ∧ But g wo w3) := ⟨hrd3, (((HRi.out.2).setCell 1 _).setCell 2 _).trans hbut3⟩
        clear b3 b4 hrd3 hbut3
        go_wp2
        refine ⟨⟨r, ?_, HN.out.1, by rw [HN.out.2.2]; exact HN2.out.1, HN2.out.2⟩, ?_⟩
        · rw [HN.out.2.1]; go_num
        · rw [HN2.out.1.pos, HRi.out.1.pos]; omega
      · have HE : Hid (gapEnd d n p = q) := HG.out.ends (fun a b => hq10 ⟨a, b⟩)
        by_cases hqe : q < n
        · have h10 : ¬ d q = 10 := fun e => hq10 ⟨hqe, e⟩
          have h32 : ¬ d q = 32 := HG.out.2.2.2 hqe
          have HA0 : Hid (Calls Try.prog 27 #[.pointer (some ⟨g, 0, none⟩), .int .i64 0] wr fun e w' => e = .returned (.int .u8 (d q)) ∧ w' = wr) := at0_in g ad n q _ dep d wr hqe hn HRi.out.1 HByi.out
          have e10 : (d q == 10) = false := beq_eq_false_iff_ne.2 h10
          by_cases h0 : d q = 0
          · have HNC : Hid (¬ cont d n fl par p) := fun hc => by have := hc.2.2.1; rw [HE.out] at this; exact this h0
            have HA : Hid (Calls Try.prog 27 #[.pointer (some ⟨g, 0, none⟩), .int .i64 0] wr fun e w' => e = .returned (.int .u8 0) ∧ w' = wr) := by rw [h0] at HA0; exact HA0
            clear HA0
            go_wp2_with fail
            refine HA.out.mono ?_; rintro e w' ⟨rfl, hww⟩; obtain rfl := hww.symm
            go_wp2_with fail
            refine HA.out.mono ?_; rintro e w' ⟨rfl, hww⟩; obtain rfl := hww.symm
            have HO : Hid (E = p ∧ t = fs d s E) := HPL.out.1.out HNC.out
            have HZ : Hid (Rd (((wr).setCell ⟨g, 1, none⟩ (.int .i64 p)).setCell ⟨g, 2, none⟩ (.int .i64 l')) g ad n p l' dep ∧ But g wo (((wr).setCell ⟨g, 1, none⟩ (.int .i64 p)).setCell ⟨g, 2, none⟩ (.int .i64 l'))) := ⟨((HRi.out.1).set1 _).set2 _, ((HRi.out.2).setCell 1 _).setCell 2 _⟩
            have HF : Hid (Rd (((wr).setCell ⟨g, 1, none⟩ (.int .i64 p)).setCell ⟨g, 2, none⟩ (.int .i64 l')) g ad n E (ln d l s E) dep ∧ Below g w (((wr).setCell ⟨g, 1, none⟩ (.int .i64 p)).setCell ⟨g, 2, none⟩ (.int .i64 l'))) := by
              have e1 := HPL.out.2
              have e2 := HO.out.1
              subst e2
              rw [← e1]
              exact ⟨HZ.out.1, HW.out.2.trans HZ.out.2.below⟩
            rcases HBV.out with ⟨rfl, ht⟩ | ⟨hown, htp⟩
            · have hsn : s < n := by omega
              · obtain ⟨b, off, rfl, hbg, _⟩ := HB.out s hsn
                have hconv : (convert 22 9 (.slice (some ⟨b, off + s, none⟩) (p - s) (n - s))).run Try.prog (((wr).setCell ⟨g, 1, none⟩ (.int .i64 p)).setCell ⟨g, 2, none⟩ (.int .i64 l')) = .ok (.string (strOf (seg d s p))) (((wr).setCell ⟨g, 1, none⟩ (.int .i64 p)).setCell ⟨g, 2, none⟩ (.int .i64 l')) := by
                  have := conv_by (HBy.out.below HZ.out.2.below) s p hsp hpn
                  rw [if_neg (by omega), Option.map_some, Nat.mul_one, add_none] at this
                  exact this
                have hns : ¬ n = s := by omega
                have HT : Hid (strOf (seg d s p) = strOf (fs d s E)) := by unfold Hid; rw [← ht, HO.out.2]
                clear ht
                go_wp2
                go_ret
                exact ⟨by rw [← HT.out]; rfl, HF.out⟩
            · have hown2 := hown
              obtain ⟨k, cap, rfl, _, _⟩ := World.ownsRow.form hown htp
              have hconv : (convert 22 9 (.slice (some ⟨k, 0, none⟩) t.length cap)).run Try.prog (((wr).setCell ⟨g, 1, none⟩ (.int .i64 p)).setCell ⟨g, 2, none⟩ (.int .i64 l')) = .ok (.string (strOf t)) (((wr).setCell ⟨g, 1, none⟩ (.int .i64 p)).setCell ⟨g, 2, none⟩ (.int .i64 l')) := conv_own (Own.but hown2 HZ.out.2 hgB.out)
              have HT : Hid (strOf t = strOf (fs d s E)) := by unfold Hid; rw [← HO.out.2]
              clear hown hown2
              go_wp2
              go_ret
              exact ⟨by rw [← HT.out]; rfl, HF.out⟩
          by_cases h35 : d q = 35
          · have HNC : Hid (¬ cont d n fl par p) := fun hc => by have := hc.2.2.2.1; rw [HE.out] at this; exact this h35
            have HA : Hid (Calls Try.prog 27 #[.pointer (some ⟨g, 0, none⟩), .int .i64 0] wr fun e w' => e = .returned (.int .u8 35) ∧ w' = wr) := by rw [h35] at HA0; exact HA0
            clear HA0
            go_wp2_with fail
            refine HA.out.mono ?_; rintro e w' ⟨rfl, hww⟩; obtain rfl := hww.symm
            go_wp2_with fail
            refine HA.out.mono ?_; rintro e w' ⟨rfl, hww⟩; obtain rfl := hww.symm
            have HO : Hid (E = p ∧ t = fs d s E) := HPL.out.1.out HNC.out
            have HZ : Hid (Rd (((wr).setCell ⟨g, 1, none⟩ (.int .i64 p)).setCell ⟨g, 2, none⟩ (.int .i64 l')) g ad n p l' dep ∧ But g wo (((wr).setCell ⟨g, 1, none⟩ (.int .i64 p)).setCell ⟨g, 2, none⟩ (.int .i64 l'))) := ⟨((HRi.out.1).set1 _).set2 _, ((HRi.out.2).setCell 1 _).setCell 2 _⟩
            have HF : Hid (Rd (((wr).setCell ⟨g, 1, none⟩ (.int .i64 p)).setCell ⟨g, 2, none⟩ (.int .i64 l')) g ad n E (ln d l s E) dep ∧ Below g w (((wr).setCell ⟨g, 1, none⟩ (.int .i64 p)).setCell ⟨g, 2, none⟩ (.int .i64 l'))) := by
              have e1 := HPL.out.2
              have e2 := HO.out.1
              subst e2
              rw [← e1]
              exact ⟨HZ.out.1, HW.out.2.trans HZ.out.2.below⟩
            rcases HBV.out with ⟨rfl, ht⟩ | ⟨hown, htp⟩
            · have hsn : s < n := by omega
              · obtain ⟨b, off, rfl, hbg, _⟩ := HB.out s hsn
                have hconv : (convert 22 9 (.slice (some ⟨b, off + s, none⟩) (p - s) (n - s))).run Try.prog (((wr).setCell ⟨g, 1, none⟩ (.int .i64 p)).setCell ⟨g, 2, none⟩ (.int .i64 l')) = .ok (.string (strOf (seg d s p))) (((wr).setCell ⟨g, 1, none⟩ (.int .i64 p)).setCell ⟨g, 2, none⟩ (.int .i64 l')) := by
                  have := conv_by (HBy.out.below HZ.out.2.below) s p hsp hpn
                  rw [if_neg (by omega), Option.map_some, Nat.mul_one, add_none] at this
                  exact this
                have hns : ¬ n = s := by omega
                have HT : Hid (strOf (seg d s p) = strOf (fs d s E)) := by unfold Hid; rw [← ht, HO.out.2]
                clear ht
                go_wp2
                go_ret
                exact ⟨by rw [← HT.out]; rfl, HF.out⟩
            · have hown2 := hown
              obtain ⟨k, cap, rfl, _, _⟩ := World.ownsRow.form hown htp
              have hconv : (convert 22 9 (.slice (some ⟨k, 0, none⟩) t.length cap)).run Try.prog (((wr).setCell ⟨g, 1, none⟩ (.int .i64 p)).setCell ⟨g, 2, none⟩ (.int .i64 l')) = .ok (.string (strOf t)) (((wr).setCell ⟨g, 1, none⟩ (.int .i64 p)).setCell ⟨g, 2, none⟩ (.int .i64 l')) := conv_own (Own.but hown2 HZ.out.2 hgB.out)
              have HT : Hid (strOf t = strOf (fs d s E)) := by unfold Hid; rw [← HO.out.2]
              clear hown hown2
              go_wp2
              go_ret
              exact ⟨by rw [← HT.out]; rfl, HF.out⟩
          have e0 : (d q == 0) = false := beq_eq_false_iff_ne.2 h0
          have e35 : (d q == 35) = false := beq_eq_false_iff_ne.2 h35
          have HA : Hid (Calls Try.prog 27 #[.pointer (some ⟨g, 0, none⟩), .int .i64 0] wr fun e w' => e = .returned (.int .u8 (d q)) ∧ w' = wr) := HA0
          clear HA0
          obtain ⟨st, hst⟩ : ∃ st, st = stopAt d n fl q := ⟨_, rfl⟩
          have HS : Hid (Calls Try.prog 28 #[.pointer (some ⟨g, 0, none⟩), .bool fl] wr fun e w' => e = .returned (.bool st) ∧ w' = wr) := by rw [hst]; exact stops_any g ad n q _ dep d fl wr hqe hn HRi.out.1 HByi.out
          have HSt : Hid (stopAt d n fl q = st) := hst.symm
          clear hst
          cases st
          · by_cases hnlp : 0 < nl d p q
            · have hnli : (0 : Int) < (nl d p q : Int) := by omega
              have HL : Hid (ln d l' p q = ln d 0 p q) := ln_any d l' 0 p q hnlp
              have HCol : Hid (Calls Try.prog 29 #[.pointer (some ⟨g, 0, none⟩)] wr fun e w' => e = .returned (.int .i64 ((q : Int) - ln d l' p q)) ∧ ∃ m, w' = wr.drewN m) := by
                have hb := ln_bound d p q
                rw [← HL.out] at hb
                exact col_any g ad n q (ln d l' p q) dep wr hb.1 hb.2 (by omega) HRi.out.1
              by_cases hpar : (q : Int) - ln d l' p q ≤ par
              · have HNC : Hid (¬ cont d n fl par p) := fun hc => by have := hc.2.2.2.2; rw [HE.out, ← HL.out] at this; exact this ⟨hnlp, hpar⟩
                go_wp2_with fail
                refine HA.out.mono ?_; rintro e w' ⟨rfl, hww⟩; obtain rfl := hww.symm
                go_wp2_with fail
                refine HA.out.mono ?_; rintro e w' ⟨rfl, hww⟩; obtain rfl := hww.symm
                go_wp2_with fail
                refine HS.out.mono ?_; rintro e w' ⟨rfl, hww⟩; obtain rfl := hww.symm
                go_wp2_with fail
                refine HCol.out.mono ?_
                rintro e wx ⟨rfl, md, hww⟩
                have HX0 := And.intro (HRi.out.1.drewN md) (HRi.out.2.drewN md)
                rw [← hww] at HX0
                have HX : Hid _ := HX0
                clear hww HX0
                have xc0 := HX.out.1.c0
                have xc1 := HX.out.1.c1
                have xc2 := HX.out.1.c2
                have xf1 := HX.out.1.fr 1
                have xf2 := HX.out.1.fr 2

                have HO : Hid (E = p ∧ t = fs d s E) := HPL.out.1.out HNC.out
                have HZ : Hid (Rd (((wx).setCell ⟨g, 1, none⟩ (.int .i64 p)).setCell ⟨g, 2, none⟩ (.int .i64 l')) g ad n p l' dep ∧ But g wo (((wx).setCell ⟨g, 1, none⟩ (.int .i64 p)).setCell ⟨g, 2, none⟩ (.int .i64 l'))) := ⟨((HX.out.1).set1 _).set2 _, ((HX.out.2).setCell 1 _).setCell 2 _⟩
                have HF : Hid (Rd (((wx).setCell ⟨g, 1, none⟩ (.int .i64 p)).setCell ⟨g, 2, none⟩ (.int .i64 l')) g ad n E (ln d l s E) dep ∧ Below g w (((wx).setCell ⟨g, 1, none⟩ (.int .i64 p)).setCell ⟨g, 2, none⟩ (.int .i64 l'))) := by
                  have e1 := HPL.out.2
                  have e2 := HO.out.1
                  subst e2
                  rw [← e1]
                  exact ⟨HZ.out.1, HW.out.2.trans HZ.out.2.below⟩
                rcases HBV.out with ⟨rfl, ht⟩ | ⟨hown, htp⟩
                · have hsn : s < n := by omega
                  · obtain ⟨b, off, rfl, hbg, _⟩ := HB.out s hsn
                    have hconv : (convert 22 9 (.slice (some ⟨b, off + s, none⟩) (p - s) (n - s))).run Try.prog (((wx).setCell ⟨g, 1, none⟩ (.int .i64 p)).setCell ⟨g, 2, none⟩ (.int .i64 l')) = .ok (.string (strOf (seg d s p))) (((wx).setCell ⟨g, 1, none⟩ (.int .i64 p)).setCell ⟨g, 2, none⟩ (.int .i64 l')) := by
                      have := conv_by (HBy.out.below HZ.out.2.below) s p hsp hpn
                      rw [if_neg (by omega), Option.map_some, Nat.mul_one, add_none] at this
                      exact this
                    have hns : ¬ n = s := by omega
                    have HT : Hid (strOf (seg d s p) = strOf (fs d s E)) := by unfold Hid; rw [← ht, HO.out.2]
                    clear ht
                    go_wp2
                    go_ret
                    exact ⟨by rw [← HT.out]; rfl, HF.out⟩
                · have hown2 := hown
                  obtain ⟨k, cap, rfl, _, _⟩ := World.ownsRow.form hown htp
                  have hconv : (convert 22 9 (.slice (some ⟨k, 0, none⟩) t.length cap)).run Try.prog (((wx).setCell ⟨g, 1, none⟩ (.int .i64 p)).setCell ⟨g, 2, none⟩ (.int .i64 l')) = .ok (.string (strOf t)) (((wx).setCell ⟨g, 1, none⟩ (.int .i64 p)).setCell ⟨g, 2, none⟩ (.int .i64 l')) := conv_own (Own.but hown2 HZ.out.2 hgB.out)
                  have HT : Hid (strOf t = strOf (fs d s E)) := by unfold Hid; rw [← HO.out.2]
                  clear hown hown2
                  go_wp2
                  go_ret
                  exact ⟨by rw [← HT.out]; rfl, HF.out⟩
              · have HC : Hid (cont d n fl par p) := by
                  unfold Hid cont
                  rw [HE.out, ← HL.out]
                  exact ⟨hqe, HSt.out, h0, h35, fun a => hpar a.2⟩
                obtain ⟨r, hr⟩ : ∃ r, r = wordEnd d n fl q := ⟨_, rfl⟩
                have HRr : Hid (r = wordEnd d n fl q) := hr
                have HN : Hid (PL d n fl par s E r ((t ++ gapText d p q) ++ seg d q r) ∧ p < r) := by
                  have := HPL.out.1.step HC.out
                  rw [HE.out, ← hr] at this
                  exact this
                have hqr : q < r := by
                  have := cont_grows HC.out hpn
                  rw [HE.out, ← hr] at this
                  exact this
                have hrn0 : r ≤ n := HN.out.1.2.1
                have hpq2 : p < q := by
                  have := HPL.out.1.gap HC.out
                  rw [HE.out] at this
                  exact this
                have HL1 : Hid ((t ++ gapText d p q).length + (r - q) ≤ maxLen ∧ ((t ++ gapText d p q).length + (r - q)) * 1 ≤ 140737488355328) := by
                  have := HN.out.1.2.2.2.2.1
                  rw [List.length_append, seg_length] at this
                  unfold Hid maxLen
                  omega
                clear hr
                obtain ⟨b, off, rfl, hbg, _⟩ := HB.out s (by omega)
                rcases HBV.out with ⟨rfl, ht⟩ | ⟨hown, htp⟩
                · have HT0 : Hid (t = seg d s p) := ht
                  clear ht
                  go_wp2_with fail
                  refine HA.out.mono ?_; rintro e w' ⟨rfl, hww⟩; obtain rfl := hww.symm
                  go_wp2_with fail
                  refine HA.out.mono ?_; rintro e w' ⟨rfl, hww⟩; obtain rfl := hww.symm
                  go_wp2_with fail
                  refine HS.out.mono ?_; rintro e w' ⟨rfl, hww⟩; obtain rfl := hww.symm
                  go_wp2_with fail
                  refine HCol.out.mono ?_
                  rintro e wx ⟨rfl, md, hww⟩
                  have HX0 := And.intro (HRi.out.1.drewN md) (HRi.out.2.drewN md)
                  rw [← hww] at HX0
                  have HX : Hid _ := HX0
                  clear hww HX0
                  have HRX : Hid (Rd (wx) g (some ⟨b, off, none⟩) n q (ln d l' p q) dep) := HX.out.1
                  have HBX : Hid (But g wo (wx)) := HX.out.2
                  have HSX : Hid (Own (wx) w.heap.size (.slice none 0 0) [] ∧ w.heap.size ≤ (wx).heap.size ∧ Rd (wx) g (some ⟨b, off, none⟩) n q (ln d l' p q) dep ∧ Below g w (wx) ∧ By (wx) g (some ⟨b, off, none⟩) n d 0) := ⟨World.ownsRow_nil _ _ _ _, Nat.le_trans HW.out.2.size (by have := HBX.out.size; omega), HRX.out, HW.out.2.trans HBX.out.below, HBy.out.below HBX.out.below⟩
                  obtain ⟨Z, hZ⟩ : ∃ Z, Z = madeCells (Value.int .u8 0).cells (2 * (p - s)) := ⟨_, rfl⟩
                  have hmk : ∀ ww : World, (Instr.makeSlice 22 (.int .i64 0) (.int .i64 (2 * ((p : Int) - (s : Int))))).run Try.prog ww = .ok (.slice (some ⟨ww.heap.size, 0, none⟩) 0 (2 * (p - s))) (ww.alloc (.cells Z 5)) := by
                    intro ww
                    have h1 := run_make (P := Try.prog) ww 22 5 i5 _ Try.underlying22 hi hz0 .i64 .i64 0 (2 * ((p : Int) - (s : Int))) (by omega) (by omega) (by rw [hz2]; omega) (by omega)
                    rw [h1, hz1, Nat.mul_one, show (2 * ((p : Int) - (s : Int))).toNat = 2 * (p - s) by omega, ← hZ]
                    rfl
                  have HSA : Hid (St w g (some ⟨b, off, none⟩) n dep d ((wx).alloc (.cells Z 5)).drew (.slice (some ⟨(wx).heap.size, 0, none⟩) 0 (2 * (p - s))) [] q (ln d l' p q)) := by
                    have h1 : St w g (some ⟨b, off, none⟩) n dep d (wx) (.slice none 0 0) [] q (ln d l' p q) := ⟨HSX.out.1, HSX.out.2.2.1, HSX.out.2.2.2.1, HSX.out.2.2.2.2⟩
                    have h2 := h1.alloc hgB.out (.cells Z 5)
                    have h3 : St w g (some ⟨b, off, none⟩) n dep d ((wx).alloc (.cells Z 5)) (.slice (some ⟨(wx).heap.size, 0, none⟩) 0 (2 * (p - s))) [] q (ln d l' p q) := ⟨World.ownsRow_made _ Z _ HSX.out.2.1 (by unfold maxLen; omega) (by rw [hZ, size_madeCells, Nat.mul_one]), h2.2⟩
                    exact h3.drew
                  clear hZ
                  have hw1 : IntKind.i64.wrap ((p : Int) - (s : Int)) = (p : Int) - (s : Int) := by rw [IntKind.wrap_i64]; omega
                  have hw2 : IntKind.i64.wrap (2 * ((p : Int) - (s : Int))) = 2 * ((p : Int) - (s : Int)) := by rw [IntKind.wrap_i64]; omega
                  have c0x := HSX.out.2.2.1.c0
                  have c0y := HSA.out.2.1.c0
                  have hsp' : (s : Int) ≤ (p : Int) := by omega
                  have hpn' : (p : Int) ≤ (n : Int) := by omega
                  have hns : ¬ n = s := by omega
                  have HL3 : Hid (([] : List Int).length + (p - s) ≤ maxLen ∧ (([] : List Int).length + (p - s)) * 1 ≤ 140737488355328) := by unfold Hid maxLen; simp; omega
                  go_wp2_with fail
                  go_region_held3 (fun w' => w'.cell? ⟨g, 0, none⟩ = some (.slice (some ⟨b, off, none⟩) n n))
                    (first | with_reducible assumption | (rw [cell_drew]; with_reducible assumption))
                    (first
                      | (refine step_append_own (P := Try.prog) (((wx).alloc (.cells Z 5)).drew) ?h1xa1 (.tmp 86) (.tmp 93) 22 ?h1xa2 w.heap.size 5 i5 (Value.int .u8 0) 1 1 Try.underlying22 hi hz0 hz1 hz2 (by rfl) (by decide) (Value.slice (some ⟨(wx).heap.size, 0, none⟩) 0 (2 * (p - s))) (([] : List Int)).length (List.map (Value.int .u8) (([] : List Int))) ?h1xa6 HSA.out.1 ⟨b, off + s, none⟩ (p - s) (n - s) (List.map (Value.int .u8) (seg d s p)) ?h1xa8 (by rw [List.length_map, seg_length, Nat.mul_one]) (HSA.out.2.2.2.cut s p hpn) (ints_one _) HL3.out.1 HL3.out.2 HSA.out.base ?h1xa15; (case h1xa1 => rfl); (case h1xa2 => rfl); (case h1xa6 => rfl); (case h1xa8 => rfl); intro v3 w3 hown4 hgrow4; have HSAn : Hid (St w g (some ⟨b, off, none⟩) n dep d w3 v3 ((([] : List Int)) ++ seg d s p) q (ln d l' p q)) := St.far (Y := ((wx).alloc (.cells Z 5)).drew) HSA.out hgB.out (by rw [seg_length]) hown4 hgrow4; have c0n := HSAn.out.2.1.c0; have c1n := HSAn.out.2.1.c1; clear hown4 hgrow4))
                  have HStX : Hid (St w g (some ⟨b, off, none⟩) n dep d w3 v3 t q (ln d l' p q)) := by have h := HSAn.out; rw [List.nil_append, ← HT0.out] at h; exact h
                  clear hw1 hw2 HSAn HSA HSX c0x c0y c0n c1n hmk
                  by_cases k1 : nl d p q = 1
                  · have HT : Hid (gapText d p q = [32]) := gapText1 rfl k1
                    have HL0 : Hid (t.length + 1 ≤ maxLen ∧ (t.length + 1) * 1 ≤ 140737488355328) := by unfold Hid maxLen; omega
                    have HBs : Hid (w.heap.size ≤ (w3).heap.size + 1) := Nat.le_succ_of_le HStX.out.base
                    go_wp2_with (at_builtin; refine wpList_append_own _ rfl _ _ 22 rfl w.heap.size 5 i5 _ 1 1 Try.underlying22 hi hz0 hz1 hz2 rfl (by decide) _ t.length (t.map (Value.int .u8)) rfl (World.ownsRow.alloc HStX.out.1 _) ⟨(w3).heap.size, 0, none⟩ 1 1 (List.map (Value.int .u8) [32]) rfl rfl (cell_one_new _ _ _) (ints_one _) HL0.out.1 HL0.out.2 (by have := HBs.out; simpa using this) ?_; intro v4 w4 hown4 hgrow4 hnil4; have HStXn : Hid (St w g (some ⟨b, off, none⟩) n dep d w4 v4 (t ++ [(32 : Int)]) q (ln d l' p q)) := St.far (HStX.out.alloc hgB.out _) hgB.out rfl hown4 hgrow4; have y1 := HStXn.out.2.1.c1; clear hown4 hgrow4 hnil4)
                    refine (word_any g _ n q _ dep d fl _ hqn hn HStXn.out.2.1 HStXn.out.2.2.2).mono ?_
                    rintro e w5 ⟨rfl, hrd5, hbut5⟩
                    have H5 : Hid (St w g (some ⟨b, off, none⟩) n dep d w5 (v4) (t ++ [(32 : Int)]) r (ln d l' p q)) := HStXn.out.but hgB.out hbut5 (by rw [HRr.out]; exact hrd5)
                    clear hrd5 hbut5 y1
                    have z0 := H5.out.2.1.c0
                    have z1 := H5.out.2.1.c1
                    have hrn : (r : Int) ≤ (n : Int) := by omega
                    have hqr' : (q : Int) ≤ (r : Int) := by omega
                    have hnq : ¬ n = q := by omega
                    have HL2 : Hid ((t ++ [(32 : Int)]).length + (r - q) ≤ maxLen ∧ ((t ++ [(32 : Int)]).length + (r - q)) * 1 ≤ 140737488355328) := by have h := HL1.out; rw [HT.out] at h; exact h
                    go_wp2_with fail
                    go_region_held3 (fun w' => w'.cell? ⟨g, 0, none⟩ = some (.slice (some ⟨b, off, none⟩) n n) ∧ w'.cell? ⟨g, 1, none⟩ = some (.int .i64 r))
                      (first | exact ⟨by first | with_reducible assumption | (rw [cell_drew]; with_reducible assumption), by first | with_reducible assumption | (rw [cell_drew]; with_reducible assumption)⟩)
                      (first
                        | (refine step_append_own (P := Try.prog) (w5.drew) ?h2xa1 (.tmp 126) (.tmp 136) 22 ?h2xa2 w.heap.size 5 i5 (Value.int .u8 0) 1 1 Try.underlying22 hi hz0 hz1 hz2 (by rfl) (by decide) (v4) (t ++ [(32 : Int)]).length (List.map (Value.int .u8) (t ++ [(32 : Int)])) ?h2xa6 H5.out.1 ⟨b, off + q, none⟩ (r - q) (n - q) (List.map (Value.int .u8) (seg d q r)) ?h2xa8 (by rw [List.length_map, seg_length, Nat.mul_one]) (H5.out.2.2.2.cut q r hrn0) (ints_one _) HL2.out.1 HL2.out.2 H5.out.base ?h2xa15; (case h2xa1 => rfl); (case h2xa2 => rfl); (case h2xa6 => rfl); (case h2xa8 => rfl); intro v6 w6 hown4 hgrow4; have H5n : Hid (St w g (some ⟨b, off, none⟩) n dep d w6 v6 ((t ++ [(32 : Int)]) ++ seg d q r) r (ln d l' p q)) := St.far (Y := w5.drew) H5.out.drew hgB.out (by rw [seg_length]) hown4 hgrow4; have c0n := H5n.out.2.1.c0; have c1n := H5n.out.2.1.c1; clear hown4 hgrow4))
                    clear z0 z1 c0n c1n
                    have x1 := H5n.out.2.1.c1
                    have x2 := H5n.out.2.1.c2
                    go_wp2_with fail
                    go_quiet (fail)
                    go_wp2
                    refine ⟨⟨r, ln d l' p q, (t ++ [(32 : Int)]) ++ seg d q r, rfl, rfl, by have := HN.out.1; rw [HT.out] at this; exact this, ?_, .inr ⟨(H5n.out.drewN _).1, by rw [List.length_append, seg_length]; omega⟩, (H5n.out.drewN _).2.1, (H5n.out.drewN _).2.2.1⟩, ?_⟩
                    · rw [HPL.out.2, ln_cat d l s p q hsp (by omega), HRr.out, ln_word l (by omega) hqn]
                    · simp [intOf]; omega
                  · have HT : Hid (gapText d p q = List.replicate (nl d p q - 1) 10) := gapText2 rfl (by omega)
                    have n0 : ((nl d p q : Int) == 0) = false := beq_eq_false_iff_ne.2 (by omega)
                    have n1 : ((nl d p q : Int) == 1) = false := beq_eq_false_iff_ne.2 (by omega)
                    have HCb : Hid (Calls Try.prog 30 #[v3, .int .i64 ((nl d p q : Int) - 1)] (w3) fun e w' => ∃ v', e = .returned v' ∧ Own w' w.heap.size v' (t ++ List.replicate (nl d p q - 1) 10) ∧ Below w.heap.size (w3) w') := by
                      have := breaks_any w.heap.size (v3) t (nl d p q - 1) (w3) HStX.out.base (by omega) HStX.out.1
                      rw [show ((nl d p q - 1 : Nat) : Int) = (nl d p q : Int) - 1 by omega] at this
                      exact this
                    go_wp2_with fail
                    refine HCb.out.mono ?_
                    rintro e w4 ⟨v4, rfl, hown4, hbel4⟩
                    have HStXn : Hid (St w g (some ⟨b, off, none⟩) n dep d w4 v4 (t ++ List.replicate (nl d p q - 1) 10) q (ln d l' p q)) := ⟨hown4, HStX.out.2.1.below hbel4 hgB.out, HStX.out.2.2.1.trans (hbel4.mono (Nat.le_of_lt hgB.out)), HStX.out.2.2.2.below (hbel4.mono (Nat.le_of_lt hgB.out))⟩
                    clear hown4 hbel4
                    have y1 := HStXn.out.2.1.c1
                    go_wp2_with fail
                    refine (word_any g _ n q _ dep d fl _ hqn hn HStXn.out.2.1 HStXn.out.2.2.2).mono ?_
                    rintro e w5 ⟨rfl, hrd5, hbut5⟩
                    have H5 : Hid (St w g (some ⟨b, off, none⟩) n dep d w5 (v4) (t ++ List.replicate (nl d p q - 1) (10 : Int)) r (ln d l' p q)) := HStXn.out.but hgB.out hbut5 (by rw [HRr.out]; exact hrd5)
                    clear hrd5 hbut5 y1
                    have z0 := H5.out.2.1.c0
                    have z1 := H5.out.2.1.c1
                    have hrn : (r : Int) ≤ (n : Int) := by omega
                    have hqr' : (q : Int) ≤ (r : Int) := by omega
                    have hnq : ¬ n = q := by omega
                    have HL2 : Hid ((t ++ List.replicate (nl d p q - 1) (10 : Int)).length + (r - q) ≤ maxLen ∧ ((t ++ List.replicate (nl d p q - 1) (10 : Int)).length + (r - q)) * 1 ≤ 140737488355328) := by have h := HL1.out; rw [HT.out] at h; exact h
                    go_wp2_with fail
                    go_region_held3 (fun w' => w'.cell? ⟨g, 0, none⟩ = some (.slice (some ⟨b, off, none⟩) n n) ∧ w'.cell? ⟨g, 1, none⟩ = some (.int .i64 r))
                      (first | exact ⟨by first | with_reducible assumption | (rw [cell_drew]; with_reducible assumption), by first | with_reducible assumption | (rw [cell_drew]; with_reducible assumption)⟩)
                      (first
                        | (refine step_append_own (P := Try.prog) (w5.drew) ?h3xa1 (.tmp 126) (.tmp 136) 22 ?h3xa2 w.heap.size 5 i5 (Value.int .u8 0) 1 1 Try.underlying22 hi hz0 hz1 hz2 (by rfl) (by decide) (v4) (t ++ List.replicate (nl d p q - 1) (10 : Int)).length (List.map (Value.int .u8) (t ++ List.replicate (nl d p q - 1) (10 : Int))) ?h3xa6 H5.out.1 ⟨b, off + q, none⟩ (r - q) (n - q) (List.map (Value.int .u8) (seg d q r)) ?h3xa8 (by rw [List.length_map, seg_length, Nat.mul_one]) (H5.out.2.2.2.cut q r hrn0) (ints_one _) HL2.out.1 HL2.out.2 H5.out.base ?h3xa15; (case h3xa1 => rfl); (case h3xa2 => rfl); (case h3xa6 => rfl); (case h3xa8 => rfl); intro v6 w6 hown4 hgrow4; have H5n : Hid (St w g (some ⟨b, off, none⟩) n dep d w6 v6 ((t ++ List.replicate (nl d p q - 1) (10 : Int)) ++ seg d q r) r (ln d l' p q)) := St.far (Y := w5.drew) H5.out.drew hgB.out (by rw [seg_length]) hown4 hgrow4; have c0n := H5n.out.2.1.c0; have c1n := H5n.out.2.1.c1; clear hown4 hgrow4))
                    clear z0 z1 c0n c1n
                    have x1 := H5n.out.2.1.c1
                    have x2 := H5n.out.2.1.c2
                    go_wp2_with fail
                    go_quiet (fail)
                    go_wp2
                    refine ⟨⟨r, ln d l' p q, (t ++ List.replicate (nl d p q - 1) (10 : Int)) ++ seg d q r, rfl, rfl, by have := HN.out.1; rw [HT.out] at this; exact this, ?_, .inr ⟨(H5n.out.drewN _).1, by rw [List.length_append, seg_length]; omega⟩, (H5n.out.drewN _).2.1, (H5n.out.drewN _).2.2.1⟩, ?_⟩
                    · rw [HPL.out.2, ln_cat d l s p q hsp (by omega), HRr.out, ln_word l (by omega) hqn]
                    · simp [intOf]; omega
                · have hown2 := hown
                  obtain ⟨k, cap, rfl, _, _⟩ := World.ownsRow.form hown htp
                  have HSt0 : Hid (∀ X, But g wo X → Rd X g (some ⟨b, off, none⟩) n q (ln d l' p q) dep → St w g (some ⟨b, off, none⟩) n dep d X (.slice (some ⟨k, 0, none⟩) t.length cap) t q (ln d l' p q)) := fun X hb hr => ⟨hown2.but hb hgB.out, hr, HW.out.2.trans hb.below, HBy.out.below hb.below⟩
                  clear hown hown2
                  go_wp2_with fail
                  refine HA.out.mono ?_; rintro e w' ⟨rfl, hww⟩; obtain rfl := hww.symm
                  go_wp2_with fail
                  refine HA.out.mono ?_; rintro e w' ⟨rfl, hww⟩; obtain rfl := hww.symm
                  go_wp2_with fail
                  refine HS.out.mono ?_; rintro e w' ⟨rfl, hww⟩; obtain rfl := hww.symm
                  go_wp2_with fail
                  refine HCol.out.mono ?_
                  rintro e wx ⟨rfl, md, hww⟩
                  have HX0 := And.intro (HRi.out.1.drewN md) (HRi.out.2.drewN md)
                  rw [← hww] at HX0
                  have HX : Hid _ := HX0
                  clear hww HX0
                  have HStX : Hid (St w g (some ⟨b, off, none⟩) n dep d (wx) (.slice (some ⟨k, 0, none⟩) t.length cap) t q (ln d l' p q)) := HSt0.out _ HX.out.2 HX.out.1
                  clear HSt0
                  by_cases k1 : nl d p q = 1
                  · have HT : Hid (gapText d p q = [32]) := gapText1 rfl k1
                    have HL0 : Hid (t.length + 1 ≤ maxLen ∧ (t.length + 1) * 1 ≤ 140737488355328) := by unfold Hid maxLen; omega
                    have HBs : Hid (w.heap.size ≤ (wx).heap.size + 1) := Nat.le_succ_of_le HStX.out.base
                    go_wp2_with (at_builtin; refine wpList_append_own _ rfl _ _ 22 rfl w.heap.size 5 i5 _ 1 1 Try.underlying22 hi hz0 hz1 hz2 rfl (by decide) _ t.length (t.map (Value.int .u8)) rfl (World.ownsRow.alloc HStX.out.1 _) ⟨(wx).heap.size, 0, none⟩ 1 1 (List.map (Value.int .u8) [32]) rfl rfl (cell_one_new _ _ _) (ints_one _) HL0.out.1 HL0.out.2 (by have := HBs.out; simpa using this) ?_; intro v4 w4 hown4 hgrow4 hnil4; have HStXn : Hid (St w g (some ⟨b, off, none⟩) n dep d w4 v4 (t ++ [(32 : Int)]) q (ln d l' p q)) := St.far (HStX.out.alloc hgB.out _) hgB.out rfl hown4 hgrow4; have y1 := HStXn.out.2.1.c1; clear hown4 hgrow4 hnil4)
                    refine (word_any g _ n q _ dep d fl _ hqn hn HStXn.out.2.1 HStXn.out.2.2.2).mono ?_
                    rintro e w5 ⟨rfl, hrd5, hbut5⟩
                    have H5 : Hid (St w g (some ⟨b, off, none⟩) n dep d w5 (v4) (t ++ [(32 : Int)]) r (ln d l' p q)) := HStXn.out.but hgB.out hbut5 (by rw [HRr.out]; exact hrd5)
                    clear hrd5 hbut5 y1
                    have z0 := H5.out.2.1.c0
                    have z1 := H5.out.2.1.c1
                    have hrn : (r : Int) ≤ (n : Int) := by omega
                    have hqr' : (q : Int) ≤ (r : Int) := by omega
                    have hnq : ¬ n = q := by omega
                    have HL2 : Hid ((t ++ [(32 : Int)]).length + (r - q) ≤ maxLen ∧ ((t ++ [(32 : Int)]).length + (r - q)) * 1 ≤ 140737488355328) := by have h := HL1.out; rw [HT.out] at h; exact h
                    go_wp2_with fail
                    go_region_held3 (fun w' => w'.cell? ⟨g, 0, none⟩ = some (.slice (some ⟨b, off, none⟩) n n) ∧ w'.cell? ⟨g, 1, none⟩ = some (.int .i64 r))
                      (first | exact ⟨by first | with_reducible assumption | (rw [cell_drew]; with_reducible assumption), by first | with_reducible assumption | (rw [cell_drew]; with_reducible assumption)⟩)
                      (first
                        | (refine step_append_own (P := Try.prog) (w5.drew) ?h4xa1 (.tmp 126) (.tmp 136) 22 ?h4xa2 w.heap.size 5 i5 (Value.int .u8 0) 1 1 Try.underlying22 hi hz0 hz1 hz2 (by rfl) (by decide) (v4) (t ++ [(32 : Int)]).length (List.map (Value.int .u8) (t ++ [(32 : Int)])) ?h4xa6 H5.out.1 ⟨b, off + q, none⟩ (r - q) (n - q) (List.map (Value.int .u8) (seg d q r)) ?h4xa8 (by rw [List.length_map, seg_length, Nat.mul_one]) (H5.out.2.2.2.cut q r hrn0) (ints_one _) HL2.out.1 HL2.out.2 H5.out.base ?h4xa15; (case h4xa1 => rfl); (case h4xa2 => rfl); (case h4xa6 => rfl); (case h4xa8 => rfl); intro v6 w6 hown4 hgrow4; have H5n : Hid (St w g (some ⟨b, off, none⟩) n dep d w6 v6 ((t ++ [(32 : Int)]) ++ seg d q r) r (ln d l' p q)) := St.far (Y := w5.drew) H5.out.drew hgB.out (by rw [seg_length]) hown4 hgrow4; have c0n := H5n.out.2.1.c0; have c1n := H5n.out.2.1.c1; clear hown4 hgrow4))
                    clear z0 z1 c0n c1n
                    have x1 := H5n.out.2.1.c1
                    have x2 := H5n.out.2.1.c2
                    go_wp2_with fail
                    go_quiet (fail)
                    go_wp2
                    refine ⟨⟨r, ln d l' p q, (t ++ [(32 : Int)]) ++ seg d q r, rfl, rfl, by have := HN.out.1; rw [HT.out] at this; exact this, ?_, .inr ⟨(H5n.out.drewN _).1, by rw [List.length_append, seg_length]; omega⟩, (H5n.out.drewN _).2.1, (H5n.out.drewN _).2.2.1⟩, ?_⟩
                    · rw [HPL.out.2, ln_cat d l s p q hsp (by omega), HRr.out, ln_word l (by omega) hqn]
                    · simp [intOf]; omega
                  · have HT : Hid (gapText d p q = List.replicate (nl d p q - 1) 10) := gapText2 rfl (by omega)
                    have n0 : ((nl d p q : Int) == 0) = false := beq_eq_false_iff_ne.2 (by omega)
                    have n1 : ((nl d p q : Int) == 1) = false := beq_eq_false_iff_ne.2 (by omega)
                    have HCb : Hid (Calls Try.prog 30 #[Value.slice (some ⟨k, 0, none⟩) t.length cap, .int .i64 ((nl d p q : Int) - 1)] (wx) fun e w' => ∃ v', e = .returned v' ∧ Own w' w.heap.size v' (t ++ List.replicate (nl d p q - 1) 10) ∧ Below w.heap.size (wx) w') := by
                      have := breaks_any w.heap.size (Value.slice (some ⟨k, 0, none⟩) t.length cap) t (nl d p q - 1) (wx) HStX.out.base (by omega) HStX.out.1
                      rw [show ((nl d p q - 1 : Nat) : Int) = (nl d p q : Int) - 1 by omega] at this
                      exact this
                    go_wp2_with fail
                    refine HCb.out.mono ?_
                    rintro e w4 ⟨v4, rfl, hown4, hbel4⟩
                    have HStXn : Hid (St w g (some ⟨b, off, none⟩) n dep d w4 v4 (t ++ List.replicate (nl d p q - 1) 10) q (ln d l' p q)) := ⟨hown4, HStX.out.2.1.below hbel4 hgB.out, HStX.out.2.2.1.trans (hbel4.mono (Nat.le_of_lt hgB.out)), HStX.out.2.2.2.below (hbel4.mono (Nat.le_of_lt hgB.out))⟩
                    clear hown4 hbel4
                    have y1 := HStXn.out.2.1.c1
                    go_wp2_with fail
                    refine (word_any g _ n q _ dep d fl _ hqn hn HStXn.out.2.1 HStXn.out.2.2.2).mono ?_
                    rintro e w5 ⟨rfl, hrd5, hbut5⟩
                    have H5 : Hid (St w g (some ⟨b, off, none⟩) n dep d w5 (v4) (t ++ List.replicate (nl d p q - 1) (10 : Int)) r (ln d l' p q)) := HStXn.out.but hgB.out hbut5 (by rw [HRr.out]; exact hrd5)
                    clear hrd5 hbut5 y1
                    have z0 := H5.out.2.1.c0
                    have z1 := H5.out.2.1.c1
                    have hrn : (r : Int) ≤ (n : Int) := by omega
                    have hqr' : (q : Int) ≤ (r : Int) := by omega
                    have hnq : ¬ n = q := by omega
                    have HL2 : Hid ((t ++ List.replicate (nl d p q - 1) (10 : Int)).length + (r - q) ≤ maxLen ∧ ((t ++ List.replicate (nl d p q - 1) (10 : Int)).length + (r - q)) * 1 ≤ 140737488355328) := by have h := HL1.out; rw [HT.out] at h; exact h
                    go_wp2_with fail
                    go_region_held3 (fun w' => w'.cell? ⟨g, 0, none⟩ = some (.slice (some ⟨b, off, none⟩) n n) ∧ w'.cell? ⟨g, 1, none⟩ = some (.int .i64 r))
                      (first | exact ⟨by first | with_reducible assumption | (rw [cell_drew]; with_reducible assumption), by first | with_reducible assumption | (rw [cell_drew]; with_reducible assumption)⟩)
                      (first
                        | (refine step_append_own (P := Try.prog) (w5.drew) ?h5xa1 (.tmp 126) (.tmp 136) 22 ?h5xa2 w.heap.size 5 i5 (Value.int .u8 0) 1 1 Try.underlying22 hi hz0 hz1 hz2 (by rfl) (by decide) (v4) (t ++ List.replicate (nl d p q - 1) (10 : Int)).length (List.map (Value.int .u8) (t ++ List.replicate (nl d p q - 1) (10 : Int))) ?h5xa6 H5.out.1 ⟨b, off + q, none⟩ (r - q) (n - q) (List.map (Value.int .u8) (seg d q r)) ?h5xa8 (by rw [List.length_map, seg_length, Nat.mul_one]) (H5.out.2.2.2.cut q r hrn0) (ints_one _) HL2.out.1 HL2.out.2 H5.out.base ?h5xa15; (case h5xa1 => rfl); (case h5xa2 => rfl); (case h5xa6 => rfl); (case h5xa8 => rfl); intro v6 w6 hown4 hgrow4; have H5n : Hid (St w g (some ⟨b, off, none⟩) n dep d w6 v6 ((t ++ List.replicate (nl d p q - 1) (10 : Int)) ++ seg d q r) r (ln d l' p q)) := St.far (Y := w5.drew) H5.out.drew hgB.out (by rw [seg_length]) hown4 hgrow4; have c0n := H5n.out.2.1.c0; have c1n := H5n.out.2.1.c1; clear hown4 hgrow4))
                    clear z0 z1 c0n c1n
                    have x1 := H5n.out.2.1.c1
                    have x2 := H5n.out.2.1.c2
                    go_wp2_with fail
                    go_quiet (fail)
                    go_wp2
                    refine ⟨⟨r, ln d l' p q, (t ++ List.replicate (nl d p q - 1) (10 : Int)) ++ seg d q r, rfl, rfl, by have := HN.out.1; rw [HT.out] at this; exact this, ?_, .inr ⟨(H5n.out.drewN _).1, by rw [List.length_append, seg_length]; omega⟩, (H5n.out.drewN _).2.1, (H5n.out.drewN _).2.2.1⟩, ?_⟩
                    · rw [HPL.out.2, ln_cat d l s p q hsp (by omega), HRr.out, ln_word l (by omega) hqn]
                    · simp [intOf]; omega
            · have HC : Hid (cont d n fl par p) := by
                unfold Hid cont
                rw [HE.out]
                exact ⟨hqe, HSt.out, h0, h35, fun a => hnlp a.1⟩
              obtain ⟨r, hr⟩ : ∃ r, r = wordEnd d n fl q := ⟨_, rfl⟩
              have HRr : Hid (r = wordEnd d n fl q) := hr
              have HN : Hid (PL d n fl par s E r ((t ++ gapText d p q) ++ seg d q r) ∧ p < r) := by
                have := HPL.out.1.step HC.out
                rw [HE.out, ← hr] at this
                exact this
              have hqr : q < r := by
                have := cont_grows HC.out hpn
                rw [HE.out, ← hr] at this
                exact this
              have hrn0 : r ≤ n := HN.out.1.2.1
              have hpq2 : p < q := by
                have := HPL.out.1.gap HC.out
                rw [HE.out] at this
                exact this
              have HL1 : Hid ((t ++ gapText d p q).length + (r - q) ≤ maxLen ∧ ((t ++ gapText d p q).length + (r - q)) * 1 ≤ 140737488355328) := by
                have := HN.out.1.2.2.2.2.1
                rw [List.length_append, seg_length] at this
                unfold Hid maxLen
                omega
              clear hr
              obtain ⟨b, off, rfl, hbg, _⟩ := HB.out s (by omega)
              rcases HBV.out with ⟨rfl, ht⟩ | ⟨hown, htp⟩
              · have HT0 : Hid (t = seg d s p) := ht
                clear ht
                go_wp2_with fail
                refine HA.out.mono ?_; rintro e w' ⟨rfl, hww⟩; obtain rfl := hww.symm
                go_wp2_with fail
                refine HA.out.mono ?_; rintro e w' ⟨rfl, hww⟩; obtain rfl := hww.symm
                go_wp2_with fail
                refine HS.out.mono ?_; rintro e w' ⟨rfl, hww⟩; obtain rfl := hww.symm
                have HRX : Hid (Rd (wr) g (some ⟨b, off, none⟩) n q (ln d l' p q) dep) := HRi.out.1
                have HBX : Hid (But g wo (wr)) := HRi.out.2
                have HSX : Hid (Own (wr) w.heap.size (.slice none 0 0) [] ∧ w.heap.size ≤ (wr).heap.size ∧ Rd (wr) g (some ⟨b, off, none⟩) n q (ln d l' p q) dep ∧ Below g w (wr) ∧ By (wr) g (some ⟨b, off, none⟩) n d 0) := ⟨World.ownsRow_nil _ _ _ _, Nat.le_trans HW.out.2.size (by have := HBX.out.size; omega), HRX.out, HW.out.2.trans HBX.out.below, HBy.out.below HBX.out.below⟩
                obtain ⟨Z, hZ⟩ : ∃ Z, Z = madeCells (Value.int .u8 0).cells (2 * (p - s)) := ⟨_, rfl⟩
                have hmk : ∀ ww : World, (Instr.makeSlice 22 (.int .i64 0) (.int .i64 (2 * ((p : Int) - (s : Int))))).run Try.prog ww = .ok (.slice (some ⟨ww.heap.size, 0, none⟩) 0 (2 * (p - s))) (ww.alloc (.cells Z 5)) := by
                  intro ww
                  have h1 := run_make (P := Try.prog) ww 22 5 i5 _ Try.underlying22 hi hz0 .i64 .i64 0 (2 * ((p : Int) - (s : Int))) (by omega) (by omega) (by rw [hz2]; omega) (by omega)
                  rw [h1, hz1, Nat.mul_one, show (2 * ((p : Int) - (s : Int))).toNat = 2 * (p - s) by omega, ← hZ]
                  rfl
                have HSA : Hid (St w g (some ⟨b, off, none⟩) n dep d ((wr).alloc (.cells Z 5)).drew (.slice (some ⟨(wr).heap.size, 0, none⟩) 0 (2 * (p - s))) [] q (ln d l' p q)) := by
                  have h1 : St w g (some ⟨b, off, none⟩) n dep d (wr) (.slice none 0 0) [] q (ln d l' p q) := ⟨HSX.out.1, HSX.out.2.2.1, HSX.out.2.2.2.1, HSX.out.2.2.2.2⟩
                  have h2 := h1.alloc hgB.out (.cells Z 5)
                  have h3 : St w g (some ⟨b, off, none⟩) n dep d ((wr).alloc (.cells Z 5)) (.slice (some ⟨(wr).heap.size, 0, none⟩) 0 (2 * (p - s))) [] q (ln d l' p q) := ⟨World.ownsRow_made _ Z _ HSX.out.2.1 (by unfold maxLen; omega) (by rw [hZ, size_madeCells, Nat.mul_one]), h2.2⟩
                  exact h3.drew
                clear hZ
                have hw1 : IntKind.i64.wrap ((p : Int) - (s : Int)) = (p : Int) - (s : Int) := by rw [IntKind.wrap_i64]; omega
                have hw2 : IntKind.i64.wrap (2 * ((p : Int) - (s : Int))) = 2 * ((p : Int) - (s : Int)) := by rw [IntKind.wrap_i64]; omega
                have c0x := HSX.out.2.2.1.c0
                have c0y := HSA.out.2.1.c0
                have hsp' : (s : Int) ≤ (p : Int) := by omega
                have hpn' : (p : Int) ≤ (n : Int) := by omega
                have hns : ¬ n = s := by omega
                have HL3 : Hid (([] : List Int).length + (p - s) ≤ maxLen ∧ (([] : List Int).length + (p - s)) * 1 ≤ 140737488355328) := by unfold Hid maxLen; simp; omega
                go_wp2_with fail
                go_region_held3 (fun w' => w'.cell? ⟨g, 0, none⟩ = some (.slice (some ⟨b, off, none⟩) n n))
                  (first | with_reducible assumption | (rw [cell_drew]; with_reducible assumption))
                  (first
                    | (refine step_append_own (P := Try.prog) (((wr).alloc (.cells Z 5)).drew) ?h6xa1 (.tmp 86) (.tmp 93) 22 ?h6xa2 w.heap.size 5 i5 (Value.int .u8 0) 1 1 Try.underlying22 hi hz0 hz1 hz2 (by rfl) (by decide) (Value.slice (some ⟨(wr).heap.size, 0, none⟩) 0 (2 * (p - s))) (([] : List Int)).length (List.map (Value.int .u8) (([] : List Int))) ?h6xa6 HSA.out.1 ⟨b, off + s, none⟩ (p - s) (n - s) (List.map (Value.int .u8) (seg d s p)) ?h6xa8 (by rw [List.length_map, seg_length, Nat.mul_one]) (HSA.out.2.2.2.cut s p hpn) (ints_one _) HL3.out.1 HL3.out.2 HSA.out.base ?h6xa15; (case h6xa1 => rfl); (case h6xa2 => rfl); (case h6xa6 => rfl); (case h6xa8 => rfl); intro v3 w3 hown4 hgrow4; have HSAn : Hid (St w g (some ⟨b, off, none⟩) n dep d w3 v3 ((([] : List Int)) ++ seg d s p) q (ln d l' p q)) := St.far (Y := ((wr).alloc (.cells Z 5)).drew) HSA.out hgB.out (by rw [seg_length]) hown4 hgrow4; have c0n := HSAn.out.2.1.c0; have c1n := HSAn.out.2.1.c1; clear hown4 hgrow4))
                have HStX : Hid (St w g (some ⟨b, off, none⟩) n dep d w3 v3 t q (ln d l' p q)) := by have h := HSAn.out; rw [List.nil_append, ← HT0.out] at h; exact h
                clear hw1 hw2 HSAn HSA HSX c0x c0y c0n c1n hmk
                have k0 : nl d p q = 0 := by omega
                have HT : Hid (gapText d p q = seg d p q) := gapText0 rfl k0
                have y0 := HStX.out.2.1.c0
                have y1 := HStX.out.2.1.c1
                have hqn2 : (q : Int) ≤ (n : Int) := by omega
                have hpq' : (p : Int) ≤ (q : Int) := by omega
                have hnp : ¬ n = p := by omega
                have HL0 : Hid (t.length + (q - p) ≤ maxLen ∧ (t.length + (q - p)) * 1 ≤ 140737488355328) := by unfold Hid maxLen; omega
                go_wp2_with fail
                go_region_held3 (fun w' => w'.cell? ⟨g, 0, none⟩ = some (.slice (some ⟨b, off, none⟩) n n) ∧ w'.cell? ⟨g, 1, none⟩ = some (.int .i64 q))
                  (first | exact ⟨by first | with_reducible assumption | (rw [cell_drew]; with_reducible assumption), by first | with_reducible assumption | (rw [cell_drew]; with_reducible assumption)⟩)
                  (first
                    | (refine step_append_own (P := Try.prog) (w3.drew) ?h7xa1 (.tmp 102) (.tmp 112) 22 ?h7xa2 w.heap.size 5 i5 (Value.int .u8 0) 1 1 Try.underlying22 hi hz0 hz1 hz2 (by rfl) (by decide) (v3) (t).length (List.map (Value.int .u8) (t)) ?h7xa6 HStX.out.1 ⟨b, off + p, none⟩ (q - p) (n - p) (List.map (Value.int .u8) (seg d p q)) ?h7xa8 (by rw [List.length_map, seg_length, Nat.mul_one]) (HStX.out.2.2.2.cut p q hqn) (ints_one _) HL0.out.1 HL0.out.2 HStX.out.base ?h7xa15; (case h7xa1 => rfl); (case h7xa2 => rfl); (case h7xa6 => rfl); (case h7xa8 => rfl); intro v4 w4 hown4 hgrow4; have HStXn : Hid (St w g (some ⟨b, off, none⟩) n dep d w4 v4 ((t) ++ seg d p q) q (ln d l' p q)) := St.far (Y := w3.drew) HStX.out.drew hgB.out (by rw [seg_length]) hown4 hgrow4; have c0n := HStXn.out.2.1.c0; have c1n := HStXn.out.2.1.c1; clear hown4 hgrow4))
                clear y0 y1 c0n c1n
                have y1 := HStXn.out.2.1.c1
                go_wp2_with fail
                refine (word_any g _ n q _ dep d fl _ hqn hn HStXn.out.2.1 HStXn.out.2.2.2).mono ?_
                rintro e w5 ⟨rfl, hrd5, hbut5⟩
                have H5 : Hid (St w g (some ⟨b, off, none⟩) n dep d w5 (v4) (t ++ seg d p q) r (ln d l' p q)) := HStXn.out.but hgB.out hbut5 (by rw [HRr.out]; exact hrd5)
                clear hrd5 hbut5 y1
                have z0 := H5.out.2.1.c0
                have z1 := H5.out.2.1.c1
                have hrn : (r : Int) ≤ (n : Int) := by omega
                have hqr' : (q : Int) ≤ (r : Int) := by omega
                have hnq : ¬ n = q := by omega
                have HL2 : Hid ((t ++ seg d p q).length + (r - q) ≤ maxLen ∧ ((t ++ seg d p q).length + (r - q)) * 1 ≤ 140737488355328) := by have h := HL1.out; rw [HT.out] at h; exact h
                go_wp2_with fail
                go_region_held3 (fun w' => w'.cell? ⟨g, 0, none⟩ = some (.slice (some ⟨b, off, none⟩) n n) ∧ w'.cell? ⟨g, 1, none⟩ = some (.int .i64 r))
                  (first | exact ⟨by first | with_reducible assumption | (rw [cell_drew]; with_reducible assumption), by first | with_reducible assumption | (rw [cell_drew]; with_reducible assumption)⟩)
                  (first
                    | (refine step_append_own (P := Try.prog) (w5.drew) ?h8xa1 (.tmp 126) (.tmp 136) 22 ?h8xa2 w.heap.size 5 i5 (Value.int .u8 0) 1 1 Try.underlying22 hi hz0 hz1 hz2 (by rfl) (by decide) (v4) (t ++ seg d p q).length (List.map (Value.int .u8) (t ++ seg d p q)) ?h8xa6 H5.out.1 ⟨b, off + q, none⟩ (r - q) (n - q) (List.map (Value.int .u8) (seg d q r)) ?h8xa8 (by rw [List.length_map, seg_length, Nat.mul_one]) (H5.out.2.2.2.cut q r hrn0) (ints_one _) HL2.out.1 HL2.out.2 H5.out.base ?h8xa15; (case h8xa1 => rfl); (case h8xa2 => rfl); (case h8xa6 => rfl); (case h8xa8 => rfl); intro v6 w6 hown4 hgrow4; have H5n : Hid (St w g (some ⟨b, off, none⟩) n dep d w6 v6 ((t ++ seg d p q) ++ seg d q r) r (ln d l' p q)) := St.far (Y := w5.drew) H5.out.drew hgB.out (by rw [seg_length]) hown4 hgrow4; have c0n := H5n.out.2.1.c0; have c1n := H5n.out.2.1.c1; clear hown4 hgrow4))
                clear z0 z1 c0n c1n
                have x1 := H5n.out.2.1.c1
                have x2 := H5n.out.2.1.c2
                go_wp2_with fail
                go_quiet (fail)
                go_wp2
                refine ⟨⟨r, ln d l' p q, (t ++ seg d p q) ++ seg d q r, rfl, rfl, by have := HN.out.1; rw [HT.out] at this; exact this, ?_, .inr ⟨(H5n.out.drewN _).1, by rw [List.length_append, seg_length]; omega⟩, (H5n.out.drewN _).2.1, (H5n.out.drewN _).2.2.1⟩, ?_⟩
                · rw [HPL.out.2, ln_cat d l s p q hsp (by omega), HRr.out, ln_word l (by omega) hqn]
                · simp [intOf]; omega
              · have hown2 := hown
                obtain ⟨k, cap, rfl, _, _⟩ := World.ownsRow.form hown htp
                have HSt0 : Hid (∀ X, But g wo X → Rd X g (some ⟨b, off, none⟩) n q (ln d l' p q) dep → St w g (some ⟨b, off, none⟩) n dep d X (.slice (some ⟨k, 0, none⟩) t.length cap) t q (ln d l' p q)) := fun X hb hr => ⟨hown2.but hb hgB.out, hr, HW.out.2.trans hb.below, HBy.out.below hb.below⟩
                clear hown hown2
                go_wp2_with fail
                refine HA.out.mono ?_; rintro e w' ⟨rfl, hww⟩; obtain rfl := hww.symm
                go_wp2_with fail
                refine HA.out.mono ?_; rintro e w' ⟨rfl, hww⟩; obtain rfl := hww.symm
                go_wp2_with fail
                refine HS.out.mono ?_; rintro e w' ⟨rfl, hww⟩; obtain rfl := hww.symm
                have HStX : Hid (St w g (some ⟨b, off, none⟩) n dep d (wr) (.slice (some ⟨k, 0, none⟩) t.length cap) t q (ln d l' p q)) := HSt0.out _ HRi.out.2 HRi.out.1
                clear HSt0
                have k0 : nl d p q = 0 := by omega
                have HT : Hid (gapText d p q = seg d p q) := gapText0 rfl k0
                have y0 := HStX.out.2.1.c0
                have y1 := HStX.out.2.1.c1
                have hqn2 : (q : Int) ≤ (n : Int) := by omega
                have hpq' : (p : Int) ≤ (q : Int) := by omega
                have hnp : ¬ n = p := by omega
                have HL0 : Hid (t.length + (q - p) ≤ maxLen ∧ (t.length + (q - p)) * 1 ≤ 140737488355328) := by unfold Hid maxLen; omega
                go_wp2_with fail
                go_region_held3 (fun w' => w'.cell? ⟨g, 0, none⟩ = some (.slice (some ⟨b, off, none⟩) n n) ∧ w'.cell? ⟨g, 1, none⟩ = some (.int .i64 q))
                  (first | exact ⟨by first | with_reducible assumption | (rw [cell_drew]; with_reducible assumption), by first | with_reducible assumption | (rw [cell_drew]; with_reducible assumption)⟩)
                  (first
                    | (refine step_append_own (P := Try.prog) (wr.drew) ?h9xa1 (.tmp 102) (.tmp 112) 22 ?h9xa2 w.heap.size 5 i5 (Value.int .u8 0) 1 1 Try.underlying22 hi hz0 hz1 hz2 (by rfl) (by decide) (Value.slice (some ⟨k, 0, none⟩) t.length cap) (t).length (List.map (Value.int .u8) (t)) ?h9xa6 HStX.out.1 ⟨b, off + p, none⟩ (q - p) (n - p) (List.map (Value.int .u8) (seg d p q)) ?h9xa8 (by rw [List.length_map, seg_length, Nat.mul_one]) (HStX.out.2.2.2.cut p q hqn) (ints_one _) HL0.out.1 HL0.out.2 HStX.out.base ?h9xa15; (case h9xa1 => rfl); (case h9xa2 => rfl); (case h9xa6 => rfl); (case h9xa8 => rfl); intro v4 w4 hown4 hgrow4; have HStXn : Hid (St w g (some ⟨b, off, none⟩) n dep d w4 v4 ((t) ++ seg d p q) q (ln d l' p q)) := St.far (Y := wr.drew) HStX.out.drew hgB.out (by rw [seg_length]) hown4 hgrow4; have c0n := HStXn.out.2.1.c0; have c1n := HStXn.out.2.1.c1; clear hown4 hgrow4))
                clear y0 y1 c0n c1n
                have y1 := HStXn.out.2.1.c1
                go_wp2_with fail
                refine (word_any g _ n q _ dep d fl _ hqn hn HStXn.out.2.1 HStXn.out.2.2.2).mono ?_
                rintro e w5 ⟨rfl, hrd5, hbut5⟩
                have H5 : Hid (St w g (some ⟨b, off, none⟩) n dep d w5 (v4) (t ++ seg d p q) r (ln d l' p q)) := HStXn.out.but hgB.out hbut5 (by rw [HRr.out]; exact hrd5)
                clear hrd5 hbut5 y1
                have z0 := H5.out.2.1.c0
                have z1 := H5.out.2.1.c1
                have hrn : (r : Int) ≤ (n : Int) := by omega
                have hqr' : (q : Int) ≤ (r : Int) := by omega
                have hnq : ¬ n = q := by omega
                have HL2 : Hid ((t ++ seg d p q).length + (r - q) ≤ maxLen ∧ ((t ++ seg d p q).length + (r - q)) * 1 ≤ 140737488355328) := by have h := HL1.out; rw [HT.out] at h; exact h
                go_wp2_with fail
                go_region_held3 (fun w' => w'.cell? ⟨g, 0, none⟩ = some (.slice (some ⟨b, off, none⟩) n n) ∧ w'.cell? ⟨g, 1, none⟩ = some (.int .i64 r))
                  (first | exact ⟨by first | with_reducible assumption | (rw [cell_drew]; with_reducible assumption), by first | with_reducible assumption | (rw [cell_drew]; with_reducible assumption)⟩)
                  (first
                    | (refine step_append_own (P := Try.prog) (w5.drew) ?h10xa1 (.tmp 126) (.tmp 136) 22 ?h10xa2 w.heap.size 5 i5 (Value.int .u8 0) 1 1 Try.underlying22 hi hz0 hz1 hz2 (by rfl) (by decide) (v4) (t ++ seg d p q).length (List.map (Value.int .u8) (t ++ seg d p q)) ?h10xa6 H5.out.1 ⟨b, off + q, none⟩ (r - q) (n - q) (List.map (Value.int .u8) (seg d q r)) ?h10xa8 (by rw [List.length_map, seg_length, Nat.mul_one]) (H5.out.2.2.2.cut q r hrn0) (ints_one _) HL2.out.1 HL2.out.2 H5.out.base ?h10xa15; (case h10xa1 => rfl); (case h10xa2 => rfl); (case h10xa6 => rfl); (case h10xa8 => rfl); intro v6 w6 hown4 hgrow4; have H5n : Hid (St w g (some ⟨b, off, none⟩) n dep d w6 v6 ((t ++ seg d p q) ++ seg d q r) r (ln d l' p q)) := St.far (Y := w5.drew) H5.out.drew hgB.out (by rw [seg_length]) hown4 hgrow4; have c0n := H5n.out.2.1.c0; have c1n := H5n.out.2.1.c1; clear hown4 hgrow4))
                clear z0 z1 c0n c1n
                have x1 := H5n.out.2.1.c1
                have x2 := H5n.out.2.1.c2
                go_wp2_with fail
                go_quiet (fail)
                go_wp2
                refine ⟨⟨r, ln d l' p q, (t ++ seg d p q) ++ seg d q r, rfl, rfl, by have := HN.out.1; rw [HT.out] at this; exact this, ?_, .inr ⟨(H5n.out.drewN _).1, by rw [List.length_append, seg_length]; omega⟩, (H5n.out.drewN _).2.1, (H5n.out.drewN _).2.2.1⟩, ?_⟩
                · rw [HPL.out.2, ln_cat d l s p q hsp (by omega), HRr.out, ln_word l (by omega) hqn]
                · simp [intOf]; omega
          · have HNC : Hid (¬ cont d n fl par p) := fun hc => by have := hc.2.1; rw [HE.out, HSt.out] at this; cases this
            go_wp2_with fail
            refine HA.out.mono ?_; rintro e w' ⟨rfl, hww⟩; obtain rfl := hww.symm
            go_wp2_with fail
            refine HA.out.mono ?_; rintro e w' ⟨rfl, hww⟩; obtain rfl := hww.symm
            go_wp2_with fail
            refine HS.out.mono ?_; rintro e w' ⟨rfl, hww⟩; obtain rfl := hww.symm
            have HO : Hid (E = p ∧ t = fs d s E) := HPL.out.1.out HNC.out
            have HZ : Hid (Rd (((wr).setCell ⟨g, 1, none⟩ (.int .i64 p)).setCell ⟨g, 2, none⟩ (.int .i64 l')) g ad n p l' dep ∧ But g wo (((wr).setCell ⟨g, 1, none⟩ (.int .i64 p)).setCell ⟨g, 2, none⟩ (.int .i64 l'))) := ⟨((HRi.out.1).set1 _).set2 _, ((HRi.out.2).setCell 1 _).setCell 2 _⟩
            have HF : Hid (Rd (((wr).setCell ⟨g, 1, none⟩ (.int .i64 p)).setCell ⟨g, 2, none⟩ (.int .i64 l')) g ad n E (ln d l s E) dep ∧ Below g w (((wr).setCell ⟨g, 1, none⟩ (.int .i64 p)).setCell ⟨g, 2, none⟩ (.int .i64 l'))) := by
              have e1 := HPL.out.2
              have e2 := HO.out.1
              subst e2
              rw [← e1]
              exact ⟨HZ.out.1, HW.out.2.trans HZ.out.2.below⟩
            rcases HBV.out with ⟨rfl, ht⟩ | ⟨hown, htp⟩
            · have hsn : s < n := by omega
              · obtain ⟨b, off, rfl, hbg, _⟩ := HB.out s hsn
                have hconv : (convert 22 9 (.slice (some ⟨b, off + s, none⟩) (p - s) (n - s))).run Try.prog (((wr).setCell ⟨g, 1, none⟩ (.int .i64 p)).setCell ⟨g, 2, none⟩ (.int .i64 l')) = .ok (.string (strOf (seg d s p))) (((wr).setCell ⟨g, 1, none⟩ (.int .i64 p)).setCell ⟨g, 2, none⟩ (.int .i64 l')) := by
                  have := conv_by (HBy.out.below HZ.out.2.below) s p hsp hpn
                  rw [if_neg (by omega), Option.map_some, Nat.mul_one, add_none] at this
                  exact this
                have hns : ¬ n = s := by omega
                have HT : Hid (strOf (seg d s p) = strOf (fs d s E)) := by unfold Hid; rw [← ht, HO.out.2]
                clear ht
                go_wp2
                go_ret
                exact ⟨by rw [← HT.out]; rfl, HF.out⟩
            · have hown2 := hown
              obtain ⟨k, cap, rfl, _, _⟩ := World.ownsRow.form hown htp
              have hconv : (convert 22 9 (.slice (some ⟨k, 0, none⟩) t.length cap)).run Try.prog (((wr).setCell ⟨g, 1, none⟩ (.int .i64 p)).setCell ⟨g, 2, none⟩ (.int .i64 l')) = .ok (.string (strOf t)) (((wr).setCell ⟨g, 1, none⟩ (.int .i64 p)).setCell ⟨g, 2, none⟩ (.int .i64 l')) := conv_own (Own.but hown2 HZ.out.2 hgB.out)
              have HT : Hid (strOf t = strOf (fs d s E)) := by unfold Hid; rw [← HO.out.2]
              clear hown hown2
              go_wp2
              go_ret
              exact ⟨by rw [← HT.out]; rfl, HF.out⟩
        · have HNC : Hid (¬ cont d n fl par p) := fun hc => by have := hc.1; rw [HE.out] at this; exact hqe this
          have HA : Hid (Calls Try.prog 27 #[.pointer (some ⟨g, 0, none⟩), .int .i64 0] wr fun e w' => e = .returned (.int .u8 0) ∧ w' = wr) := by
            have hqn' : q = n := by omega
            have := HRi.out.1
            rw [hqn'] at this
            exact at0_out g ad n _ dep d wr hn this HByi.out
          go_wp2_with fail
          refine HA.out.mono ?_; rintro e w' ⟨rfl, hww⟩; obtain rfl := hww.symm
          go_wp2_with fail
          refine HA.out.mono ?_; rintro e w' ⟨rfl, hww⟩; obtain rfl := hww.symm
          have HO : Hid (E = p ∧ t = fs d s E) := HPL.out.1.out HNC.out
          have HZ : Hid (Rd (((wr).setCell ⟨g, 1, none⟩ (.int .i64 p)).setCell ⟨g, 2, none⟩ (.int .i64 l')) g ad n p l' dep ∧ But g wo (((wr).setCell ⟨g, 1, none⟩ (.int .i64 p)).setCell ⟨g, 2, none⟩ (.int .i64 l'))) := ⟨((HRi.out.1).set1 _).set2 _, ((HRi.out.2).setCell 1 _).setCell 2 _⟩
          have HF : Hid (Rd (((wr).setCell ⟨g, 1, none⟩ (.int .i64 p)).setCell ⟨g, 2, none⟩ (.int .i64 l')) g ad n E (ln d l s E) dep ∧ Below g w (((wr).setCell ⟨g, 1, none⟩ (.int .i64 p)).setCell ⟨g, 2, none⟩ (.int .i64 l'))) := by
            have e1 := HPL.out.2
            have e2 := HO.out.1
            subst e2
            rw [← e1]
            exact ⟨HZ.out.1, HW.out.2.trans HZ.out.2.below⟩
          rcases HBV.out with ⟨rfl, ht⟩ | ⟨hown, htp⟩
          · by_cases hsn : s < n
            · obtain ⟨b, off, rfl, hbg, _⟩ := HB.out s hsn
              have hconv : (convert 22 9 (.slice (some ⟨b, off + s, none⟩) (p - s) (n - s))).run Try.prog (((wr).setCell ⟨g, 1, none⟩ (.int .i64 p)).setCell ⟨g, 2, none⟩ (.int .i64 l')) = .ok (.string (strOf (seg d s p))) (((wr).setCell ⟨g, 1, none⟩ (.int .i64 p)).setCell ⟨g, 2, none⟩ (.int .i64 l')) := by
                have := conv_by (HBy.out.below HZ.out.2.below) s p hsp hpn
                rw [if_neg (by omega), Option.map_some, Nat.mul_one, add_none] at this
                exact this
              have hns : ¬ n = s := by omega
              have HT : Hid (strOf (seg d s p) = strOf (fs d s E)) := by unfold Hid; rw [← ht, HO.out.2]
              clear ht
              go_wp2
              go_ret
              exact ⟨by rw [← HT.out]; rfl, HF.out⟩
            · have hns : n = s := by omega
              have hps : p = s := by omega
              have hconv : (convert 22 9 (.slice ad 0 0)).run Try.prog (((wr).setCell ⟨g, 1, none⟩ (.int .i64 p)).setCell ⟨g, 2, none⟩ (.int .i64 l')) = .ok (.string (strOf (seg d s p))) (((wr).setCell ⟨g, 1, none⟩ (.int .i64 p)).setCell ⟨g, 2, none⟩ (.int .i64 l')) := by
                have := conv_by (HBy.out.below HZ.out.2.below) s p hsp hpn
                rw [if_pos hns, show p - s = 0 by omega, show n - s = 0 by omega] at this
                exact this
              have HT : Hid (strOf (seg d s p) = strOf (fs d s E)) := by unfold Hid; rw [← ht, HO.out.2]
              clear ht
              have hz : p - s = 0 := by omega
              have hz2 : n - s = 0 := by omega
              clear hns hps
              go_wp2
              go_ret
              exact ⟨by rw [← HT.out]; rfl, HF.out⟩
          · have hown2 := hown
            obtain ⟨k, cap, rfl, _, _⟩ := World.ownsRow.form hown htp
            have hconv : (convert 22 9 (.slice (some ⟨k, 0, none⟩) t.length cap)).run Try.prog (((wr).setCell ⟨g, 1, none⟩ (.int .i64 p)).setCell ⟨g, 2, none⟩ (.int .i64 l')) = .ok (.string (strOf t)) (((wr).setCell ⟨g, 1, none⟩ (.int .i64 p)).setCell ⟨g, 2, none⟩ (.int .i64 l')) := conv_own (Own.but hown2 HZ.out.2 hgB.out)
            have HT : Hid (strOf t = strOf (fs d s E)) := by unfold Hid; rw [← HO.out.2]
            clear hown hown2
            go_wp2
            go_ret
            exact ⟨by rw [← HT.out]; rfl, HF.out⟩

end Go.Proofs.Qxb6602571a
