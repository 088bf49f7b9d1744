import Derived.Test.Qxb6602571aPure
import Derived.WalkKit
import Derived.Below
import Derived.Deep.QuietTactic
import Derived.BigQuiet
namespace Go.Proofs.Qxb6602571a
open Go.RowKit

theorem flow_any (c : Int) (w : World) :
    Calls Try.prog 36 #[.int .u8 c] w fun e w' => e = .returned (.bool (flowI c)) ∧ w' = w := by
  by_cases h1 : c = 44
  · subst h1; go_enter Try.func36, Try.ntmps36; go_wp2; go_ret; exact ⟨rfl, rfl⟩
  by_cases h2 : c = 63
  · subst h2; go_enter Try.func36, Try.ntmps36; go_wp2; go_ret; exact ⟨rfl, rfl⟩
  by_cases h3 : c = 91
  · subst h3; go_enter Try.func36, Try.ntmps36; go_wp2; go_ret; exact ⟨rfl, rfl⟩
  by_cases h4 : c = 93
  · subst h4; go_enter Try.func36, Try.ntmps36; go_wp2; go_ret; exact ⟨rfl, rfl⟩
  by_cases h5 : c = 123
  · subst h5; go_enter Try.func36, Try.ntmps36; go_wp2; go_ret; exact ⟨rfl, rfl⟩
  by_cases h6 : c = 125
  · subst h6; go_enter Try.func36, Try.ntmps36; go_wp2; go_ret; exact ⟨rfl, rfl⟩
  have H : Hid (flowI c = false) := show flowI c = false by simp [flowI, *]
  go_enter Try.func36, Try.ntmps36
  go_wp2
  go_ret
  exact ⟨by rw [H.out]; rfl, rfl⟩

theorem flow2_any (c : Int) (w : World) :
    Calls Try.prog 21 #[.int .u8 c] w fun e w' => e = .returned (.bool (flowI c)) ∧ w' = w := by
  by_cases h1 : c = 44
  · subst h1; go_enter Try.func21, Try.ntmps21; go_wp2; go_ret; exact ⟨rfl, rfl⟩
  by_cases h2 : c = 63
  · subst h2; go_enter Try.func21, Try.ntmps21; go_wp2; go_ret; exact ⟨rfl, rfl⟩
  by_cases h3 : c = 91
  · subst h3; go_enter Try.func21, Try.ntmps21; go_wp2; go_ret; exact ⟨rfl, rfl⟩
  by_cases h4 : c = 93
  · subst h4; go_enter Try.func21, Try.ntmps21; go_wp2; go_ret; exact ⟨rfl, rfl⟩
  by_cases h5 : c = 123
  · subst h5; go_enter Try.func21, Try.ntmps21; go_wp2; go_ret; exact ⟨rfl, rfl⟩
  by_cases h6 : c = 125
  · subst h6; go_enter Try.func21, Try.ntmps21; go_wp2; go_ret; exact ⟨rfl, rfl⟩
  have H : Hid (flowI c = false) := show flowI c = false by simp [flowI, *]
  go_enter Try.func21, Try.ntmps21
  go_wp2
  go_ret
  exact ⟨by rw [H.out]; rfl, rfl⟩

theorem boe_any (c : Int) (w : World) :
    Calls Try.prog 35 #[.int .u8 c] w fun e w' => e = .returned (.bool (boe c)) ∧ w' = w := by
  by_cases h1 : c = 32
  · subst h1; go_enter Try.func35, Try.ntmps35; go_wp2; go_ret; exact ⟨rfl, rfl⟩
  by_cases h2 : c = 10
  · subst h2; go_enter Try.func35, Try.ntmps35; go_wp2; go_ret; exact ⟨rfl, rfl⟩
  go_enter Try.func35, Try.ntmps35
  go_wp2
  go_ret
  exact ⟨rfl, rfl⟩

/-- The reader at block g. -/
def Rd (w : World) (g : Nat) (ad : Option Addr) (n : Nat) (p : Int) (l dep : Int) : Prop :=
  w.heap[g]? = some (.cells #[.slice ad n n, .int .i64 p, .int .i64 l, .int .i64 dep] 39 (0, 0))

theorem Rd.c0 {w : World} {g : Nat} {ad : Option Addr} {n : Nat} {p l dep : Int} (h : Rd w g ad n p l dep) : w.cell? ⟨g, 0, none⟩ = some (.slice ad n n) := by unfold Rd at h; simp [World.cell?, h]
theorem Rd.c1 {w : World} {g : Nat} {ad : Option Addr} {n : Nat} {p l dep : Int} (h : Rd w g ad n p l dep) : w.cell? ⟨g, 1, none⟩ = some (.int .i64 p) := by unfold Rd at h; simp [World.cell?, h]
theorem Rd.c2 {w : World} {g : Nat} {ad : Option Addr} {n : Nat} {p l dep : Int} (h : Rd w g ad n p l dep) : w.cell? ⟨g, 2, none⟩ = some (.int .i64 l) := by unfold Rd at h; simp [World.cell?, h]
theorem Rd.c3 {w : World} {g : Nat} {ad : Option Addr} {n : Nat} {p l dep : Int} (h : Rd w g ad n p l dep) : w.cell? ⟨g, 3, none⟩ = some (.int .i64 dep) := by unfold Rd at h; simp [World.cell?, h]
theorem Rd.fr {w : World} {g : Nat} {ad : Option Addr} {n : Nat} {p l dep : Int} (h : Rd w g ad n p l dep) (j : Nat) : w.frozen? ⟨g, j, none⟩ = false := by unfold Rd at h; simp [World.frozen?, h]
theorem Rd.set1 {w : World} {g : Nat} {ad : Option Addr} {n : Nat} {p l dep : Int} (h : Rd w g ad n p l dep) (p' : Int) : Rd (w.setCell ⟨g, 1, none⟩ (.int .i64 p')) g ad n p' l dep := by
  unfold Rd at *
  simp [World.setCell, Array.getElem?_modify, h]
theorem Rd.set2 {w : World} {g : Nat} {ad : Option Addr} {n : Nat} {p l dep : Int} (h : Rd w g ad n p l dep) (l' : Int) : Rd (w.setCell ⟨g, 2, none⟩ (.int .i64 l')) g ad n p l' dep := by
  unfold Rd at *
  simp [World.setCell, Array.getElem?_modify, h]
theorem Rd.lt {w : World} {g : Nat} {ad : Option Addr} {n : Nat} {p l dep : Int} (h : Rd w g ad n p l dep) : g < w.heap.size := (Array.getElem?_eq_some_iff.1 h).1

/-- n bytes can be read at 'ad', below block g; byte i is 'd (s + i)'. -/
def By (w : World) (g : Nat) (ad : Option Addr) (n : Nat) (d : Nat → Int) (s : Nat) : Prop :=
  ∀ i, i < n → ∃ b off, ad = some ⟨b, off, none⟩ ∧ b < g ∧ w.cell? ⟨b, off + i, none⟩ = some (.int .u8 (d (s + i)))

theorem By.below {w w' : World} {g : Nat} {ad : Option Addr} {n : Nat} {d : Nat → Int} {s : Nat} (h : By w g ad n d s) (hb : Below g w w') : By w' g ad n d s := by
  intro i hi
  obtain ⟨b, off, e, hg, hc⟩ := h i hi
  exact ⟨b, off, e, hg, by rw [hb.cell hg]; exact hc⟩

/-- Nothing has turned but block g. -/
structure But (g : Nat) (w w' : World) : Prop where
  os : w'.os = w.os
  tape : w'.tape = w.tape
  output : w'.output = w.output
  size : w'.heap.size = w.heap.size
  block : ∀ k, k ≠ g → w'.heap[k]? = w.heap[k]?

theorem But.refl (g : Nat) (w : World) : But g w w := ⟨rfl, rfl, rfl, rfl, fun _ _ => rfl⟩
theorem But.trans {g : Nat} {a b c : World} (h : But g a b) (k : But g b c) : But g a c := ⟨k.os.trans h.os, k.tape.trans h.tape, k.output.trans h.output, k.size.trans h.size, fun i hi => (k.block i hi).trans (h.block i hi)⟩
theorem But.drew {g : Nat} {a w : World} (h : But g a w) : But g a w.drew := ⟨h.os, h.tape, h.output, h.size, h.block⟩
theorem But.setCell {g : Nat} {a w : World} (h : But g a w) (j : Nat) (u : Value) : But g a (w.setCell ⟨g, j, none⟩ u) :=
  h.trans ⟨rfl, rfl, rfl, by simp [World.setCell], fun k hk => Below.heap_setCell _ _ _ _ hk⟩
theorem But.below {g : Nat} {w w' : World} (h : But g w w') : Below g w w' := ⟨h.os, h.tape, h.output, Nat.le_of_eq h.size.symm, fun k hk => h.block k (by omega)⟩

/-- The byte at i, 0 behind the end. -/
def byteAt (d : Nat → Int) (n i : Nat) : Int := if i < n then d i else 0

theorem at_any (g : Nat) (ad : Option Addr) (n : Nat) (p : Nat) (l dep : Int) (d : Nat → Int) (k : Nat) (w : World) (hk : k ≤ 1) (hp : p ≤ n) (hn : n ≤ 1048576) (hr : Rd w g ad n p l dep) (hb : By w g ad n d 0) :
    Calls Try.prog 27 #[.pointer (some ⟨g, 0, none⟩), .int .i64 k] w fun e w' => e = .returned (.int .u8 (byteAt d n (p + k))) ∧ w' = w := by
  have c0 := hr.c0
  have c1 := hr.c1
  by_cases h : p + k < n
  · obtain ⟨b, off, rfl, hg, hc⟩ := hb (p + k) h
    have H : Hid (byteAt d n (p + k) = d (p + k)) := by unfold Hid byteAt; rw [if_pos h]
    rw [Nat.zero_add] at hc
    clear hr hb
    go_enter Try.func27, Try.ntmps27
    go_wp2
    go_ret
    exact ⟨by rw [H.out]; rfl, rfl⟩
  · have H : Hid (byteAt d n (p + k) = 0) := by unfold Hid byteAt; rw [if_neg h]
    clear hr hb
    go_enter Try.func27, Try.ntmps27
    go_wp2
    go_ret
    exact ⟨by rw [H.out]; rfl, rfl⟩

theorem col_any (g : Nat) (ad : Option Addr) (n : Nat) (p l dep : Int) (w : World) (h0 : 0 ≤ l) (h1 : l ≤ p) (h2 : p ≤ 1048576) (hr : Rd w g ad n p l dep) :
    Calls Try.prog 29 #[.pointer (some ⟨g, 0, none⟩)] w fun e w' => e = .returned (.int .i64 (p - l)) ∧ ∃ m, w' = w.drewN m := by
  have c1 := hr.c1
  have c2 := hr.c2
  clear hr
  go_enter Try.func29, Try.ntmps29
  go_wp2_with fail
  go_quiet (fail)
  go_wp2
  go_ret
  exact ⟨rfl, _, rfl⟩

theorem stops_any (g : Nat) (ad : Option Addr) (n : Nat) (p : Nat) (l dep : Int) (d : Nat → Int) (fl : Bool) (w : World) (hp : p < n) (hn : n ≤ 1048576) (hr : Rd w g ad n p l dep) (hb : By w g ad n d 0) :
    Calls Try.prog 28 #[.pointer (some ⟨g, 0, none⟩), .bool fl] w fun e w' => e = .returned (.bool (stopAt d n fl p)) ∧ w' = w := by
  have A0 : Hid (Calls Try.prog 27 #[.pointer (some ⟨g, 0, none⟩), .int .i64 0] w fun e w' => e = .returned (.int .u8 (d p)) ∧ w' = w) := by
    have := at_any g ad n p l dep d 0 w (by omega) (by omega) hn hr hb
    unfold byteAt at this
    rw [Nat.add_zero, if_pos hp] at this
    exact this
  have A1 : Hid (Calls Try.prog 27 #[.pointer (some ⟨g, 0, none⟩), .int .i64 1] w fun e w' => e = .returned (.int .u8 (byteAt d n (p + 1))) ∧ w' = w) := at_any g ad n p l dep d 1 w (by omega) (by omega) hn hr hb
  have H : Hid (stopAt d n fl p = ((d p == 58 && boe (byteAt d n (p + 1))) || (fl && flowI (d p)))) := by
    unfold Hid stopAt byteAt
    by_cases e : p + 1 < n
    · rw [if_pos e, decide_eq_false (by omega), Bool.false_or]
    · rw [if_neg e, decide_eq_true (by omega), Bool.true_or]
      rfl
  obtain ⟨b, hbb⟩ : ∃ b, b = boe (byteAt d n (p + 1)) := ⟨_, rfl⟩
  have B : Hid (Calls Try.prog 35 #[.int .u8 (byteAt d n (p + 1))] w fun e w' => e = .returned (.bool b) ∧ w' = w) := by rw [hbb]; exact boe_any _ w
  obtain ⟨f, hff⟩ : ∃ f, f = flowI (d p) := ⟨_, rfl⟩
  have F : Hid (Calls Try.prog 36 #[.int .u8 (d p)] w fun e w' => e = .returned (.bool f) ∧ w' = w) := by rw [hff]; exact flow_any _ w
  have H2 : Hid (stopAt d n fl p = ((d p == 58 && b) || (fl && f))) := by rw [hbb, hff]; exact H.out
  clear hr hb hbb hff H
  by_cases h1 : d p = 58
  · rw [h1] at F
    have H3 : Hid (stopAt d n fl p = (b || (fl && f))) := by rw [h1] at H2; exact H2.out
    clear H2
    cases b
    · cases fl
      · go_enter Try.func28, Try.ntmps28
        go_wp2_with fail
        refine A0.out.mono ?_; rintro e w' ⟨rfl, hww⟩; obtain rfl := hww.symm
        go_wp2_with fail
        refine A1.out.mono ?_; rintro e w' ⟨rfl, hww⟩; obtain rfl := hww.symm
        go_wp2_with fail
        refine B.out.mono ?_; rintro e w' ⟨rfl, hww⟩; obtain rfl := hww.symm
        go_wp2
        go_ret
        exact ⟨by rw [H3.out]; rfl, rfl⟩
      · go_enter Try.func28, Try.ntmps28
        go_wp2_with fail
        refine A0.out.mono ?_; rintro e w' ⟨rfl, hww⟩; obtain rfl := hww.symm
        go_wp2_with fail
        refine A1.out.mono ?_; rintro e w' ⟨rfl, hww⟩; obtain rfl := hww.symm
        go_wp2_with fail
        refine B.out.mono ?_; rintro e w' ⟨rfl, hww⟩; obtain rfl := hww.symm
        go_wp2_with fail
        refine F.out.mono ?_; rintro e w' ⟨rfl, hww⟩; obtain rfl := hww.symm
        go_wp2
        go_ret
        exact ⟨by rw [H3.out]; rfl, rfl⟩
    · go_enter Try.func28, Try.ntmps28
      go_wp2_with fail
      refine A0.out.mono ?_; rintro e w' ⟨rfl, hww⟩; obtain rfl := hww.symm
      go_wp2_with fail
      refine A1.out.mono ?_; rintro e w' ⟨rfl, hww⟩; obtain rfl := hww.symm
      go_wp2_with fail
      refine B.out.mono ?_; rintro e w' ⟨rfl, hww⟩; obtain rfl := hww.symm
      go_wp2
      go_ret
      exact ⟨by rw [H3.out]; rfl, rfl⟩
  · have H3 : Hid (stopAt d n fl p = (fl && f)) := by
      have := H2.out
      rw [beq_eq_false_iff_ne.2 h1] at this
      exact this
    clear H2
    cases fl
    · go_enter Try.func28, Try.ntmps28
      go_wp2_with fail
      refine A0.out.mono ?_; rintro e w' ⟨rfl, hww⟩; obtain rfl := hww.symm
      go_wp2
      go_ret
      exact ⟨by rw [H3.out]; rfl, rfl⟩
    · go_enter Try.func28, Try.ntmps28
      go_wp2_with fail
      refine A0.out.mono ?_; rintro e w' ⟨rfl, hww⟩; obtain rfl := hww.symm
      go_wp2_with fail
      refine F.out.mono ?_; rintro e w' ⟨rfl, hww⟩; obtain rfl := hww.symm
      go_wp2
      go_ret
      exact ⟨by rw [H3.out]; rfl, rfl⟩

theorem Rd.drewN {w : World} {g : Nat} {ad : Option Addr} {n : Nat} {p l dep : Int} (h : Rd w g ad n p l dep) (m : Nat) : Rd (w.drewN m) g ad n p l dep := h
theorem But.drewN {g : Nat} {a w : World} (h : But g a w) (m : Nat) : But g a (w.drewN m) := ⟨h.os, h.tape, h.output, h.size, h.block⟩

def posOf (w : World) (g : Nat) : Nat := match w.cell? ⟨g, 1, none⟩ with | some v => (intOf v).toNat | none => 0
theorem Rd.pos {w : World} {g : Nat} {ad : Option Addr} {n : Nat} {p : Nat} {l dep : Int} (h : Rd w g ad n p l dep) : posOf w g = p := by
  unfold posOf
  rw [h.c1]
  simp [intOf]

set_option maxHeartbeats 1000000 in
theorem spaces_any (g : Nat) (ad : Option Addr) (n : Nat) (p : Nat) (l dep : Int) (d : Nat → Int) (w : World) (hp : p ≤ n) (hn : n ≤ 1048576) (hr : Rd w g ad n p l dep) (hb : By w g ad n d 0) :
    Calls Try.prog 26 #[.pointer (some ⟨g, 0, none⟩)] w fun e w' => e = .returned (.tuple #[]) ∧ ∃ q : Nat, p ≤ q ∧ q ≤ n ∧ (∀ i, p ≤ i → i < q → d i = 32) ∧ (q < n → ¬ d q = 32) ∧ Rd w' g ad n q l dep ∧ But g w w' := by
  have B : Hid (By w g ad n d 0) := hb
  have R : Hid (Rd w g ad n p l dep) := hr
  clear hb hr
  go_enter Try.func26, Try.ntmps26
  go_wp2_with fail
  go_loopw [] (fun wr => ∃ q : Nat, p ≤ q ∧ q ≤ n ∧ (∀ i, p ≤ i → i < q → d i = 32) ∧ Rd wr g ad n q l dep ∧ But g w wr) (fun wr => n - posOf wr g)
  case atStart => exact ⟨p, Nat.le_refl _, hp, fun i a b => by omega, R.out, But.refl _ _⟩
  case round =>
    obtain ⟨q, hpq, hqn, hall, hrd, hbut⟩ := hrel
    have c0 := hrd.c0
    have c1 := hrd.c1
    have f1 := hrd.fr 1
    have HP : Hid (posOf wr g = q) := hrd.pos
    have HR : Hid ((∀ i, p ≤ i → i < q → d i = 32) ∧ Rd wr g ad n q l dep ∧ But g w wr) := ⟨hall, hrd, hbut⟩
    by_cases hlt : q < n
    · obtain ⟨b, off, rfl, hg, hc⟩ := (B.out.below hbut.below) q hlt
      rw [Nat.zero_add] at hc
      have i0 : (0 : Int) ≤ (q : Int) := by omega
      have i1 : (q : Int) < (n : Int) := by omega
      clear hrd hbut hall
      by_cases h32 : d q = 32
      · rw [h32] at hc
        go_wp2_with fail
        go_quiet (fail)
        go_wp2
        have h := HR.out
        have hrd' := (h.2.1.drewN nq).set1 ((q : Int) + 1)
        refine ⟨⟨q + 1, by omega, by omega, fun i a b => ?_, hrd', (h.2.2.drewN nq).setCell 1 _⟩, ?_⟩
        · by_cases e : i = q
          · rw [e]; exact h32
          · exact h.1 i a (by omega)
        · have e1 : posOf ((wr.drewN nq).setCell ⟨g, 1, none⟩ (Value.int IntKind.i64 (↑q + 1))) g = q + 1 := Rd.pos (p := q + 1) hrd'
          rw [e1, HP.out]
          omega
      · go_wp2_with fail
        go_quiet (fail)
        go_wp2
        go_end0
        exact ⟨rfl, q, hpq, hqn, HR.out.1, fun _ => h32, HR.out.2.1.drewN _, HR.out.2.2.drewN _⟩
    · clear hrd hbut hall
      go_wp2_with fail
      go_quiet (fail)
      go_wp2
      go_end0
      exact ⟨rfl, q, hpq, hqn, HR.out.1, fun h => absurd h hlt, HR.out.2.1.drewN _, HR.out.2.2.drewN _⟩

set_option maxHeartbeats 1000000 in
theorem word_any (g : Nat) (ad : Option Addr) (n : Nat) (p : Nat) (l dep : Int) (d : Nat → Int) (fl : Bool) (w : World) (hp : p ≤ n) (hn : n ≤ 1048576) (hr : Rd w g ad n p l dep) (hb : By w g ad n d 0) :
    Calls Try.prog 25 #[.pointer (some ⟨g, 0, none⟩), .bool fl] w fun e w' => e = .returned (.tuple #[]) ∧ Rd w' g ad n (wordEnd d n fl p : Nat) l dep ∧ But g w w' := by
  have B : Hid (By w g ad n d 0) := hb
  have R : Hid (Rd w g ad n p l dep) := hr
  have c0 := hr.c0
  have c1 := hr.c1
  have f1 := hr.fr 1
  clear hb hr
  go_enter Try.func25, Try.ntmps25
  go_wp2_with fail
  go_quiet (fail)
  go_wp2_with fail
  go_loopw [5] (fun i wr => ∃ q : Nat, i = .int .i64 q ∧ p ≤ q ∧ q ≤ n ∧ wordEnd d n fl p = wordEnd d n fl q ∧ wr = w.drewN nq) (fun i _ => n - (intOf i).toNat)
  case atStart => exact ⟨p, rfl, Nat.le_refl _, hp, rfl, rfl⟩
  case round =>
    obtain ⟨q, rfl, hpq, hqn, hwe, rfl⟩ := hrel
    have HW : Hid (wordEnd d n fl p = wordEnd d n fl q) := hwe
    clear hwe
    by_cases hlt : q < n
    · obtain ⟨b, off, rfl, hg, hc⟩ := B.out q hlt
      rw [Nat.zero_add] at hc
      obtain ⟨f, hff⟩ : ∃ f, f = flowI (d q) := ⟨_, rfl⟩
      have F : Hid (Calls Try.prog 36 #[.int .u8 (d q)] (w.drewN nq) fun e w' => e = .returned (.bool f) ∧ w' = (w.drewN nq)) := by rw [hff]; exact flow_any _ _
      have HS0 : Hid (stopAt d n fl q = ((d q == 58 && (decide (q + 1 = n) || boe (d (q + 1)))) || (fl && f))) := by rw [hff]; rfl
      clear hff
      by_cases h32 : d q = 32
      · have HS : Hid (wordEnd d n fl q = q) := word_stay d n fl q (fun h => h.2.1 (.inl h32))
        rw [h32] at hc
        clear F HS0
        go_wp2
        go_end0
        rw [HW.out, HS.out]
        exact ⟨rfl, (R.out.drewN _).set1 _, ((But.refl g w).drewN _).setCell _ _⟩
      by_cases h10 : d q = 10
      · have HS : Hid (wordEnd d n fl q = q) := word_stay d n fl q (fun h => h.2.1 (.inr h10))
        rw [h10] at hc
        clear F HS0
        go_wp2
        go_end0
        rw [HW.out, HS.out]
        exact ⟨rfl, (R.out.drewN _).set1 _, ((But.refl g w).drewN _).setCell _ _⟩
      have HN : Hid (¬ Blank (d q)) := fun h => h.elim h32 h10
      by_cases h58 : d q = 58
      · rw [h58] at hc F
        by_cases hend : q + 1 = n
        · have HS : Hid (wordEnd d n fl q = q) := word_stay d n fl q (fun h => by
            have := h.2.2
            rw [HS0.out, h58, decide_eq_true hend] at this
            simp at this)
          clear F HS0
          have hend' : (q : Int) + 1 = (n : Int) := by omega
          go_wp2
          go_end0
          rw [HW.out, HS.out]
          exact ⟨rfl, (R.out.drewN _).set1 _, ((But.refl g w).drewN _).setCell _ _⟩
        · obtain ⟨b2, off2, e2, hg2, hc2⟩ := B.out (q + 1) (by omega)
          rw [Nat.zero_add] at hc2
          simp only [Option.some.injEq, Addr.mk.injEq, and_true] at e2
          obtain ⟨rfl, rfl⟩ := e2
          have hend' : ¬ (q : Int) + 1 = (n : Int) := by omega
          obtain ⟨bb, hbb⟩ : ∃ bb, bb = boe (d (q + 1)) := ⟨_, rfl⟩
          have BB : Hid (Calls Try.prog 35 #[.int .u8 (d (q + 1))] (w.drewN nq) fun e w' => e = .returned (.bool bb) ∧ w' = (w.drewN nq)) := by rw [hbb]; exact boe_any _ _
          have HS1 : Hid (stopAt d n fl q = (bb || (fl && f))) := by
            have := HS0.out
            rw [h58, decide_eq_false hend, ← hbb, Bool.false_or] at this
            exact this
          clear HS0 hbb
          have i1 : (q : Int) + 1 < (n : Int) := by omega
          cases bb
          · have HSt : Hid (stopAt d n fl q = (fl && f)) := by have := HS1.out; rwa [Bool.false_or] at this
            clear HS1
            cases fl
            · have HG : Hid (wordEnd d n false q = wordEnd d n false (q + 1)) := word_go d n false q hlt HN.out (by rw [HSt.out]; rfl)
              go_wp2_with fail
              refine BB.out.mono ?_; rintro e w' ⟨rfl, hww⟩; obtain rfl := hww.symm
              go_wp2
              refine ⟨⟨q + 1, by go_num, by omega, by omega, by rw [HW.out, HG.out], by simp⟩, ?_⟩
              simp [intOf]; omega
            · cases f
              · have HG : Hid (wordEnd d n true q = wordEnd d n true (q + 1)) := word_go d n true q hlt HN.out (by rw [HSt.out]; rfl)
                go_wp2_with fail
                refine BB.out.mono ?_; rintro e w' ⟨rfl, hww⟩; obtain rfl := hww.symm
                go_wp2_with fail
                refine F.out.mono ?_; rintro e w' ⟨rfl, hww⟩; obtain rfl := hww.symm
                go_wp2
                refine ⟨⟨q + 1, by go_num, by omega, by omega, by rw [HW.out, HG.out], by simp⟩, ?_⟩
                simp [intOf]; omega
              · have HS : Hid (wordEnd d n true q = q) := word_stay d n true q (fun h => by have := h.2.2; rw [HSt.out] at this; cases this)
                go_wp2_with fail
                refine BB.out.mono ?_; rintro e w' ⟨rfl, hww⟩; obtain rfl := hww.symm
                go_wp2_with fail
                refine F.out.mono ?_; rintro e w' ⟨rfl, hww⟩; obtain rfl := hww.symm
                go_wp2
                go_end0
                rw [HW.out, HS.out]
                exact ⟨rfl, (R.out.drewN _).set1 _, ((But.refl g w).drewN _).setCell _ _⟩
          · have HS : Hid (wordEnd d n fl q = q) := word_stay d n fl q (fun h => by have := h.2.2; rw [HS1.out] at this; cases this)
            clear HS1
            go_wp2_with fail
            refine BB.out.mono ?_; rintro e w' ⟨rfl, hww⟩; obtain rfl := hww.symm
            go_wp2
            go_end0
            rw [HW.out, HS.out]
            exact ⟨rfl, (R.out.drewN _).set1 _, ((But.refl g w).drewN _).setCell _ _⟩
      · have HSt : Hid (stopAt d n fl q = (fl && f)) := by
          have := HS0.out
          rw [beq_eq_false_iff_ne.2 h58, Bool.false_and, Bool.false_or] at this
          exact this
        clear HS0
        have e32 : (d q == 32) = false := beq_eq_false_iff_ne.2 h32
        have e10 : (d q == 10) = false := beq_eq_false_iff_ne.2 h10
        have e58 : (d q == 58) = false := beq_eq_false_iff_ne.2 h58
        cases fl
        · have HG : Hid (wordEnd d n false q = wordEnd d n false (q + 1)) := word_go d n false q hlt HN.out (by rw [HSt.out]; rfl)
          go_wp2
          refine ⟨⟨q + 1, by go_num, by omega, by omega, by rw [HW.out, HG.out], by simp⟩, ?_⟩
          simp [intOf]; omega
        · cases f
          · have HG : Hid (wordEnd d n true q = wordEnd d n true (q + 1)) := word_go d n true q hlt HN.out (by rw [HSt.out]; rfl)
            go_wp2_with fail
            refine F.out.mono ?_; rintro e w' ⟨rfl, hww⟩; obtain rfl := hww.symm
            go_wp2
            refine ⟨⟨q + 1, by go_num, by omega, by omega, by rw [HW.out, HG.out], by simp⟩, ?_⟩
            simp [intOf]; omega
          · have HS : Hid (wordEnd d n true q = q) := word_stay d n true q (fun h => by have := h.2.2; rw [HSt.out] at this; cases this)
            go_wp2_with fail
            refine F.out.mono ?_; rintro e w' ⟨rfl, hww⟩; obtain rfl := hww.symm
            go_wp2
            go_end0
            rw [HW.out, HS.out]
            exact ⟨rfl, (R.out.drewN _).set1 _, ((But.refl g w).drewN _).setCell _ _⟩
    · go_wp2
      go_end0
      rw [HW.out, word_stay d n fl q (by omega)]
      exact ⟨rfl, (R.out.drewN _).set1 _, ((But.refl g w).drewN _).setCell _ _⟩

end Go.Proofs.Qxb6602571a
