import Derived.Test.Qxb6604472aApp
import Derived.Test.Qxb6604472aZzC
import Derived.Deep.RegionWith
namespace Go.Proofs.Qxb6604472a
open Go.RowKit
attribute [local go_sem] eq22 ne22

/-- One bool; where it is false, neither m nor n is more than 4096. -/
def BoolLid2 (m n : Nat) (e : Ending) : Prop := ∃ b : Bool, e = .returned (.bool b) ∧ (b = false → m ≤ 4096 ∧ n ≤ 4096)

set_option maxHeartbeats 2000000 in
set_option maxRecDepth 100000 in
theorem over16_any (a0 : Option Addr) (n0 c0 : Nat) (S0 : Nat → ByteArray) (a1 : Option Addr) (n1 c1 : Nat) (S1 : Nat → ByteArray) (a2 : Option Addr) (n2 c2 : Nat) (S2 : Nat → ByteArray) (a3 : Option Addr) (n3 c3 : Nat) (S3 : Nat → ByteArray) (a4 : Option Addr) (n4 c4 : Nat) (A4 : Nat → Option Addr) (L4 C4 : Nat → Nat) (S4 : Nat → Nat → ByteArray) (w : World)
    (h0 : StrsAt w a0 n0 S0) (h1 : StrsAt w a1 n1 S1) (h2 : StrsAt w a2 n2 S2) (h3 : StrsAt w a3 n3 S3) (h4 : NestAt w a4 n4 A4 L4 C4 S4) :
    Calls Try.prog 16 #[.slice a0 n0 c0, .slice a1 n1 c1, .slice a2 n2 c2, .slice a3 n3 c3, .slice a4 n4 c4] w fun e w' => BoolLid2 n2 n3 e ∧ w' = w := by
  have H0 : Hid (StrsAt w a0 n0 S0) := h0
  have H1 : Hid (StrsAt w a1 n1 S1) := h1
  have H2 : Hid (StrsAt w a2 n2 S2) := h2
  have H3 : Hid (StrsAt w a3 n3 S3) := h3
  have H4 : Hid (NestAt w a4 n4 A4 L4 C4 S4) := h4
  clear h0 h1 h2 h3 h4
  go_enter Try.func16, Try.ntmps16
  go_wp2_with (first
    | (go_at_call 22; refine (add_any _ _ _).mono ?_; rintro e w' ⟨⟨z, rfl⟩, hww⟩; obtain rfl := hww.symm)
    | (go_at_call_of 21 (Value.slice a0 n0 c0); refine (strsBytes_any a0 n0 c0 S0 _ ?_ ?_).mono ?_; (unfold maxLen; omega); (exact H0.out); rintro e w' ⟨⟨z, rfl⟩, hww⟩; obtain rfl := hww.symm)
    | (go_at_call_of 21 (Value.slice a1 n1 c1); refine (strsBytes_any a1 n1 c1 S1 _ ?_ ?_).mono ?_; (unfold maxLen; omega); (exact H1.out); rintro e w' ⟨⟨z, rfl⟩, hww⟩; obtain rfl := hww.symm)
    | (go_at_call_of 21 (Value.slice a2 n2 c2); refine (strsBytes_any a2 n2 c2 S2 _ ?_ ?_).mono ?_; (unfold maxLen; omega); (exact H2.out); rintro e w' ⟨⟨z, rfl⟩, hww⟩; obtain rfl := hww.symm)
    | (go_at_call_of 21 (Value.slice a3 n3 c3); refine (strsBytes_any a3 n3 c3 S3 _ ?_ ?_).mono ?_; (unfold maxLen; omega); (exact H3.out); rintro e w' ⟨⟨z, rfl⟩, hww⟩; obtain rfl := hww.symm)
    | (go_at_call 23; refine (nestedBytes_any a4 n4 c4 A4 L4 C4 S4 _ ?_ ?_).mono ?_; (unfold maxLen; omega); (exact H4.out); rintro e w' ⟨⟨z, rfl⟩, hww⟩; obtain rfl := hww.symm))
  all_goals
    go_ret
    exact ⟨⟨_, rfl, fun _ => by first | omega | simp_all⟩, rfl⟩

theorem bnext' {a b c : World} (h : Below a.heap.size a b) (k : Below b.heap.size b c) : Below a.heap.size a c := h.trans (k.mono h.size)

theorem AllAt.take {w : World} {ad : Option Addr} {n h : Nat} {ID : Nat → ByteArray} {TA : Nat → Option Addr} {TN TC : Nat → Nat} {TS : Nat → Nat → ByteArray} (hf : AllAt w ad n ID TA TN TC TS) (hh : h ≤ n) : AllAt w ad h ID TA TN TC TS := fun i hi => hf i (by omega)

theorem AllAt.drop {w : World} {g n h : Nat} {ID : Nat → ByteArray} {TA : Nat → Option Addr} {TN TC : Nat → Nat} {TS : Nat → Nat → ByteArray} (hf : AllAt w (some ⟨g, 0, none⟩) n ID TA TN TC TS) :
    AllAt w (some ⟨g, h * 7, none⟩) (n - h) (fun i => ID (h + i)) (fun i => TA (h + i)) (fun i => TN (h + i)) (fun i => TC (h + i)) (fun i => TS (h + i)) := by
  intro i hi
  obtain ⟨h1, h2, b, off, e, h3, h4⟩ := hf (h + i) (by omega)
  cases e
  refine ⟨h1, h2, g, h * 7, rfl, ?_, ?_⟩
  · rw [← h3]; congr 2; omega
  · rw [← h4]; congr 2; omega

theorem AllAt.below {w w' : World} {ad : Option Addr} {n : Nat} {ID : Nat → ByteArray} {TA : Nat → Option Addr} {TN TC : Nat → Nat} {TS : Nat → Nat → ByteArray} (hf : AllAt w ad n ID TA TN TC TS) (hb : Below w.heap.size w w') : AllAt w' ad n ID TA TN TC TS := by
  intro i hi
  obtain ⟨h1, h2, b, off, e, h3, h4⟩ := hf i hi
  exact ⟨h1, h2.below hb, b, off, e, cell_keep hb h3, cell_keep hb h4⟩

theorem SpAt.below {w w' : World} {ad : Option Addr} {ns : Nat} {S : Nat → ByteArray} (hf : SpAt w ad ns S) (hb : Below w.heap.size w w') : SpAt w' ad ns S := by
  intro i hi
  obtain ⟨b, off, e, h3, h4⟩ := hf i hi
  exact ⟨b, off, e, cell_keep hb h3, cell_keep hb h4⟩

theorem cnt_facts (lm : Bool) (n h : Nat) (hh : h ≤ n) (f : Nat → Bool) : cntB lm n f = cntB lm h f + cntB lm (n - h) (fun i => f (h + i)) ∧ cntB lm n f ≤ n ∧ (lm = false → cntB lm n f = 0) := by
  cases lm with
  | false => exact ⟨rfl, Nat.zero_le _, fun _ => rfl⟩
  | true =>
    refine ⟨?_, countB_le n f, fun h => (by cases h)⟩
    have := countB_split h (n - h) f
    rw [show h + (n - h) = n by omega] at this
    exact this

theorem cnt_zero (lm : Bool) (f : Nat → Bool) : cntB lm 0 f = 0 := by cases lm <;> rfl

theorem new3 {W wr : World} {x0 x1 x2 : Value} {e : TypeId} (hW : W = wr.alloc (.cells #[x0, x1, x2] e)) :
    W.cell? ⟨wr.heap.size, 0, none⟩ = some x0 ∧ W.cell? ⟨wr.heap.size, 1, none⟩ = some x1 ∧ W.cell? ⟨wr.heap.size, 2, none⟩ = some x2 ∧ Below wr.heap.size wr W := by
  subst hW
  have hh := heap_alloc_new wr (.cells #[x0, x1, x2] e)
  refine ⟨?_, ?_, ?_, (Below.refl _ _).alloc (Nat.le_refl _) _⟩ <;> (simp only [World.cell?, hh]; rfl)

set_option maxHeartbeats 4000000 in
set_option maxRecDepth 100000 in
theorem prod_walk (a0 : Option Addr) (n0 c0 : Nat) (S0 : Nat → ByteArray) (a1 : Option Addr) (n1 c1 : Nat) (S1 : Nat → ByteArray) (a2 : Option Addr) (n2 c2 : Nat) (S2 : Nat → ByteArray) (a3 : Option Addr) (n3 c3 : Nat) (S3 : Nat → ByteArray) (a4 : Option Addr) (n4 c4 : Nat) (A4 : Nat → Option Addr) (L4 C4 : Nat → Nat) (S4 : Nat → Nat → ByteArray) (w : World)
    (m0 : n0 * 16 ≤ 140737488351232) (m1 : n1 * 16 ≤ 140737488351232) (m2 : n2 * 16 ≤ 140737488351232) (m3 : n3 * 16 ≤ 140737488351232) (m4 : n4 * 24 ≤ 140737488351232)
    (z0 : a0 = none → n0 = 0 ∧ c0 = 0) (z1 : a1 = none → n1 = 0 ∧ c1 = 0) (z2 : a2 = none → n2 = 0 ∧ c2 = 0) (z3 : a3 = none → n3 = 0 ∧ c3 = 0) (z4 : a4 = none → n4 = 0 ∧ c4 = 0)
    (h0 : StrsAt w a0 n0 S0) (h1 : StrsAt w a1 n1 S1) (h2 : StrsAt w a2 n2 S2) (h3 : StrsAt w a3 n3 S3) (h4 : NestAt w a4 n4 A4 L4 C4 S4) :
    Calls Try.prog 5 #[.slice a0 n0 c0, .slice a1 n1 c1, .slice a2 n2 c2, .slice a3 n3 c3, .slice a4 n4 c4] w fun e w' => e = .returned (.bool true) ∧ Below w.heap.size w w' := by
  have H0 : Hid (StrsAt w a0 n0 S0) := h0
  have H1 : Hid (StrsAt w a1 n1 S1) := h1
  have H2 : Hid (StrsAt w a2 n2 S2) := h2
  have H3 : Hid (StrsAt w a3 n3 S3) := h3
  have H4 : Hid (NestAt w a4 n4 A4 L4 C4 S4) := h4
  have Z : Hid ((a0 = none → n0 = 0 ∧ c0 = 0) ∧ (a1 = none → n1 = 0 ∧ c1 = 0) ∧ (a2 = none → n2 = 0 ∧ c2 = 0) ∧ (a3 = none → n3 = 0 ∧ c3 = 0) ∧ (a4 = none → n4 = 0 ∧ c4 = 0)) := ⟨z0, z1, z2, z3, z4⟩
  clear h0 h1 h2 h3 h4 z0 z1 z2 z3 z4
  go_enter Try.func5, Try.ntmps5
  go_wp2_with fail
  refine (zz15_any a0 n0 c0 S0 a1 n1 c1 S1 a2 n2 c2 S2 a3 n3 c3 S3 a4 n4 c4 A4 L4 C4 S4 _ (by unfold maxLen; omega) H0.out (by unfold maxLen; omega) H1.out (by unfold maxLen; omega) H2.out (by unfold maxLen; omega) H3.out (by unfold maxLen; omega) H4.out).mono ?_
  rintro e w' ⟨⟨b, rfl⟩, hww⟩
  obtain rfl := hww.symm
  cases b with
  | false =>
    go_wp2
    go_ret
    exact ⟨rfl, Below.refl _ _⟩
  | true =>
  go_wp2_with fail
  refine (over16_any a0 n0 c0 S0 a1 n1 c1 S1 a2 n2 c2 S2 a3 n3 c3 S3 a4 n4 c4 A4 L4 C4 S4 _ H0.out H1.out H2.out H3.out H4.out).mono ?_
  rintro e w' ⟨⟨b, rfl, hlid⟩, hww⟩
  obtain rfl := hww.symm
  cases b with
  | true =>
    clear hlid
    go_wp2
    go_ret
    exact ⟨rfl, Below.refl _ _⟩
  | false =>
  obtain ⟨hn2, hn3⟩ := hlid rfl
  clear hlid
  go_wp2_with fail
  refine (cloneStrs_any a0 n0 c0 S0 _ m0 Z.out.1 H0.out).mono ?_
  rintro e w1 ⟨b0, d0, rfl, y0, _, hb, hB⟩
  have K0 : Hid (StrsAt w1 b0 n0 S0) := hb
  have Y0 : Hid (b0 = none → n0 = 0 ∧ d0 = 0) := y0
  have J1 : Hid (Below w.heap.size w w1) := hB
  have B1 : Hid (Below w.heap.size w w1) := hB
  clear hb hB y0
  go_wp2_with fail
  refine (cloneStrs_any a1 n1 c1 S1 _ m1 Z.out.2.1 (H1.out.below B1.out)).mono ?_
  rintro e w2 ⟨b1, d1, rfl, y1, _, hb, hB⟩
  have K1 : Hid (StrsAt w2 b1 n1 S1) := hb
  have Y1 : Hid (b1 = none → n1 = 0 ∧ d1 = 0) := y1
  have J2 : Hid (Below w1.heap.size w1 w2) := hB
  have B2 : Hid (Below w.heap.size w w2) := bnext' B1.out hB
  clear hb hB y1
  go_wp2_with fail
  refine (cloneStrs_any a2 n2 c2 S2 _ m2 Z.out.2.2.1 (H2.out.below B2.out)).mono ?_
  rintro e w3 ⟨b2, d2, rfl, y2, _, hb, hB⟩
  have K2 : Hid (StrsAt w3 b2 n2 S2) := hb
  have Y2 : Hid (b2 = none → n2 = 0 ∧ d2 = 0) := y2
  have J3 : Hid (Below w2.heap.size w2 w3) := hB
  have B3 : Hid (Below w.heap.size w w3) := bnext' B2.out hB
  clear hb hB y2
  go_wp2_with fail
  refine (cloneStrs_any a3 n3 c3 S3 _ m3 Z.out.2.2.2.1 (H3.out.below B3.out)).mono ?_
  rintro e w4 ⟨b3, d3, rfl, y3, _, hb, hB⟩
  have K3 : Hid (StrsAt w4 b3 n3 S3) := hb
  have Y3 : Hid (b3 = none → n3 = 0 ∧ d3 = 0) := y3
  have J4 : Hid (Below w3.heap.size w3 w4) := hB
  have B4 : Hid (Below w.heap.size w w4) := bnext' B3.out hB
  clear hb hB y3
  go_wp2_with fail
  refine (cloneNested_any a4 n4 c4 A4 L4 C4 S4 _ m4 Z.out.2.2.2.2 (H4.out.below B4.out)).mono ?_
  rintro e w5 ⟨b4, d4, A4', C4', rfl, hb, hB⟩
  have K4 : Hid (NestAt w5 b4 n4 A4' L4 C4' S4) := hb
  have J5 : Hid (Below w4.heap.size w4 w5) := hB
  have B5 : Hid (Below w.heap.size w w5) := bnext' B4.out hB
  have T3 : Hid (StrsAt w5 b3 n3 S3) := K3.out.below J5.out
  have T2 : Hid (StrsAt w5 b2 n2 S2) := K2.out.below (bnext' J4.out J5.out)
  have T1 : Hid (StrsAt w5 b1 n1 S1) := K1.out.below (bnext' J3.out (bnext' J4.out J5.out))
  have T0 : Hid (StrsAt w5 b0 n0 S0) := K0.out.below (bnext' J2.out (bnext' J3.out (bnext' J4.out J5.out)))
  clear hb hB K0 K1 K2 K3 J1 J2 J3 J4 J5 B1 B2 B3 B4 H0 H1 H2 H3 H4 Z
  go_wp2_with fail
  refine (make_any b3 n3 d3 S3 b4 n4 d4 A4' L4 C4' S4 _ hn3 T3.out K4.out).mono ?_
  rintro e w6 ⟨rfl, hall, hB⟩
  obtain ⟨g, hg⟩ : ∃ g, w5.heap.size = g := ⟨_, rfl⟩
  rw [hg] at hall ⊢
  clear hg
  have QA : Hid (AllAt w6 (some ⟨g, 0, none⟩) n3 S3 (atA n4 A4') (atN n4 L4) (atN n4 C4') S4) := hall
  have B6 : Hid (Below w.heap.size w w6) := bnext' B5.out hB
  have U2 : Hid (StrsAt w6 b2 n2 S2) := T2.out.below hB
  have U1 : Hid (StrsAt w6 b1 n1 S1) := T1.out.below hB
  have U0 : Hid (StrsAt w6 b0 n0 S0) := T0.out.below hB
  clear hall hB T0 T1 T2 T3 K4 B5
  go_wp2_with fail
  refine (app_any b0 n0 d0 b1 n1 d1 b2 n2 d2 S2 _ hn2 Y2.out U2.out).mono ?_
  rintro e w7 ⟨ad, cs, rfl, hsp, hB⟩
  have J7 : Hid (Below w6.heap.size w6 w7) := hB
  have QS : Hid (SpAt w7 ad n2 S2) := hsp
  clear hB hsp
  have hdv : ((n3 : Int) / 2) = ((n3 / 2 : Nat) : Int) := by omega
  have hle : n3 / 2 ≤ n3 := by omega
  have HLT : Hid (0 < n3 → n3 / 2 < n3) := show 0 < n3 → n3 / 2 < n3 by omega
  generalize n3 / 2 = h at *
  go_wp2_with fail
  obtain ⟨W, hW⟩ : ∃ W, W = w7.alloc (.cells #[.slice b0 n0 d0, .slice b1 n1 d1, .slice ad n2 cs] 42) := ⟨_, rfl⟩
  obtain ⟨k0, k1, k2, qB⟩ := new3 hW
  rw [← hW]
  have JW : Hid (Below w6.heap.size w6 W) := bnext' J7.out qB
  have PW : Hid (∀ (m : Nat) (al : Option Addr) (n c : Nat) (ID : Nat → ByteArray) (TA : Nat → Option Addr) (TN TC : Nat → Nat) (TS : Nat → Nat → ByteArray), n ≤ 4096 → AllAt W al n ID TA TN TC TS →
      Calls Try.prog 19 #[.pointer (some ⟨w7.heap.size, 0, none⟩), .slice al n c] (W.drewN m) fun e w' => e = .returned (.tuple #[.int .i64 (cntB (limB n0 n1 n2 S2) n (fun i => applB n0 S0 n1 S1 n2 S2 (ID i) (TN i) (TS i))), .bool (limB n0 n1 n2 S2)]) ∧ ∃ m', w' = (W.drewN m).drewN m') :=
    fun m al n c ID TA TN TC TS hn ha => zzproducts_any w7.heap.size b0 n0 d0 S0 b1 n1 d1 S1 ad n2 cs S2 al n c ID TA TN TC TS (W.drewN m) (by unfold maxLen; omega) (by unfold maxLen; omega) hn2 hn (U0.out.below (below_drewN JW.out m)) (U1.out.below (below_drewN JW.out m)) (QS.out.below (below_drewN qB m)) ha k0 k1 k2
  have V2 : Hid (∀ m, StrsAt (W.drewN m) b2 n2 S2) := fun m => U2.out.below (below_drewN JW.out m)
  have VA : Hid (AllAt W (some ⟨g, 0, none⟩) n3 S3 (atA n4 A4') (atN n4 L4) (atN n4 C4') S4) := QA.out.below JW.out
  have BW : Hid (∀ m, Below w.heap.size w (W.drewN m)) := fun m => below_drewN (bnext' B6.out JW.out) m
  generalize w7.heap.size = ga at *
  clear k0 k1 k2 hW qB QA QS U0 U1 U2 B6 J7 JW
  refine (PW.out 0 (some ⟨g, 0, none⟩) n3 n3 S3 (atA n4 A4') (atN n4 L4) (atN n4 C4') S4 hn3 VA.out).mono ?_
  rintro e wx ⟨rfl, k1, rfl⟩
  rw [World.drewN_drewN]
  go_wp2_with fail
  refine (PW.out _ (some ⟨g, 0, none⟩) h n3 S3 (atA n4 A4') (atN n4 L4) (atN n4 C4') S4 (by omega) (VA.out.take hle)).mono ?_
  rintro e wx ⟨rfl, k2, rfl⟩
  rw [World.drewN_drewN]
  by_cases hpos : 0 < n3
  · have hlt := HLT.out hpos
    go_wp2_with fail
    refine (PW.out _ (some ⟨g, h * 7, none⟩) (n3 - h) (n3 - h) (fun i => S3 (h + i)) (fun i => atA n4 A4' (h + i)) (fun i => atN n4 L4 (h + i)) (fun i => atN n4 C4' (h + i)) (fun i => S4 (h + i)) (by omega) VA.out.drop).mono ?_
    rintro e wz ⟨rfl, k3, rfl⟩
    rw [World.drewN_drewN]
    have hcf := cnt_facts (limB n0 n1 n2 S2) n3 h (by omega) (fun i => applB n0 S0 n1 S1 n2 S2 (S3 i) (atN n4 L4 i) (S4 i))
    have HC2 : Hid (cntB (limB n0 n1 n2 S2) (n3 - h) (fun i => applB n0 S0 n1 S1 n2 S2 (S3 (h + i)) (atN n4 L4 (h + i)) (S4 (h + i))) = cntB (limB n0 n1 n2 S2) (n3 - h) (fun i => (fun i => applB n0 S0 n1 S1 n2 S2 (S3 i) (atN n4 L4 i) (S4 i)) (h + i))) := rfl
    rw [← HC2.out] at hcf
    clear HC2
    generalize cntB (limB n0 n1 n2 S2) (n3 - h) (fun i => applB n0 S0 n1 S1 n2 S2 (S3 (h + i)) (atN n4 L4 (h + i)) (S4 (h + i))) = q2 at hcf ⊢
    generalize cntB (limB n0 n1 n2 S2) h (fun i => applB n0 S0 n1 S1 n2 S2 (S3 i) (atN n4 L4 i) (S4 i)) = q1 at hcf ⊢
    generalize cntB (limB n0 n1 n2 S2) n3 (fun i => applB n0 S0 n1 S1 n2 S2 (S3 i) (atN n4 L4 i) (S4 i)) = q0 at hcf ⊢
    obtain ⟨e1, e2, e3⟩ := hcf
    subst e1
    have e4 : (q1 : Int) + (q2 : Int) ≤ (n3 : Int) := by omega
    go_wp2_with fail
    refine (limited_any b0 n0 d0 b1 n1 d1 b2 n2 d2 S2 _ (by unfold maxLen; omega) (by exact V2.out _)).mono ?_
    rintro e wy ⟨rfl, hww⟩
    obtain rfl := hww.symm
    cases hlm : limB n0 n1 n2 S2 with
    | true =>
      clear e3 hlm
      go_wp2
      go_ret
      exact ⟨rfl, BW.out _⟩
    | false =>
      have e5 := e3 hlm
      have e7 : q1 = 0 := by omega
      have e8 : q2 = 0 := by omega
      subst e7 e8
      clear e3 hlm e5
      go_wp2
      go_ret
      exact ⟨rfl, BW.out _⟩
  · obtain rfl : n3 = 0 := by omega
    obtain rfl : h = 0 := by omega
    go_wp2_with fail
    refine (PW.out _ (some ⟨g, 0, none⟩) 0 0 S3 (atA n4 A4') (atN n4 L4) (atN n4 C4') S4 (by omega) VA.out).mono ?_
    rintro e wz ⟨rfl, k3, rfl⟩
    rw [World.drewN_drewN]
    simp only [cnt_zero]
    go_wp2_with fail
    refine (limited_any b0 n0 d0 b1 n1 d1 b2 n2 d2 S2 _ (by unfold maxLen; omega) (by exact V2.out _)).mono ?_
    rintro e wy ⟨rfl, hww⟩
    obtain rfl := hww.symm
    cases hlm : limB n0 n1 n2 S2 with
    | true =>
      clear hlm
      go_wp2
      go_ret
      exact ⟨rfl, BW.out _⟩
    | false =>
      clear hlm
      go_wp2
      go_ret
      exact ⟨rfl, BW.out _⟩

end Go.Proofs.Qxb6604472a
