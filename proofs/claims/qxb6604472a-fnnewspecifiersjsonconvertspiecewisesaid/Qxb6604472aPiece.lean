import Derived.Test.Qxb6604472aShift
import Derived.Test.Qxb6604472aZzB
namespace Go.Proofs.Qxb6604472a
open Go.RowKit Go.Maps Go.ChangeMaps Go.WideMaps
attribute [local go_sem] eq22 eq29 eq31
attribute [local go_sem ↓] Go.wp_at_zero Go.wp_at_succ

set_option maxHeartbeats 8000000 in
set_option maxRecDepth 100000 in
theorem piece_walk (a0 : Option Addr) (n0 c0 : Nat) (S0 : Nat → ByteArray)
    (a1 : Option Addr) (n1 c1 : Nat) (A1 : Nat → Option Addr) (L1 C1 : Nat → Nat) (S1 : Nat → Nat → ByteArray)
    (a2 : Option Addr) (n2 c2 : Nat) (A2 : Nat → Option Addr) (L2 C2 : Nat → Nat) (S2 : Nat → Nat → ByteArray)
    (a3 : Option Addr) (n3 c3 : Nat) (A3 : Nat → Option Addr) (L3 C3 : Nat → Nat) (S3 : Nat → Nat → ByteArray)
    (a4 : Option Addr) (n4 c4 : Nat) (A4 : Nat → Option Addr) (L4 C4 : Nat → Nat) (S4 : Nat → Nat → ByteArray)
    (a5 : Option Addr) (n5 c5 : Nat) (A5 : Nat → Option Addr) (L5 C5 : Nat → Nat) (S5 : Nat → Nat → ByteArray)
    (a6 : Option Addr) (n6 c6 : Nat) (A6 : Nat → Option Addr) (L6 C6 : Nat → Nat) (S6 : Nat → Nat → ByteArray) (w : World)
    (m0 : n0 * 16 ≤ 140737488351232) (m1 : n1 * 24 ≤ 140737488351232) (m2 : n2 * 24 ≤ 140737488351232) (m3 : n3 * 24 ≤ 140737488351232) (m4 : n4 * 24 ≤ 140737488351232) (m5 : n5 * 24 ≤ 140737488351232) (m6 : n6 * 24 ≤ 140737488351232)
    (z0 : a0 = none → n0 = 0 ∧ c0 = 0) (z1 : a1 = none → n1 = 0 ∧ c1 = 0) (z2 : a2 = none → n2 = 0 ∧ c2 = 0) (z3 : a3 = none → n3 = 0 ∧ c3 = 0) (z4 : a4 = none → n4 = 0 ∧ c4 = 0) (z5 : a5 = none → n5 = 0 ∧ c5 = 0) (z6 : a6 = none → n6 = 0 ∧ c6 = 0)
    (h0 : StrsAt w a0 n0 S0) (h1 : NestAt w a1 n1 A1 L1 C1 S1) (h2 : NestAt w a2 n2 A2 L2 C2 S2) (h3 : NestAt w a3 n3 A3 L3 C3 S3) (h4 : NestAt w a4 n4 A4 L4 C4 S4) (h5 : NestAt w a5 n5 A5 L5 C5 S5) (h6 : NestAt w a6 n6 A6 L6 C6 S6)
    (s2 : ∀ i j, (S2 i j).size ≤ maxLen) (s3 : ∀ i j, (S3 i j).size ≤ maxLen) (s4 : ∀ i j, (S4 i j).size ≤ maxLen) (s5 : ∀ i j, (S5 i j).size ≤ maxLen) :
    Calls Try.prog 4 #[.slice a0 n0 c0, .slice a1 n1 c1, .slice a2 n2 c2, .slice a3 n3 c3, .slice a4 n4 c4, .slice a5 n5 c5, .slice a6 n6 c6] w fun e w' => e = .returned (.bool true) ∧ Below w.heap.size w w' := by
  have H0 : Hid (StrsAt w a0 n0 S0) := h0
  have H1 : Hid (NestAt w a1 n1 A1 L1 C1 S1) := h1
  have H2 : Hid (NestAt w a2 n2 A2 L2 C2 S2) := h2
  have H3 : Hid (NestAt w a3 n3 A3 L3 C3 S3) := h3
  have H4 : Hid (NestAt w a4 n4 A4 L4 C4 S4) := h4
  have H5 : Hid (NestAt w a5 n5 A5 L5 C5 S5) := h5
  have H6 : Hid (NestAt w a6 n6 A6 L6 C6 S6) := h6
  have Z : Hid ((a0 = none → n0 = 0 ∧ c0 = 0) ∧ (a1 = none → n1 = 0 ∧ c1 = 0) ∧ (a2 = none → n2 = 0 ∧ c2 = 0) ∧ (a3 = none → n3 = 0 ∧ c3 = 0) ∧ (a4 = none → n4 = 0 ∧ c4 = 0) ∧ (a5 = none → n5 = 0 ∧ c5 = 0) ∧ (a6 = none → n6 = 0 ∧ c6 = 0)) := ⟨z0, z1, z2, z3, z4, z5, z6⟩
  have HS : Hid ((∀ i j, (S2 i j).size ≤ maxLen) ∧ (∀ i j, (S3 i j).size ≤ maxLen) ∧ (∀ i j, (S4 i j).size ≤ maxLen) ∧ (∀ i j, (S5 i j).size ≤ maxLen)) := ⟨s2, s3, s4, s5⟩
  clear h0 h1 h2 h3 h4 h5 h6 z0 z1 z2 z3 z4 z5 z6 s2 s3 s4 s5
  go_enter Try.func4, Try.ntmps4
  go_wp2_with fail
  refine (zz14_any a0 n0 c0 S0 a1 n1 c1 A1 L1 C1 S1 a2 n2 c2 A2 L2 C2 S2 a3 n3 c3 A3 L3 C3 S3 a4 n4 c4 A4 L4 C4 S4 a5 n5 c5 A5 L5 C5 S5 a6 n6 c6 A6 L6 C6 S6 _ (by unfold maxLen; omega) H0.out (by unfold maxLen; omega) H1.out (by unfold maxLen; omega) H2.out (by unfold maxLen; omega) H3.out (by unfold maxLen; omega) H4.out (by unfold maxLen; omega) H5.out (by unfold maxLen; omega) H6.out).mono ?_
  rintro e w' ⟨⟨b, rfl⟩, hww⟩
  obtain rfl := hww.symm
  cases b with
  | false =>
    go_wp2
    go_ret
    exact ⟨rfl, Below.refl _ _⟩
  | true =>
  go_wp2_with fail
  refine (over7_any a0 n0 c0 S0 a1 n1 c1 A1 L1 C1 S1 a2 n2 c2 A2 L2 C2 S2 a3 n3 c3 A3 L3 C3 S3 a4 n4 c4 A4 L4 C4 S4 a5 n5 c5 A5 L5 C5 S5 a6 n6 c6 A6 L6 C6 S6 _ H0.out H1.out H2.out H3.out H4.out H5.out H6.out).mono ?_
  rintro e w' ⟨⟨b, rfl, hlid⟩, hww⟩
  obtain rfl := hww.symm
  cases b with
  | true =>
    clear hlid
    go_wp2
    go_ret
    exact ⟨rfl, Below.refl _ _⟩
  | false =>
  have hn : n0 ≤ 4096 := hlid rfl
  clear hlid
  go_wp2_with fail
  refine (cloneStrs_any a0 n0 c0 S0 _ m0 Z.out.1 H0.out).mono ?_
  rintro e w1 ⟨b0, d0, rfl, y0, _, hb0, hB⟩
  have K0 : Hid (StrsAt w1 b0 n0 S0) := hb0
  have B1 : Hid (Below w.heap.size w w1) := hB
  have Y0 : Hid (b0 = none → n0 = 0 ∧ d0 = 0) := y0
  clear hb0 hB y0
  go_wp2_with fail
  refine (cloneNested_any a1 n1 c1 A1 L1 C1 S1 _ m1 (Z.out.2.1) (H1.out.below B1.out)).mono ?_
  rintro e w2 ⟨b1, d1, A1', C1', rfl, hbx, hB⟩
  have K1 : Hid (NestAt w2 b1 n1 A1' L1 C1' S1) := hbx
  have J2 : Hid (Below w1.heap.size w1 w2) := hB
  have B2 : Hid (Below w.heap.size w w2) := bnext B1.out hB
  clear hbx hB
  go_wp2_with fail
  refine (cloneNested_any a2 n2 c2 A2 L2 C2 S2 _ m2 (Z.out.2.2.1) (H2.out.below B2.out)).mono ?_
  rintro e w3 ⟨b2, d2, A2', C2', rfl, hbx, hB⟩
  have K2 : Hid (NestAt w3 b2 n2 A2' L2 C2' S2) := hbx
  have J3 : Hid (Below w2.heap.size w2 w3) := hB
  have B3 : Hid (Below w.heap.size w w3) := bnext B2.out hB
  clear hbx hB
  go_wp2_with fail
  refine (cloneNested_any a3 n3 c3 A3 L3 C3 S3 _ m3 (Z.out.2.2.2.1) (H3.out.below B3.out)).mono ?_
  rintro e w4 ⟨b3, d3, A3', C3', rfl, hbx, hB⟩
  have K3 : Hid (NestAt w4 b3 n3 A3' L3 C3' S3) := hbx
  have J4 : Hid (Below w3.heap.size w3 w4) := hB
  have B4 : Hid (Below w.heap.size w w4) := bnext B3.out hB
  clear hbx hB
  go_wp2_with fail
  refine (cloneNested_any a4 n4 c4 A4 L4 C4 S4 _ m4 (Z.out.2.2.2.2.1) (H4.out.below B4.out)).mono ?_
  rintro e w5 ⟨b4, d4, A4', C4', rfl, hbx, hB⟩
  have K4 : Hid (NestAt w5 b4 n4 A4' L4 C4' S4) := hbx
  have J5 : Hid (Below w4.heap.size w4 w5) := hB
  have B5 : Hid (Below w.heap.size w w5) := bnext B4.out hB
  clear hbx hB
  go_wp2_with fail
  refine (cloneNested_any a5 n5 c5 A5 L5 C5 S5 _ m5 (Z.out.2.2.2.2.2.1) (H5.out.below B5.out)).mono ?_
  rintro e w6 ⟨b5, d5, A5', C5', rfl, hbx, hB⟩
  have K5 : Hid (NestAt w6 b5 n5 A5' L5 C5' S5) := hbx
  have J6 : Hid (Below w5.heap.size w5 w6) := hB
  have B6 : Hid (Below w.heap.size w w6) := bnext B5.out hB
  clear hbx hB
  go_wp2_with fail
  refine (cloneNested_any a6 n6 c6 A6 L6 C6 S6 _ m6 (Z.out.2.2.2.2.2.2) (H6.out.below B6.out)).mono ?_
  rintro e w7 ⟨b6, d6, A6', C6', rfl, hbx, hB⟩
  have K6 : Hid (NestAt w7 b6 n6 A6' L6 C6' S6) := hbx
  have J7 : Hid (Below w6.heap.size w6 w7) := hB
  have B7 : Hid (Below w.heap.size w w7) := bnext B6.out hB
  clear hbx hB
  have X7 : Hid (Below w7.heap.size w7 w7) := Below.refl _ _
  have X6 : Hid (Below w6.heap.size w6 w7) := bnext J7.out X7.out
  have X5 : Hid (Below w5.heap.size w5 w7) := bnext J6.out X6.out
  have X4 : Hid (Below w4.heap.size w4 w7) := bnext J5.out X5.out
  have X3 : Hid (Below w3.heap.size w3 w7) := bnext J4.out X4.out
  have X2 : Hid (Below w2.heap.size w2 w7) := bnext J3.out X3.out
  have X1 : Hid (Below w1.heap.size w1 w7) := bnext J2.out X2.out
  have T0 : Hid (StrsAt w7 b0 n0 S0) := K0.out.below X1.out
  have T1 : Hid (NestAt w7 b1 n1 A1' L1 C1' S1) := K1.out.below X2.out
  have T2 : Hid (NestAt w7 b2 n2 A2' L2 C2' S2) := K2.out.below X3.out
  have T3 : Hid (NestAt w7 b3 n3 A3' L3 C3' S3) := K3.out.below X4.out
  have T4 : Hid (NestAt w7 b4 n4 A4' L4 C4' S4) := K4.out.below X5.out
  have T5 : Hid (NestAt w7 b5 n5 A5' L5 C5' S5) := K5.out.below X6.out
  have T6 : Hid (NestAt w7 b6 n6 A6' L6 C6' S6) := K6.out.below X7.out
  clear K0 K1 K2 K3 K4 K5 K6 J2 J3 J4 J5 J6 J7 X1 X2 X3 X4 X5 X6 X7 B1 B2 B3 B4 B5 B6 H0 H1 H2 H3 H4 H5 H6 Z m1 m2 m3 m4 m5 m6
  go_wp2_with fail
  refine (specs_any b0 n0 d0 S0 b1 n1 d1 A1' L1 C1' S1 b2 n2 d2 A2' L2 C2' S2 b3 n3 d3 A3' L3 C3' S3 b4 n4 d4 A4' L4 C4' S4 b5 n5 d5 A5' L5 C5' S5 b6 n6 d6 A6' L6 C6' S6 _ hn Y0.out T0.out T1.out T2.out T3.out T4.out T5.out T6.out HS.out.1 HS.out.2.1 HS.out.2.2.1 HS.out.2.2.2).mono ?_
  rintro e w8 ⟨ads, F, rfl, hads, hF, hok, hB⟩
  have QF : Hid (FivesAt w8 ads n0 F) := hF
  have QO : Hid (SpecsOk w8 F n0 S0) := hok
  have B8 : Hid (Below w.heap.size w w8) := bnext B7.out hB
  have U0 : Hid (StrsAt w8 b0 n0 S0) := T0.out.below hB
  have U2 : Hid (NestAt w8 b2 n2 A2' L2 C2' S2) := T2.out.below hB
  have U4 : Hid (NestAt w8 b4 n4 A4' L4 C4' S4) := T4.out.below hB
  have QA : Hid ((ads = none ∧ n0 = 0) ∨ ∃ g, ads = some ⟨g, 0, none⟩) := hads
  clear hF hok hB hads T0 T1 T2 T3 T4 T5 T6 B7 Y0
  have hdv : ((n0 : Int) / 2) = ((n0 / 2 : Nat) : Int) := by omega
  have hle : n0 / 2 ≤ n0 := by omega
  have hlt0 : 0 < n0 → n0 / 2 < n0 := by omega
  have HLT : Hid (0 < n0 → n0 / 2 < n0) := hlt0
  clear hlt0
  generalize n0 / 2 = h at *
  rcases QA.out with ⟨rfl, rfl⟩ | ⟨g, rfl⟩
  · obtain rfl : h = 0 := by omega
    clear hle HLT
    go_wp2_with fail
    refine (zzjson_any none 0 0 F _ (by omega) FivesAt.none).mono ?_
    rintro e w9 ⟨ado, co, rfl, hno9, hO9, hB9⟩
    have J9 : Hid (Below w8.heap.size w8 w9) := hB9
    have O9 : Hid (FivesAt w9 ado 0 F) := hO9
    clear hB9 hO9
    go_wp2_with fail
    refine (zzjson_any none 0 0 F _ (by omega) FivesAt.none).mono ?_
    rintro e w10 ⟨adf, cf, rfl, hno10, hO10, hB10⟩
    have J10 : Hid (Below w9.heap.size w9 w10) := hB10
    have O10 : Hid (FivesAt w10 adf 0 F) := hO10
    clear hB10 hO10
    go_wp2_with fail
    refine (zzjson_any none 0 0 F _ (by omega) FivesAt.none).mono ?_
    rintro e w11 ⟨adb, cb, rfl, hno11, hO11, hB11⟩
    have J11 : Hid (Below w10.heap.size w10 w11) := hB11
    have O11 : Hid (FivesAt w11 adb 0 F) := hO11
    clear hB11 hO11
    have BE : Hid (Below w.heap.size w w11) := bnext (bnext (bnext B8.out J9.out) J10.out) J11.out
    simp only [decide_true, Option.isNone_iff_eq_none] at hno9 hno10 hno11
    subst hno9 hno10 hno11
    go_wp2_with fail
    refine wp_loop_rounds 1 ?_
    rw [rounds_succ]
    go_wp2
    go_ret
    exact ⟨rfl, BE.out⟩
  · by_cases hpos : 0 < n0
    · have hlt := HLT.out hpos
      go_wp2_with fail
      refine (zzjson_any (some ⟨g, 0, none⟩) n0 n0 F _ (by omega) QF.out).mono ?_
      rintro e w9 ⟨ado, co, rfl, hno9, hO9, hB9⟩
      have J9 : Hid (Below w8.heap.size w8 w9) := hB9
      have O9 : Hid (FivesAt w9 ado n0 F) := hO9
      clear hB9 hO9
      go_wp2_with fail
      refine (zzjson_any (some ⟨g, 0, none⟩) h n0 F _ (by omega) ((QF.out.below J9.out).take hle)).mono ?_
      rintro e w10 ⟨adf, cf, rfl, hno10, hO10, hB10⟩
      have J10 : Hid (Below w9.heap.size w9 w10) := hB10
      have O10 : Hid (FivesAt w10 adf h F) := hO10
      clear hB10 hO10
      go_wp2_with fail
      refine (zzjson_any (some ⟨g, h * 5, none⟩) (n0 - h) (n0 - h) (F.shift h) _ (by omega) ((QF.out.below J9.out).below J10.out).drop).mono ?_
      rintro e w11 ⟨adb, cb, rfl, hno11, hO11, hB11⟩
      have J11 : Hid (Below w10.heap.size w10 w11) := hB11
      have O11 : Hid (FivesAt w11 adb (n0 - h) (F.shift h)) := hO11
      clear hB11 hO11
      have BE : Hid (Below w.heap.size w w11) := bnext (bnext (bnext B8.out J9.out) J10.out) J11.out
      have J911 : Hid (Below w9.heap.size w9 w11) := bnext J10.out J11.out
      have J811 : Hid (Below w8.heap.size w8 w11) := bnext J9.out J911.out
      have LW : Hid (LawW w11 n0 S0 ado (some ⟨g, 0, none⟩) b0 F b2 n2 A2' L2 C2' S2 b4 n4 A4' L4 C4' S4) := ⟨O9.out.below J911.out, QF.out.below J811.out, QO.out.below J811.out, U0.out.below J811.out, U2.out.below J811.out, U4.out.below J811.out, HS.out.1, HS.out.2.2.1⟩
      have OF : Hid (FivesAt w11 adf h F) := O10.out.below J11.out
      have OB : Hid (FivesAt w11 adb (n0 - h) (F.shift h)) := O11.out
      have N9 : Hid (ado.isNone = decide (n0 = 0)) := hno9
      have N10 : Hid (adf.isNone = decide (h = 0)) := hno10
      have N11 : Hid (adb.isNone = decide (n0 - h = 0)) := hno11
      have hz1 : ((n0 : Int) != (n0 : Int)) = false := by simp
      have hz2 : ((h : Int) != (h : Int)) = false := by simp
      have hz3 : (((n0 - h : Nat) : Int) != (n0 : Int) - (h : Int)) = false := by simp; omega
      clear QF QO U0 U2 U4 HS QA B8 J9 J10 J11 O9 O10 O11 J911 J811 hno9 hno10 hno11 HLT
      go_wp2_with fail
      clear hz1 hz2 hz3
      go_loopw [20] (fun i wr => ∃ (k : Nat), k ≤ n0 ∧ i = .int .i64 k ∧ Below w11.heap.size w11 wr) (fun i _ => n0 - (intOf i).toNat)
      case atStart => exact ⟨0, Nat.zero_le _, rfl, Below.refl _ _⟩
      case round =>
        obtain ⟨k, hk, rfl, hbel⟩ := hrel
        by_cases hk0 : k < n0
        · have LR : Hid (LawW wr n0 S0 ado (some ⟨g, 0, none⟩) b0 F b2 n2 A2' L2 C2' S2 b4 n4 A4' L4 C4' S4) := LW.out.below hbel
          have BR : Hid (Below w11.heap.size w11 wr) := hbel
          obtain ⟨bp, op, rfl, hcp⟩ := LR.out.pids k hk0
          have hP : Hid (F.P k = S0 k) := (LR.out.ok k hk0).1
          rw [← hP.out] at hcp
          have i0 : (0 : Int) ≤ (k : Int) := by omega
          have i1 : (k : Int) < (n0 : Int) := by omega
          clear hbel
          have hcsa : ∀ j, j < 5 → wr.cell? ⟨g, k * 5 + j, none⟩ = (F.cells k)[j]? := fun j hj => specs_at LR.out.specs hk0 hj
          obtain ⟨boa, ooa, rfl, hcoa⟩ := LR.out.out k hk0
          have e0 : wr.cell? ⟨boa, ooa + k * 5, none⟩ = some (.string (F.P k)) := hcoa 0 (by omega)
          have e1 : wr.cell? ⟨boa, ooa + k * 5 + 1, none⟩ = some (.slice (F.A1 k) (F.N1 k) (F.C1 k)) := hcoa 1 (by omega)
          have e2 : wr.cell? ⟨boa, ooa + k * 5 + 2, none⟩ = some (.map (F.R2 k)) := hcoa 2 (by omega)
          have e3 : wr.cell? ⟨boa, ooa + k * 5 + 3, none⟩ = some (.map (F.R3 k)) := hcoa 3 (by omega)
          have e4 : wr.cell? ⟨boa, ooa + k * 5 + 4, none⟩ = some (.slice (F.A4 k) (F.N4 k) (F.C4 k)) := hcoa 4 (by omega)
          clear hcoa
          go_wp2_with fail
          obtain ⟨Wa, hW⟩ : ∃ W, W = wr.alloc (.cells #[.string (F.P k), .slice (F.A1 k) (F.N1 k) (F.C1 k), .map (F.R2 k), .map (F.R3 k), .slice (F.A4 k) (F.N4 k) (F.C4 k)] 33) := ⟨_, rfl⟩
          obtain ⟨q0, q1, q2, q3, q4, qB⟩ := new5 hW
          rw [← hW]
          have LQa : Hid (LawW Wa n0 S0 _ _ _ F b2 n2 A2' L2 C2' S2 b4 n4 A4' L4 C4' S4) := LR.out.below qB
          have BQa : Hid (Below w11.heap.size w11 Wa) := bnext BR.out qB
          have r0 : Wa.cell? ⟨g, k * 5, none⟩ = some (.string (F.P k)) := cell_keep qB (cell_keep_eq (hcsa 0 (by omega)))
          have r1 : Wa.cell? ⟨g, k * 5 + 1, none⟩ = some (.slice (F.A1 k) (F.N1 k) (F.C1 k)) := cell_keep qB (cell_keep_eq (hcsa 1 (by omega)))
          have r2 : Wa.cell? ⟨g, k * 5 + 2, none⟩ = some (.map (F.R2 k)) := cell_keep qB (cell_keep_eq (hcsa 2 (by omega)))
          have r3 : Wa.cell? ⟨g, k * 5 + 3, none⟩ = some (.map (F.R3 k)) := cell_keep qB (cell_keep_eq (hcsa 3 (by omega)))
          have r4 : Wa.cell? ⟨g, k * 5 + 4, none⟩ = some (.slice (F.A4 k) (F.N4 k) (F.C4 k)) := cell_keep qB (cell_keep_eq (hcsa 4 (by omega)))
          have t0 : Wa.cell? ⟨bp, op + k, none⟩ = some (.string (F.P k)) := cell_keep qB hcp
          generalize wr.heap.size = gba at *
          clear hcsa hW qB e0 e1 e2 e3 e4
          clear hcp LR BR
          go_quiet (fail)
          go_wp2_with fail
          have LAa : Hid (∀ m, LawW (Wa.drewN m) n0 S0 _ _ _ F b2 n2 A2' L2 C2' S2 b4 n4 A4' L4 C4' S4) := fun m => LQa.out.below (below_drewN (Below.refl _ _) m)
          go_region_held3 (fun w' => w'.cell? ⟨gba, 0, none⟩ = some (.string (F.P k)) ∧ w'.cell? ⟨gba, 1, none⟩ = some (.slice (F.A1 k) (F.N1 k) (F.C1 k)) ∧ w'.cell? ⟨gba, 2, none⟩ = some (.map (F.R2 k)) ∧ w'.cell? ⟨gba, 3, none⟩ = some (.map (F.R3 k)) ∧ w'.cell? ⟨gba, 4, none⟩ = some (.slice (F.A4 k) (F.N4 k) (F.C4 k)) ∧ w'.cell? ⟨g, k * 5, none⟩ = some (.string (F.P k)) ∧ w'.cell? ⟨g, k * 5 + 1, none⟩ = some (.slice (F.A1 k) (F.N1 k) (F.C1 k)) ∧ w'.cell? ⟨g, k * 5 + 2, none⟩ = some (.map (F.R2 k)) ∧ w'.cell? ⟨g, k * 5 + 3, none⟩ = some (.map (F.R3 k)) ∧ w'.cell? ⟨g, k * 5 + 4, none⟩ = some (.slice (F.A4 k) (F.N4 k) (F.C4 k)))
            (first | (refine ⟨?_, ?_, ?_, ?_, ?_, ?_, ?_, ?_, ?_, ?_⟩ <;> with_reducible assumption) | go_keep)
            (first
              | (go_at_call_of 13 (Value.slice b2 n2 d2); refine (at_any b2 n2 d2 A2' L2 C2' S2 _ k ?_).mono ?_; (exact (LAa.out (nq + 1)).pg); rintro e w' ⟨rfl, hww⟩; obtain rfl := hww.symm)
              | (go_at_call_of 13 (Value.slice b4 n4 d4); refine (at_any b4 n4 d4 A4' L4 C4' S4 _ k ?_).mono ?_; (exact (LAa.out (nq + 1)).pr); rintro e w' ⟨rfl, hww⟩; obtain rfl := hww.symm)
              | (go_at_call 12; refine (fields_law (LAa.out (nq + 1)) k hk0).mono ?_; rintro e wfa ⟨rfl, hbfa⟩; have q0f := cell_keep (w1 := Wa.drewN (nq + 1)) hbfa q0; have q1f := cell_keep (w1 := Wa.drewN (nq + 1)) hbfa q1; have q2f := cell_keep (w1 := Wa.drewN (nq + 1)) hbfa q2; have q3f := cell_keep (w1 := Wa.drewN (nq + 1)) hbfa q3; have q4f := cell_keep (w1 := Wa.drewN (nq + 1)) hbfa q4; have r0f := cell_keep (w1 := Wa.drewN (nq + 1)) hbfa r0; have r1f := cell_keep (w1 := Wa.drewN (nq + 1)) hbfa r1; have r2f := cell_keep (w1 := Wa.drewN (nq + 1)) hbfa r2; have r3f := cell_keep (w1 := Wa.drewN (nq + 1)) hbfa r3; have r4f := cell_keep (w1 := Wa.drewN (nq + 1)) hbfa r4)
              | fail)
          have BFa : Hid (Below w11.heap.size w11 wfa) := bnext (bnext BQa.out (below_drewN (Below.refl _ _) (nq + 1))) hbfa
          have LFa : Hid (LawW wfa n0 S0 _ _ _ F b2 n2 A2' L2 C2' S2 b4 n4 A4' L4 C4' S4) := (LAa.out (nq + 1)).below hbfa
          clear q0 q1 q2 q3 q4 r0 r1 r2 r3 r4 q0f q1f q2f q3f q4f r0f r1f r2f r3f r4f hbfa LAa LQa BQa
          clear t0
          by_cases hkh : k < h
          · have FX : Hid (FivesAt wfa adf h F) := OF.out.below BFa.out
            have hcsb : ∀ j, j < 5 → wfa.cell? ⟨g, k * 5 + j, none⟩ = (F.cells k)[j]? := fun j hj => specs_at LFa.out.specs hk0 hj
            obtain ⟨bob, oob, rfl, hcob⟩ := FX.out k hkh
            have e0 : wfa.cell? ⟨bob, oob + k * 5, none⟩ = some (.string (F.P k)) := hcob 0 (by omega)
            have e1 : wfa.cell? ⟨bob, oob + k * 5 + 1, none⟩ = some (.slice (F.A1 k) (F.N1 k) (F.C1 k)) := hcob 1 (by omega)
            have e2 : wfa.cell? ⟨bob, oob + k * 5 + 2, none⟩ = some (.map (F.R2 k)) := hcob 2 (by omega)
            have e3 : wfa.cell? ⟨bob, oob + k * 5 + 3, none⟩ = some (.map (F.R3 k)) := hcob 3 (by omega)
            have e4 : wfa.cell? ⟨bob, oob + k * 5 + 4, none⟩ = some (.slice (F.A4 k) (F.N4 k) (F.C4 k)) := hcob 4 (by omega)
            clear hcob
            go_wp2_with fail
            obtain ⟨Wb, hW⟩ : ∃ W, W = wfa.alloc (.cells #[.string (F.P k), .slice (F.A1 k) (F.N1 k) (F.C1 k), .map (F.R2 k), .map (F.R3 k), .slice (F.A4 k) (F.N4 k) (F.C4 k)] 33) := ⟨_, rfl⟩
            obtain ⟨q0, q1, q2, q3, q4, qB⟩ := new5 hW
            rw [← hW]
            have LQb : Hid (LawW Wb n0 S0 _ _ _ F b2 n2 A2' L2 C2' S2 b4 n4 A4' L4 C4' S4) := LFa.out.below qB
            have BQb : Hid (Below w11.heap.size w11 Wb) := bnext BFa.out qB
            have r0 : Wb.cell? ⟨g, k * 5, none⟩ = some (.string (F.P k)) := cell_keep qB (cell_keep_eq (hcsb 0 (by omega)))
            have r1 : Wb.cell? ⟨g, k * 5 + 1, none⟩ = some (.slice (F.A1 k) (F.N1 k) (F.C1 k)) := cell_keep qB (cell_keep_eq (hcsb 1 (by omega)))
            have r2 : Wb.cell? ⟨g, k * 5 + 2, none⟩ = some (.map (F.R2 k)) := cell_keep qB (cell_keep_eq (hcsb 2 (by omega)))
            have r3 : Wb.cell? ⟨g, k * 5 + 3, none⟩ = some (.map (F.R3 k)) := cell_keep qB (cell_keep_eq (hcsb 3 (by omega)))
            have r4 : Wb.cell? ⟨g, k * 5 + 4, none⟩ = some (.slice (F.A4 k) (F.N4 k) (F.C4 k)) := cell_keep qB (cell_keep_eq (hcsb 4 (by omega)))
            generalize wfa.heap.size = gbb at *
            clear hcsb hW qB e0 e1 e2 e3 e4
            have LAb : Hid (∀ m, LawW (Wb.drewN m) n0 S0 _ _ _ F b2 n2 A2' L2 C2' S2 b4 n4 A4' L4 C4' S4) := fun m => LQb.out.below (below_drewN (Below.refl _ _) m)
            go_region_held3 (fun w' => w'.cell? ⟨gbb, 0, none⟩ = some (.string (F.P k)) ∧ w'.cell? ⟨gbb, 1, none⟩ = some (.slice (F.A1 k) (F.N1 k) (F.C1 k)) ∧ w'.cell? ⟨gbb, 2, none⟩ = some (.map (F.R2 k)) ∧ w'.cell? ⟨gbb, 3, none⟩ = some (.map (F.R3 k)) ∧ w'.cell? ⟨gbb, 4, none⟩ = some (.slice (F.A4 k) (F.N4 k) (F.C4 k)) ∧ w'.cell? ⟨g, k * 5, none⟩ = some (.string (F.P k)) ∧ w'.cell? ⟨g, k * 5 + 1, none⟩ = some (.slice (F.A1 k) (F.N1 k) (F.C1 k)) ∧ w'.cell? ⟨g, k * 5 + 2, none⟩ = some (.map (F.R2 k)) ∧ w'.cell? ⟨g, k * 5 + 3, none⟩ = some (.map (F.R3 k)) ∧ w'.cell? ⟨g, k * 5 + 4, none⟩ = some (.slice (F.A4 k) (F.N4 k) (F.C4 k)))
              (first | (refine ⟨?_, ?_, ?_, ?_, ?_, ?_, ?_, ?_, ?_, ?_⟩ <;> with_reducible assumption) | go_keep)
              (first
                | (go_at_call_of 13 (Value.slice b2 n2 d2); refine (at_any b2 n2 d2 A2' L2 C2' S2 _ k ?_).mono ?_; (exact (LAb.out (1)).pg); rintro e w' ⟨rfl, hww⟩; obtain rfl := hww.symm)
                | (go_at_call_of 13 (Value.slice b4 n4 d4); refine (at_any b4 n4 d4 A4' L4 C4' S4 _ k ?_).mono ?_; (exact (LAb.out (1)).pr); rintro e w' ⟨rfl, hww⟩; obtain rfl := hww.symm)
                | (go_at_call 12; refine (fields_law (LAb.out (1)) k hk0).mono ?_; rintro e wfb ⟨rfl, hbfb⟩; have q0f := cell_keep (w1 := Wb.drewN (1)) hbfb q0; have q1f := cell_keep (w1 := Wb.drewN (1)) hbfb q1; have q2f := cell_keep (w1 := Wb.drewN (1)) hbfb q2; have q3f := cell_keep (w1 := Wb.drewN (1)) hbfb q3; have q4f := cell_keep (w1 := Wb.drewN (1)) hbfb q4; have r0f := cell_keep (w1 := Wb.drewN (1)) hbfb r0; have r1f := cell_keep (w1 := Wb.drewN (1)) hbfb r1; have r2f := cell_keep (w1 := Wb.drewN (1)) hbfb r2; have r3f := cell_keep (w1 := Wb.drewN (1)) hbfb r3; have r4f := cell_keep (w1 := Wb.drewN (1)) hbfb r4)
                | fail)
            have BFb : Hid (Below w11.heap.size w11 wfb) := bnext (bnext BQb.out (below_drewN (Below.refl _ _) (1))) hbfb
            have LFb : Hid (LawW wfb n0 S0 _ _ _ F b2 n2 A2' L2 C2' S2 b4 n4 A4' L4 C4' S4) := (LAb.out (1)).below hbfb
            clear q0 q1 q2 q3 q4 r0 r1 r2 r3 r4 q0f q1f q2f q3f q4f r0f r1f r2f r3f r4f hbfb LAb LQb BQb
            go_wp2
            go_roundw
            case rel => exact ⟨k + 1, by omega, by go_num, BFb.out⟩
            case measure => simp [intOf]; omega
          · have FX : Hid (FivesAt wfa adb (n0 - h) (F.shift h)) := OB.out.below BFa.out
            obtain ⟨m, hm⟩ : ∃ m, m = k - h := ⟨_, rfl⟩
            have hmi : (k : Int) - (h : Int) = (m : Int) := by omega
            have hmn : m < n0 - h := by omega
            have hmk : Hid (h + m = k) := show h + m = k by omega
            have j0 : (0 : Int) ≤ (m : Int) := by omega
            have j1 : (m : Int) < ((n0 - h : Nat) : Int) := by omega
            clear hm
            have hcsb : ∀ j, j < 5 → wfa.cell? ⟨g, k * 5 + j, none⟩ = (F.cells k)[j]? := fun j hj => specs_at LFa.out.specs hk0 hj
            obtain ⟨bob, oob, rfl, hcob⟩ := FX.out m hmn
            have e0 : wfa.cell? ⟨bob, oob + m * 5, none⟩ = some (.string (F.P k)) := by have := hcob 0 (by omega); rw [shift_cells, hmk.out] at this; exact this
            have e1 : wfa.cell? ⟨bob, oob + m * 5 + 1, none⟩ = some (.slice (F.A1 k) (F.N1 k) (F.C1 k)) := by have := hcob 1 (by omega); rw [shift_cells, hmk.out] at this; exact this
            have e2 : wfa.cell? ⟨bob, oob + m * 5 + 2, none⟩ = some (.map (F.R2 k)) := by have := hcob 2 (by omega); rw [shift_cells, hmk.out] at this; exact this
            have e3 : wfa.cell? ⟨bob, oob + m * 5 + 3, none⟩ = some (.map (F.R3 k)) := by have := hcob 3 (by omega); rw [shift_cells, hmk.out] at this; exact this
            have e4 : wfa.cell? ⟨bob, oob + m * 5 + 4, none⟩ = some (.slice (F.A4 k) (F.N4 k) (F.C4 k)) := by have := hcob 4 (by omega); rw [shift_cells, hmk.out] at this; exact this
            clear hcob
            go_wp2_with fail
            obtain ⟨Wb, hW⟩ : ∃ W, W = wfa.alloc (.cells #[.string (F.P k), .slice (F.A1 k) (F.N1 k) (F.C1 k), .map (F.R2 k), .map (F.R3 k), .slice (F.A4 k) (F.N4 k) (F.C4 k)] 33) := ⟨_, rfl⟩
            obtain ⟨q0, q1, q2, q3, q4, qB⟩ := new5 hW
            rw [← hW]
            have LQb : Hid (LawW Wb n0 S0 _ _ _ F b2 n2 A2' L2 C2' S2 b4 n4 A4' L4 C4' S4) := LFa.out.below qB
            have BQb : Hid (Below w11.heap.size w11 Wb) := bnext BFa.out qB
            have r0 : Wb.cell? ⟨g, k * 5, none⟩ = some (.string (F.P k)) := cell_keep qB (cell_keep_eq (hcsb 0 (by omega)))
            have r1 : Wb.cell? ⟨g, k * 5 + 1, none⟩ = some (.slice (F.A1 k) (F.N1 k) (F.C1 k)) := cell_keep qB (cell_keep_eq (hcsb 1 (by omega)))
            have r2 : Wb.cell? ⟨g, k * 5 + 2, none⟩ = some (.map (F.R2 k)) := cell_keep qB (cell_keep_eq (hcsb 2 (by omega)))
            have r3 : Wb.cell? ⟨g, k * 5 + 3, none⟩ = some (.map (F.R3 k)) := cell_keep qB (cell_keep_eq (hcsb 3 (by omega)))
            have r4 : Wb.cell? ⟨g, k * 5 + 4, none⟩ = some (.slice (F.A4 k) (F.N4 k) (F.C4 k)) := cell_keep qB (cell_keep_eq (hcsb 4 (by omega)))
            generalize wfa.heap.size = gbb at *
            clear hcsb hW qB e0 e1 e2 e3 e4
            have LAb : Hid (∀ m, LawW (Wb.drewN m) n0 S0 _ _ _ F b2 n2 A2' L2 C2' S2 b4 n4 A4' L4 C4' S4) := fun m => LQb.out.below (below_drewN (Below.refl _ _) m)
            go_region_held3 (fun w' => w'.cell? ⟨gbb, 0, none⟩ = some (.string (F.P k)) ∧ w'.cell? ⟨gbb, 1, none⟩ = some (.slice (F.A1 k) (F.N1 k) (F.C1 k)) ∧ w'.cell? ⟨gbb, 2, none⟩ = some (.map (F.R2 k)) ∧ w'.cell? ⟨gbb, 3, none⟩ = some (.map (F.R3 k)) ∧ w'.cell? ⟨gbb, 4, none⟩ = some (.slice (F.A4 k) (F.N4 k) (F.C4 k)) ∧ w'.cell? ⟨g, k * 5, none⟩ = some (.string (F.P k)) ∧ w'.cell? ⟨g, k * 5 + 1, none⟩ = some (.slice (F.A1 k) (F.N1 k) (F.C1 k)) ∧ w'.cell? ⟨g, k * 5 + 2, none⟩ = some (.map (F.R2 k)) ∧ w'.cell? ⟨g, k * 5 + 3, none⟩ = some (.map (F.R3 k)) ∧ w'.cell? ⟨g, k * 5 + 4, none⟩ = some (.slice (F.A4 k) (F.N4 k) (F.C4 k)))
              (first | (refine ⟨?_, ?_, ?_, ?_, ?_, ?_, ?_, ?_, ?_, ?_⟩ <;> with_reducible assumption) | go_keep)
              (first
                | (go_at_call_of 13 (Value.slice b2 n2 d2); refine (at_any b2 n2 d2 A2' L2 C2' S2 _ k ?_).mono ?_; (exact (LAb.out (1)).pg); rintro e w' ⟨rfl, hww⟩; obtain rfl := hww.symm)
                | (go_at_call_of 13 (Value.slice b4 n4 d4); refine (at_any b4 n4 d4 A4' L4 C4' S4 _ k ?_).mono ?_; (exact (LAb.out (1)).pr); rintro e w' ⟨rfl, hww⟩; obtain rfl := hww.symm)
                | (go_at_call 12; refine (fields_law (LAb.out (1)) k hk0).mono ?_; rintro e wfb ⟨rfl, hbfb⟩; have q0f := cell_keep (w1 := Wb.drewN (1)) hbfb q0; have q1f := cell_keep (w1 := Wb.drewN (1)) hbfb q1; have q2f := cell_keep (w1 := Wb.drewN (1)) hbfb q2; have q3f := cell_keep (w1 := Wb.drewN (1)) hbfb q3; have q4f := cell_keep (w1 := Wb.drewN (1)) hbfb q4; have r0f := cell_keep (w1 := Wb.drewN (1)) hbfb r0; have r1f := cell_keep (w1 := Wb.drewN (1)) hbfb r1; have r2f := cell_keep (w1 := Wb.drewN (1)) hbfb r2; have r3f := cell_keep (w1 := Wb.drewN (1)) hbfb r3; have r4f := cell_keep (w1 := Wb.drewN (1)) hbfb r4)
                | fail)
            have BFb : Hid (Below w11.heap.size w11 wfb) := bnext (bnext BQb.out (below_drewN (Below.refl _ _) (1))) hbfb
            have LFb : Hid (LawW wfb n0 S0 _ _ _ F b2 n2 A2' L2 C2' S2 b4 n4 A4' L4 C4' S4) := (LAb.out (1)).below hbfb
            clear q0 q1 q2 q3 q4 r0 r1 r2 r3 r4 q0f q1f q2f q3f q4f r0f r1f r2f r3f r4f hbfb LAb LQb BQb
            go_wp2
            go_roundw
            case rel => exact ⟨k + 1, by omega, by go_num, BFb.out⟩
            case measure => simp [intOf]; omega
        · have BR : Hid (Below w.heap.size w wr) := bnext BE.out hbel
          have p1 : ado.isNone = ((n0 : Int) == 0) := by rw [N9.out]; by_cases hh : n0 = 0 <;> simp [hh]
          have p2 : adf.isNone = ((h : Int) == 0) := by rw [N10.out]; by_cases hh : h = 0 <;> simp [hh]
          have p3 : adb.isNone = ((n0 : Int) - (h : Int) == 0) := by
            rw [N11.out]
            have e1 : ¬ n0 - h = 0 := by omega
            have e2 : ¬ (n0 : Int) - (h : Int) = 0 := by omega
            rw [decide_eq_false e1, beq_eq_false_iff_ne.2 e2]
          clear hbel
          go_wp2
          go_ret
          exact ⟨rfl, BR.out⟩
    · obtain rfl : n0 = 0 := by omega
      obtain rfl : h = 0 := by omega
      clear hle HLT hpos
      go_wp2_with fail
      refine (zzjson_any (some ⟨g, 0, none⟩) 0 0 F _ (by omega) FivesAt.none).mono ?_
      rintro e w9 ⟨ado, co, rfl, hno9, hO9, hB9⟩
      have J9 : Hid (Below w8.heap.size w8 w9) := hB9
      clear hB9 hO9
      go_wp2_with fail
      refine (zzjson_any (some ⟨g, 0, none⟩) 0 0 F _ (by omega) FivesAt.none).mono ?_
      rintro e w10 ⟨adf, cf, rfl, hno10, hO10, hB10⟩
      have J10 : Hid (Below w9.heap.size w9 w10) := hB10
      clear hB10 hO10
      go_wp2_with fail
      refine (zzjson_any (some ⟨g, 0, none⟩) 0 0 F _ (by omega) FivesAt.none).mono ?_
      rintro e w11 ⟨adb, cb, rfl, hno11, hO11, hB11⟩
      have J11 : Hid (Below w10.heap.size w10 w11) := hB11
      clear hB11 hO11
      have BE : Hid (Below w.heap.size w w11) := bnext (bnext (bnext B8.out J9.out) J10.out) J11.out
      simp only [decide_true, Option.isNone_iff_eq_none] at hno9 hno10 hno11
      subst hno9 hno10 hno11
      go_wp2_with fail
      refine wp_loop_rounds 1 ?_
      rw [rounds_succ]
      go_wp2
      go_ret
      exact ⟨rfl, BE.out⟩

end Go.Proofs.Qxb6604472a
