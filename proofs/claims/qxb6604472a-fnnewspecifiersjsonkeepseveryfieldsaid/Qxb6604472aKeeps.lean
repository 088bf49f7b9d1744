import Derived.Test.Qxb6604472aLaw
import Derived.Test.Qxb6604472aZzA
namespace Go.Proofs.Qxb6604472a
open Go.RowKit Go.Maps Go.ChangeMaps Go.WideMaps
attribute [local go_sem] eq22 eq29 eq31
attribute [local go_sem ↓] Go.wp_at_zero Go.wp_at_succ

set_option maxHeartbeats 8000000 in
set_option maxRecDepth 100000 in
theorem keeps_walk (a0 : Option Addr) (n0 c0 : Nat) (S0 : Nat → ByteArray)
    (a1 : Option Addr) (n1 c1 : Nat) (A1 : Nat → Option Addr) (L1 C1 : Nat → Nat) (S1 : Nat → Nat → ByteArray)
    (a2 : Option Addr) (n2 c2 : Nat) (A2 : Nat → Option Addr) (L2 C2 : Nat → Nat) (S2 : Nat → Nat → ByteArray)
    (a3 : Option Addr) (n3 c3 : Nat) (A3 : Nat → Option Addr) (L3 C3 : Nat → Nat) (S3 : Nat → Nat → ByteArray)
    (a4 : Option Addr) (n4 c4 : Nat) (A4 : Nat → Option Addr) (L4 C4 : Nat → Nat) (S4 : Nat → Nat → ByteArray)
    (a5 : Option Addr) (n5 c5 : Nat) (A5 : Nat → Option Addr) (L5 C5 : Nat → Nat) (S5 : Nat → Nat → ByteArray)
    (a6 : Option Addr) (n6 c6 : Nat) (A6 : Nat → Option Addr) (L6 C6 : Nat → Nat) (S6 : Nat → Nat → ByteArray) (w : World)
    (m0 : n0 * 16 ≤ 140737488351232) (m1 : n1 * 24 ≤ 140737488351232) (m2 : n2 * 24 ≤ 140737488351232) (m3 : n3 * 24 ≤ 140737488351232) (m4 : n4 * 24 ≤ 140737488351232) (m5 : n5 * 24 ≤ 140737488351232) (m6 : n6 * 24 ≤ 140737488351232)
    (z0 : a0 = none → n0 = 0 ∧ c0 = 0) (z1 : a1 = none → n1 = 0 ∧ c1 = 0) (z2 : a2 = none → n2 = 0 ∧ c2 = 0) (z3 : a3 = none → n3 = 0 ∧ c3 = 0) (z4 : a4 = none → n4 = 0 ∧ c4 = 0) (z5 : a5 = none → n5 = 0 ∧ c5 = 0) (z6 : a6 = none → n6 = 0 ∧ c6 = 0)
    (h0 : StrsAt w a0 n0 S0) (h1 : NestAt w a1 n1 A1 L1 C1 S1) (h2 : NestAt w a2 n2 A2 L2 C2 S2) (h3 : NestAt w a3 n3 A3 L3 C3 S3) (h4 : NestAt w a4 n4 A4 L4 C4 S4) (h5 : NestAt w a5 n5 A5 L5 C5 S5) (h6 : NestAt w a6 n6 A6 L6 C6 S6)
    (s2 : ∀ i j, (S2 i j).size ≤ maxLen) (s3 : ∀ i j, (S3 i j).size ≤ maxLen) (s4 : ∀ i j, (S4 i j).size ≤ maxLen) (s5 : ∀ i j, (S5 i j).size ≤ maxLen) :
    Calls Try.prog 3 #[.slice a0 n0 c0, .slice a1 n1 c1, .slice a2 n2 c2, .slice a3 n3 c3, .slice a4 n4 c4, .slice a5 n5 c5, .slice a6 n6 c6] w fun e w' => e = .returned (.bool true) ∧ Below w.heap.size w w' := by
  have H0 : Hid (StrsAt w a0 n0 S0) := h0
  have H1 : Hid (NestAt w a1 n1 A1 L1 C1 S1) := h1
  have H2 : Hid (NestAt w a2 n2 A2 L2 C2 S2) := h2
  have H3 : Hid (NestAt w a3 n3 A3 L3 C3 S3) := h3
  have H4 : Hid (NestAt w a4 n4 A4 L4 C4 S4) := h4
  have H5 : Hid (NestAt w a5 n5 A5 L5 C5 S5) := h5
  have H6 : Hid (NestAt w a6 n6 A6 L6 C6 S6) := h6
  have Z : Hid ((a0 = none → n0 = 0 ∧ c0 = 0) ∧ (a1 = none → n1 = 0 ∧ c1 = 0) ∧ (a2 = none → n2 = 0 ∧ c2 = 0) ∧ (a3 = none → n3 = 0 ∧ c3 = 0) ∧ (a4 = none → n4 = 0 ∧ c4 = 0) ∧ (a5 = none → n5 = 0 ∧ c5 = 0) ∧ (a6 = none → n6 = 0 ∧ c6 = 0)) := ⟨z0, z1, z2, z3, z4, z5, z6⟩
  have HS : Hid ((∀ i j, (S2 i j).size ≤ maxLen) ∧ (∀ i j, (S3 i j).size ≤ maxLen) ∧ (∀ i j, (S4 i j).size ≤ maxLen) ∧ (∀ i j, (S5 i j).size ≤ maxLen)) := ⟨s2, s3, s4, s5⟩
  clear h0 h1 h2 h3 h4 h5 h6 z0 z1 z2 z3 z4 z5 z6 s2 s3 s4 s5
  go_enter Try.func3, Try.ntmps3
  go_wp2_with fail
  refine (zz6_any a0 n0 c0 S0 a1 n1 c1 A1 L1 C1 S1 a2 n2 c2 A2 L2 C2 S2 a3 n3 c3 A3 L3 C3 S3 a4 n4 c4 A4 L4 C4 S4 a5 n5 c5 A5 L5 C5 S5 a6 n6 c6 A6 L6 C6 S6 _ (by unfold maxLen; omega) H0.out (by unfold maxLen; omega) H1.out (by unfold maxLen; omega) H2.out (by unfold maxLen; omega) H3.out (by unfold maxLen; omega) H4.out (by unfold maxLen; omega) H5.out (by unfold maxLen; omega) H6.out).mono ?_
  rintro e w' ⟨⟨b, rfl⟩, hww⟩
  obtain rfl := hww.symm
  cases b with
  | false =>
    go_wp2
    go_ret
    exact ⟨rfl, Below.refl _ _⟩
  | true =>
  go_wp2_with fail
  refine (over7_any a0 n0 c0 S0 a1 n1 c1 A1 L1 C1 S1 a2 n2 c2 A2 L2 C2 S2 a3 n3 c3 A3 L3 C3 S3 a4 n4 c4 A4 L4 C4 S4 a5 n5 c5 A5 L5 C5 S5 a6 n6 c6 A6 L6 C6 S6 _ H0.out H1.out H2.out H3.out H4.out H5.out H6.out).mono ?_
  rintro e w' ⟨⟨b, rfl, hlid⟩, hww⟩
  obtain rfl := hww.symm
  cases b with
  | true =>
    clear hlid
    go_wp2
    go_ret
    exact ⟨rfl, Below.refl _ _⟩
  | false =>
  have hn : n0 ≤ 4096 := hlid rfl
  clear hlid
  go_wp2_with fail
  refine (cloneStrs_any a0 n0 c0 S0 _ m0 Z.out.1 H0.out).mono ?_
  rintro e w1 ⟨b0, d0, rfl, y0, _, hb0, hB⟩
  have K0 : Hid (StrsAt w1 b0 n0 S0) := hb0
  have B1 : Hid (Below w.heap.size w w1) := hB
  have Y0 : Hid (b0 = none → n0 = 0 ∧ d0 = 0) := y0
  clear hb0 hB y0
  go_wp2_with fail
  refine (cloneNested_any a1 n1 c1 A1 L1 C1 S1 _ m1 (Z.out.2.1) (H1.out.below B1.out)).mono ?_
  rintro e w2 ⟨b1, d1, A1', C1', rfl, hbx, hB⟩
  have K1 : Hid (NestAt w2 b1 n1 A1' L1 C1' S1) := hbx
  have J2 : Hid (Below w1.heap.size w1 w2) := hB
  have B2 : Hid (Below w.heap.size w w2) := bnext B1.out hB
  clear hbx hB
  go_wp2_with fail
  refine (cloneNested_any a2 n2 c2 A2 L2 C2 S2 _ m2 (Z.out.2.2.1) (H2.out.below B2.out)).mono ?_
  rintro e w3 ⟨b2, d2, A2', C2', rfl, hbx, hB⟩
  have K2 : Hid (NestAt w3 b2 n2 A2' L2 C2' S2) := hbx
  have J3 : Hid (Below w2.heap.size w2 w3) := hB
  have B3 : Hid (Below w.heap.size w w3) := bnext B2.out hB
  clear hbx hB
  go_wp2_with fail
  refine (cloneNested_any a3 n3 c3 A3 L3 C3 S3 _ m3 (Z.out.2.2.2.1) (H3.out.below B3.out)).mono ?_
  rintro e w4 ⟨b3, d3, A3', C3', rfl, hbx, hB⟩
  have K3 : Hid (NestAt w4 b3 n3 A3' L3 C3' S3) := hbx
  have J4 : Hid (Below w3.heap.size w3 w4) := hB
  have B4 : Hid (Below w.heap.size w w4) := bnext B3.out hB
  clear hbx hB
  go_wp2_with fail
  refine (cloneNested_any a4 n4 c4 A4 L4 C4 S4 _ m4 (Z.out.2.2.2.2.1) (H4.out.below B4.out)).mono ?_
  rintro e w5 ⟨b4, d4, A4', C4', rfl, hbx, hB⟩
  have K4 : Hid (NestAt w5 b4 n4 A4' L4 C4' S4) := hbx
  have J5 : Hid (Below w4.heap.size w4 w5) := hB
  have B5 : Hid (Below w.heap.size w w5) := bnext B4.out hB
  clear hbx hB
  go_wp2_with fail
  refine (cloneNested_any a5 n5 c5 A5 L5 C5 S5 _ m5 (Z.out.2.2.2.2.2.1) (H5.out.below B5.out)).mono ?_
  rintro e w6 ⟨b5, d5, A5', C5', rfl, hbx, hB⟩
  have K5 : Hid (NestAt w6 b5 n5 A5' L5 C5' S5) := hbx
  have J6 : Hid (Below w5.heap.size w5 w6) := hB
  have B6 : Hid (Below w.heap.size w w6) := bnext B5.out hB
  clear hbx hB
  go_wp2_with fail
  refine (cloneNested_any a6 n6 c6 A6 L6 C6 S6 _ m6 (Z.out.2.2.2.2.2.2) (H6.out.below B6.out)).mono ?_
  rintro e w7 ⟨b6, d6, A6', C6', rfl, hbx, hB⟩
  have K6 : Hid (NestAt w7 b6 n6 A6' L6 C6' S6) := hbx
  have J7 : Hid (Below w6.heap.size w6 w7) := hB
  have B7 : Hid (Below w.heap.size w w7) := bnext B6.out hB
  clear hbx hB
  have X7 : Hid (Below w7.heap.size w7 w7) := Below.refl _ _
  have X6 : Hid (Below w6.heap.size w6 w7) := bnext J7.out X7.out
  have X5 : Hid (Below w5.heap.size w5 w7) := bnext J6.out X6.out
  have X4 : Hid (Below w4.heap.size w4 w7) := bnext J5.out X5.out
  have X3 : Hid (Below w3.heap.size w3 w7) := bnext J4.out X4.out
  have X2 : Hid (Below w2.heap.size w2 w7) := bnext J3.out X3.out
  have X1 : Hid (Below w1.heap.size w1 w7) := bnext J2.out X2.out
  have T0 : Hid (StrsAt w7 b0 n0 S0) := K0.out.below X1.out
  have T1 : Hid (NestAt w7 b1 n1 A1' L1 C1' S1) := K1.out.below X2.out
  have T2 : Hid (NestAt w7 b2 n2 A2' L2 C2' S2) := K2.out.below X3.out
  have T3 : Hid (NestAt w7 b3 n3 A3' L3 C3' S3) := K3.out.below X4.out
  have T4 : Hid (NestAt w7 b4 n4 A4' L4 C4' S4) := K4.out.below X5.out
  have T5 : Hid (NestAt w7 b5 n5 A5' L5 C5' S5) := K5.out.below X6.out
  have T6 : Hid (NestAt w7 b6 n6 A6' L6 C6' S6) := K6.out.below X7.out
  clear K0 K1 K2 K3 K4 K5 K6 J2 J3 J4 J5 J6 J7 X1 X2 X3 X4 X5 X6 X7 B1 B2 B3 B4 B5 B6 H0 H1 H2 H3 H4 H5 H6 Z m1 m2 m3 m4 m5 m6
  go_wp2_with fail
  refine (specs_any b0 n0 d0 S0 b1 n1 d1 A1' L1 C1' S1 b2 n2 d2 A2' L2 C2' S2 b3 n3 d3 A3' L3 C3' S3 b4 n4 d4 A4' L4 C4' S4 b5 n5 d5 A5' L5 C5' S5 b6 n6 d6 A6' L6 C6' S6 _ hn Y0.out T0.out T1.out T2.out T3.out T4.out T5.out T6.out HS.out.1 HS.out.2.1 HS.out.2.2.1 HS.out.2.2.2).mono ?_
  rintro e w8 ⟨ads, F, rfl, hads, hF, hok, hB⟩
  have QF : Hid (FivesAt w8 ads n0 F) := hF
  have QO : Hid (SpecsOk w8 F n0 S0) := hok
  have B8 : Hid (Below w.heap.size w w8) := bnext B7.out hB
  have U0 : Hid (StrsAt w8 b0 n0 S0) := T0.out.below hB
  have U2 : Hid (NestAt w8 b2 n2 A2' L2 C2' S2) := T2.out.below hB
  have U4 : Hid (NestAt w8 b4 n4 A4' L4 C4' S4) := T4.out.below hB
  have QA : Hid ((ads = none ∧ n0 = 0) ∨ ∃ g, ads = some ⟨g, 0, none⟩) := hads
  clear hF hok hB hads T0 T1 T2 T3 T4 T5 T6 B7 Y0
  go_wp2_with fail
  refine (zzjson_any ads n0 n0 F _ hn QF.out).mono ?_
  rintro e w9 ⟨ado, co, rfl, hnone, hO, hB⟩
  have LW : Hid (LawW w9 n0 S0 ado ads b0 F b2 n2 A2' L2 C2' S2 b4 n4 A4' L4 C4' S4) := ⟨hO, QF.out.below hB, QO.out.below hB, U0.out.below hB, U2.out.below hB, U4.out.below hB, HS.out.1, HS.out.2.2.1⟩
  have B9 : Hid (Below w.heap.size w w9) := bnext B8.out hB
  have hz1 : ((n0 : Int) != (n0 : Int)) = false := by simp
  have hz2 : (!(ado.isNone == ((n0 : Int) == 0))) = false := by rw [hnone]; by_cases h : n0 = 0 <;> simp [h]
  clear hO hB QF QO U0 U2 U4 HS QA B8 hnone
  go_wp2_with fail
  clear hz1 hz2
  go_loopw [17] (fun i wr => ∃ (k : Nat), k ≤ n0 ∧ i = .int .i64 k ∧ Below w9.heap.size w9 wr) (fun i _ => n0 - (intOf i).toNat)
  case atStart => exact ⟨0, Nat.zero_le _, rfl, Below.refl _ _⟩
  case round =>
    obtain ⟨k, hk, rfl, hbel⟩ := hrel
    by_cases hlt : k < n0
    · have LR : Hid (LawW wr n0 S0 ado ads b0 F b2 n2 A2' L2 C2' S2 b4 n4 A4' L4 C4' S4) := LW.out.below hbel
      have BR : Hid (Below w9.heap.size w9 wr) := hbel
      obtain ⟨bo, oo, rfl, hco⟩ := LR.out.out k hlt
      obtain ⟨bs, os, rfl, hcs⟩ := LR.out.specs k hlt
      obtain ⟨bp, op, rfl, hcp⟩ := LR.out.pids k hlt
      have hP : Hid (F.P k = S0 k) := (LR.out.ok k hlt).1
      rw [← hP.out] at hcp
      have e0 : wr.cell? ⟨bo, oo + k * 5, none⟩ = some (.string (F.P k)) := hco 0 (by omega)
      have e1 : wr.cell? ⟨bo, oo + k * 5 + 1, none⟩ = some (.slice (F.A1 k) (F.N1 k) (F.C1 k)) := hco 1 (by omega)
      have e2 : wr.cell? ⟨bo, oo + k * 5 + 2, none⟩ = some (.map (F.R2 k)) := hco 2 (by omega)
      have e3 : wr.cell? ⟨bo, oo + k * 5 + 3, none⟩ = some (.map (F.R3 k)) := hco 3 (by omega)
      have e4 : wr.cell? ⟨bo, oo + k * 5 + 4, none⟩ = some (.slice (F.A4 k) (F.N4 k) (F.C4 k)) := hco 4 (by omega)
      have i0 : (0 : Int) ≤ (k : Int) := by omega
      have i1 : (k : Int) < (n0 : Int) := by omega
      clear hco hbel
      go_wp2_with fail
      obtain ⟨W, hW⟩ : ∃ W, W = wr.alloc (.cells #[.string (F.P k), .slice (F.A1 k) (F.N1 k) (F.C1 k), .map (F.R2 k), .map (F.R3 k), .slice (F.A4 k) (F.N4 k) (F.C4 k)] 33) := ⟨_, rfl⟩
      obtain ⟨q0, q1, q2, q3, q4, qB⟩ := new5 hW
      rw [← hW]
      have t0 : W.cell? ⟨bp, op + k, none⟩ = some (.string (F.P k)) := cell_keep qB hcp
      have LQ : Hid (LawW W n0 S0 _ _ _ F b2 n2 A2' L2 C2' S2 b4 n4 A4' L4 C4' S4) := LR.out.below qB
      have BQ : Hid (Below w9.heap.size w9 W) := bnext BR.out qB
      have r0 : W.cell? ⟨bs, os + k * 5, none⟩ = some (.string (F.P k)) := cell_keep qB (hcs 0 (by omega))
      have r1 : W.cell? ⟨bs, os + k * 5 + 1, none⟩ = some (.slice (F.A1 k) (F.N1 k) (F.C1 k)) := cell_keep qB (hcs 1 (by omega))
      have r2 : W.cell? ⟨bs, os + k * 5 + 2, none⟩ = some (.map (F.R2 k)) := cell_keep qB (hcs 2 (by omega))
      have r3 : W.cell? ⟨bs, os + k * 5 + 3, none⟩ = some (.map (F.R3 k)) := cell_keep qB (hcs 3 (by omega))
      have r4 : W.cell? ⟨bs, os + k * 5 + 4, none⟩ = some (.slice (F.A4 k) (F.N4 k) (F.C4 k)) := cell_keep qB (hcs 4 (by omega))
      generalize wr.heap.size = gb at *
      clear hcs hcp LR BR hW qB e0 e1 e2 e3 e4
      go_quiet (fail)
      go_wp2_with fail
      have L2' : Hid (∀ m, LawW (W.drewN m) n0 S0 _ _ _ F b2 n2 A2' L2 C2' S2 b4 n4 A4' L4 C4' S4) := fun m => LQ.out.below (below_drewN (Below.refl _ _) m)
      go_region_held3 (fun w' => w'.cell? ⟨gb, 0, none⟩ = some (.string (F.P k)) ∧ w'.cell? ⟨gb, 1, none⟩ = some (.slice (F.A1 k) (F.N1 k) (F.C1 k)) ∧ w'.cell? ⟨gb, 2, none⟩ = some (.map (F.R2 k)) ∧ w'.cell? ⟨gb, 3, none⟩ = some (.map (F.R3 k)) ∧ w'.cell? ⟨gb, 4, none⟩ = some (.slice (F.A4 k) (F.N4 k) (F.C4 k)) ∧
          w'.cell? ⟨bs, os + k * 5, none⟩ = some (.string (F.P k)) ∧ w'.cell? ⟨bs, os + k * 5 + 1, none⟩ = some (.slice (F.A1 k) (F.N1 k) (F.C1 k)) ∧ w'.cell? ⟨bs, os + k * 5 + 2, none⟩ = some (.map (F.R2 k)) ∧ w'.cell? ⟨bs, os + k * 5 + 3, none⟩ = some (.map (F.R3 k)) ∧ w'.cell? ⟨bs, os + k * 5 + 4, none⟩ = some (.slice (F.A4 k) (F.N4 k) (F.C4 k)))
        (first | (refine ⟨?_, ?_, ?_, ?_, ?_, ?_, ?_, ?_, ?_, ?_⟩ <;> with_reducible assumption) | go_keep)
        (first
          | (go_at_call_of 13 (Value.slice b2 n2 d2); refine (at_any b2 n2 d2 A2' L2 C2' S2 _ k ?_).mono ?_; (exact (L2'.out (nq + 1)).pg); rintro e w' ⟨rfl, hww⟩; obtain rfl := hww.symm)
          | (go_at_call_of 13 (Value.slice b4 n4 d4); refine (at_any b4 n4 d4 A4' L4 C4' S4 _ k ?_).mono ?_; (exact (L2'.out (nq + 1)).pr); rintro e w' ⟨rfl, hww⟩; obtain rfl := hww.symm)
          | (go_at_call 12; refine (fields_law (L2'.out (nq + 1)) k hlt).mono ?_; rintro e wf ⟨rfl, hbf⟩; have q0f := cell_keep (w1 := W.drewN (nq + 1)) hbf q0; have q1f := cell_keep (w1 := W.drewN (nq + 1)) hbf q1; have q2f := cell_keep (w1 := W.drewN (nq + 1)) hbf q2; have q3f := cell_keep (w1 := W.drewN (nq + 1)) hbf q3; have q4f := cell_keep (w1 := W.drewN (nq + 1)) hbf q4; have r0f := cell_keep (w1 := W.drewN (nq + 1)) hbf r0; have r1f := cell_keep (w1 := W.drewN (nq + 1)) hbf r1; have r2f := cell_keep (w1 := W.drewN (nq + 1)) hbf r2; have r3f := cell_keep (w1 := W.drewN (nq + 1)) hbf r3; have r4f := cell_keep (w1 := W.drewN (nq + 1)) hbf r4)
          | fail)
      have BF : Hid (Below w9.heap.size w9 wf) := bnext (bnext BQ.out (below_drewN (Below.refl _ _) (nq + 1))) hbf
      clear q0 q1 q2 q3 q4 r0 r1 r2 r3 r4 q0f q1f q2f q3f q4f r0f r1f r2f r3f r4f hbf
      go_wp2
      refine ⟨?_, ?_⟩
      · repeat apply Exists.intro
        refine ⟨⟨k + 1, by omega, ?_, BF.out⟩, rfl⟩
        go_num
      · simp [intOf]; omega
    · have BR : Hid (Below w.heap.size w wr) := bnext B9.out hbel
      clear hbel
      go_wp2
      go_ret
      exact ⟨rfl, BR.out⟩

end Go.Proofs.Qxb6604472a
