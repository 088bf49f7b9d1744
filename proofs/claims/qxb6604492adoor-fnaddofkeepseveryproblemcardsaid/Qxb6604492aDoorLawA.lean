import Derived.Test.Qxb6604492aDoorCopy
namespace Go.Proofs.Qxb6604492aDoor
open Go.RowKit
attribute [local go_sem ↓] Go.wp_at_zero Go.wp_at_succ

theorem copy_any (ad : Option Addr) (n c : Nat) (of ck : Nat → Int) (tx : Nat → ByteArray) (w : World) (hn : n ≤ 4096) (hnil : ad = none → n = 0 ∧ c = 0) (h : StepsAt w ad n of ck tx) :
    Calls Tryd.prog 6 #[.slice ad n c] w fun e w' => ∃ ad, e = .returned (.slice ad n n) ∧ StepsAt w' ad n of ck tx ∧ Below w.heap.size w w' := by
  cases ad with
  | none =>
    obtain ⟨rfl, rfl⟩ := hnil rfl
    refine (copy_nil w).mono ?_
    rintro e w' ⟨rfl, rfl⟩
    exact ⟨none, rfl, fun i hi => absurd hi (Nat.not_lt_zero _), Below.refl _ _⟩
  | some x =>
    exact copy_some x n c of ck tx w hn h

/-- A step's problem and its message, read back. -/
theorem back_text {B : Nat} {w : World} {g : G} {tot k : Nat} {of ck : Nat → Int} {tx : Nat → ByteArray} {n : Nat} (h : Core B w g tot) (hr : Ran of ck tx n g) (hk : k < n) :
    Calls Tryd.prog 14 #[.pointer (some ⟨g.p, 0, none⟩), .int .i32 (g.ix k : Nat)] w fun e w' => e = .returned (.string (tx k)) ∧ Core B w' g tot ∧ Below B w w' := by
  obtain ⟨h1, h2, _⟩ := hr.idx k hk
  have := zztext_any h (g.ix k) h1
  rw [h2] at this
  exact this

theorem back_check {B : Nat} {w : World} {g : G} {tot k : Nat} {of ck : Nat → Int} {tx : Nat → ByteArray} {n : Nat} (h : Core B w g tot) (hr : Ran of ck tx n g) (hk : k < n) :
    Calls Tryd.prog 15 #[.pointer (some ⟨g.p, 0, none⟩), .int .i32 (g.ix k : Nat)] w fun e w' => e = .returned (.int .i32 (ck k)) ∧ w' = w := by
  obtain ⟨h1, _, h3⟩ := hr.idx k hk
  have := check_any h (g.ix k) h1
  rw [h3] at this
  exact this

theorem back_offset {B : Nat} {w : World} {g : G} {tot k : Nat} {of ck : Nat → Int} {tx : Nat → ByteArray} {n : Nat} (h : Core B w g tot) (hr : Ran of ck tx n g) (hk : k < n) :
    Calls Tryd.prog 11 #[.pointer (some ⟨g.p, 0, none⟩), .int .i64 0, .int .i64 k] w fun e w' => e = .returned (.int .i64 (of k)) ∧ w' = w := by
  have := offset_any h k (by rw [hr.np]; exact hk)
  rw [hr.off k hk] at this
  exact this

theorem StepsAt.three {w w' : World} {ad : Option Addr} {n k : Nat} {of ck : Nat → Int} {tx : Nat → ByteArray} (h : StepsAt w ad n of ck tx) (hb : Below w.heap.size w w') (hk : k < n) :
    ∃ b off, ad = some ⟨b, off, none⟩ ∧ w'.cell? ⟨b, off + k * 3, none⟩ = some (.int .i64 (of k)) ∧ w'.cell? ⟨b, off + k * 3 + 1, none⟩ = some (.int .i32 (ck k)) ∧ w'.cell? ⟨b, off + k * 3 + 2, none⟩ = some (.string (tx k)) := h.below hb k hk

theorem steps_last {w w' : World} {b off n k : Nat} {of ck : Nat → Int} {tx : Nat → ByteArray} (h : StepsAt w (some ⟨b, off, none⟩) n of ck tx) (hb : Below w.heap.size w w') (hk : k < n) : w'.cell? ⟨b, off + k * 3 + 1, none⟩ = some (.int .i32 (ck k)) ∧ w'.cell? ⟨b, off + k * 3 + 2, none⟩ = some (.string (tx k)) := by
  obtain ⟨b', off', e, _, h1, h2⟩ := h.below hb k hk
  cases e
  exact ⟨h1, h2⟩

/-- The steps' checks are good up to k. -/
def Good (ck : Nat → Int) (k : Nat) : Prop := ∀ i, i < k → 0 ≤ ck i ∧ ck i ≤ 4

set_option maxHeartbeats 4000000 in
set_option maxRecDepth 100000 in
theorem law3 (ad : Option Addr) (n c : Nat) (of ck : Nat → Int) (tx : Nat → ByteArray) (w : World) (hs : StepsAt w ad n of ck tx) (hnil : ad = none → n = 0 ∧ c = 0) (htab : TabOk w) :
    Calls Tryd.prog 3 #[.slice ad n c] w fun e w' => e = .returned (.bool true) ∧ Below w.heap.size w w' := by
  have H : Hid (StepsAt w ad n of ck tx ∧ (ad = none → n = 0 ∧ c = 0)) := ⟨hs, hnil⟩
  clear hs hnil
  go_enter Tryd.func3, Tryd.ntmps3
  go_wp2_with fail
  refine (bytes5_any ad n c of ck tx w H.out.1).mono ?_
  rintro e wz ⟨⟨b, rfl, hb⟩, hww⟩
  obtain rfl := hww.symm
  clear hww
  have HB : Hid (b = true → tots tx n ≤ 1048576) := hb
  clear hb
  cases b
  · go_wp2
    go_ret
    exact ⟨rfl, Below.refl _ _⟩
  · have HT : Hid (tots tx n ≤ 1048576) := HB.out rfl
    clear HB
    by_cases hn : (4096 : Int) < (n : Int)
    · go_wp2
      go_ret
      exact ⟨rfl, Below.refl _ _⟩
    · have hn' : n ≤ 4096 := by omega
      go_wp2_with fail
      go_loop [3, 4] (fun vz vi => ∃ k : Nat, k ≤ n ∧ vz = .int .i64 ((32 * n + tots tx k : Nat) : Int) ∧ vi = .int .i64 k) (fun _ vi => n - (intOf vi).toNat)
      case atStart => exact ⟨0, Nat.zero_le _, by simp [tots], rfl⟩
      case round =>
        obtain ⟨k, hk, rfl, rfl⟩ := hrel
        by_cases hlt : k < n
        · have k1 : (k : Int) < (n : Int) := by omega
          obtain ⟨b, off, rfl, q0, q1, q2⟩ := H.out.1 k hlt
          have HS : Hid (32 * n + tots tx (k + 1) = 32 * n + tots tx k + (tx k).size) := by show 32 * n + (tots tx k + (tx k).size) = _; omega
          have hb1 : 32 * n + tots tx k + (tx k).size ≤ 1179648 := by have h1 := HT.out; have h2 : tots tx k + (tx k).size ≤ tots tx n := tots_mono tx (show k + 1 ≤ n from hlt); omega
          obtain ⟨z, hzz⟩ : ∃ z, z = 32 * n + tots tx k := ⟨_, rfl⟩
          rw [← hzz] at hb1 HS ⊢
          clear hzz
          go_wp2
          refine ⟨⟨k + 1, by omega, ?_, by go_num⟩, ?_⟩
          · rw [HS.out]; simp
          · simp [intOf]; omega
        · have hkn : n = k := by omega
          subst hkn
          have k1 : ¬ (n : Int) < (n : Int) := by omega
          have hb1 : 32 * n + tots tx n ≤ 1179648 := by have h1 := HT.out; omega
          obtain ⟨z, hzz⟩ : ∃ z, z = 32 * n + tots tx n := ⟨_, rfl⟩
          rw [← hzz] at hb1 ⊢
          clear hzz
          by_cases hsz : (1048576 : Int) < (z : Int)
          · go_wp2
            go_ret
            exact ⟨rfl, Below.refl _ _⟩
          go_wp2_with fail
          go_loop [5] (fun vi => ∃ k : Nat, k ≤ n ∧ vi = .int .i64 k ∧ Good ck k) (fun vi => n - (intOf vi).toNat)
          case atStart => exact ⟨0, Nat.zero_le _, rfl, fun _ h => absurd h (Nat.not_lt_zero _)⟩
          case round =>
            obtain ⟨k, hk, rfl, hgood⟩ := hrel
            have HG : Hid (Good ck k) := hgood
            clear hgood
            by_cases hlt : k < n
            · have k2 : (k : Int) < (n : Int) := by omega
              obtain ⟨b, off, rfl, q0, q1, q2⟩ := H.out.1 k hlt
              by_cases h0 : ck k < 0
              · go_wp2
                go_ret
                exact ⟨rfl, Below.refl _ _⟩
              by_cases h4 : 4 < ck k
              · go_wp2
                go_ret
                exact ⟨rfl, Below.refl _ _⟩
              have HG2 : Hid (Good ck (k + 1)) := by
                intro i hi
                by_cases e : i = k
                · subst e; omega
                · exact HG.out i (by omega)
              go_wp2
              refine ⟨⟨k + 1, by omega, by go_num, HG2.out⟩, ?_⟩
              simp [intOf]; omega
            · have hkn : n = k := by omega
              subst hkn
              go_wp2_with fail
              refine (copy_any ad n c of ck tx w hn' H.out.2 H.out.1).mono ?_
              rintro e w1 ⟨ad2, rfl, hs2, hb2⟩
              have H1 : Hid (StepsAt w1 ad2 n of ck tx ∧ Below w.heap.size w w1) := ⟨hs2, hb2⟩
              clear hs2 hb2
              go_wp2_with fail
              refine (run_any ad2 n n of ck tx w1 H1.out.1 hn' HG.out HT.out (htab.below H1.out.2)).mono ?_
              rintro e w2 ⟨g, rfl, hc2, hb2, hr2⟩
              have H2 : Hid (Core w1.heap.size w2 g (tots tx n) ∧ Below w1.heap.size w1 w2 ∧ Ran of ck tx n g) := ⟨hc2, hb2, hr2⟩
              have hgm : ¬ (n : Int) < (g.m : Int) := by have := hr2.le; omega
              clear hc2 hb2 hr2
              go_wp2_with fail
              refine (count_any H2.out.1).mono ?_
              rintro e wz ⟨rfl, hww⟩
              obtain rfl := hww.symm
              clear hww
              go_wp2_with fail
              refine (chunkCount_any H2.out.1).mono ?_
              rintro e wz ⟨rfl, hww⟩
              obtain rfl := hww.symm
              clear hww
              go_wp2_with fail
              go_loopw [8, 10] (fun vk vc wr => ∃ ci : Nat, ci ≤ chunksOf g ∧ vc = .int .i64 ci ∧ vk = .int .i64 ((if ci = 0 then 0 else n : Nat) : Int) ∧ Core w1.heap.size wr g (tots tx n) ∧ Below w1.heap.size w1 wr) (fun _ vc _ => chunksOf g - (intOf vc).toNat)
              case atStart => exact ⟨0, Nat.zero_le _, rfl, rfl, H2.out.1, H2.out.2.1⟩
              case round =>
                obtain ⟨ci, hci, rfl, rfl, hcore, hbel⟩ := hrel
                have H3 : Hid (Core w1.heap.size wr g (tots tx n) ∧ Below w1.heap.size w1 wr) := ⟨hcore, hbel⟩
                clear hcore hbel
                obtain ⟨wo, rfl⟩ : ∃ wo, wo = wr := ⟨_, rfl⟩
                by_cases hlt : ci < chunksOf g
                · have hch : chunksOf g = 1 := by
                    rcases H3.out.1.chunks_le with h | h
                    · omega
                    · exact h
                  have hci0 : 0 = ci := by omega
                  subst hci0
                  have z1 : (0 : Int) < (chunksOf g : Int) := by omega
                  have HCL : Hid (Calls Tryd.prog 10 #[.pointer (some ⟨g.p, 0, none⟩), .int .i64 0] wo fun e w' => e = .returned (.int .i64 n) ∧ w' = wo) := by
                    have h1 := chunkLen_any H3.out.1 hch
                    rw [H2.out.2.2.np] at h1
                    exact h1
                  have HCH : Hid (chunksOf g = 1) := hch
                  clear hch hlt hci
                  go_wp2_with fail
                  refine Calls.mono HCL.out ?_
                  rintro e wz ⟨rfl, hww⟩
                  obtain rfl := hww.symm
                  clear hww HCL
                  go_wp2_with fail
                  go_loopw [8, 12] (fun vk vj wi => ∃ j : Nat, j ≤ n ∧ vk = .int .i64 j ∧ vj = .int .i64 j ∧ Core w1.heap.size wi g (tots tx n) ∧ Below w1.heap.size w1 wi) (fun _ vj _ => n - (intOf vj).toNat)
                  case atStart => exact ⟨0, Nat.zero_le _, rfl, rfl, H3.out.1, H3.out.2⟩
                  case round =>
                    obtain ⟨j, hj, rfl, rfl, hcore, hbel⟩ := hrel
                    have H4 : Hid (Core w1.heap.size wr g (tots tx n) ∧ Below w1.heap.size w1 wr) := ⟨hcore, hbel⟩
                    clear hcore hbel
                    by_cases hlt : j < n
                    · have j1 : (j : Int) < (n : Int) := by omega
                      have j2 : ¬ (n : Int) ≤ (j : Int) := by omega
                      obtain ⟨b, off, rfl, q0, q1, q2⟩ := H1.out.1.three H4.out.2 hlt
                      have hix := (H2.out.2.2.idx j hlt).1
                      have hix1 : ¬ ((g.ix j : Nat) : Int) < 0 := by omega
                      have hix2 : ¬ (g.m : Int) ≤ ((g.ix j : Nat) : Int) := by omega
                      have hmB := H4.out.1.mB
                      go_wp2_with fail
                      go_quiet (first | (go_at_call 11; exact Calls.quiet_of_same (back_offset (H4.out.1.drewN _) H2.out.2.2 hlt)) | (go_at_call 12; exact Calls.quiet_of_same (number_any (H4.out.1.drewN _) j (by rw [H2.out.2.2.np]; exact hlt))))
                      go_wp2_with fail
                      obtain ⟨wq, hwq⟩ : ∃ wq, wq = wr.drewN nq := ⟨_, rfl⟩
                      have H5 : Hid (Core w1.heap.size wq g (tots tx n) ∧ Below w1.heap.size w1 wq) := by rw [hwq]; exact ⟨H4.out.1.drewN nq, below_drewN H4.out.2 nq⟩
                      rw [← hwq]
                      clear hwq q0 q1 q2
                      refine (pindex_any H5.out.1 j (by rw [H2.out.2.2.np]; exact hlt)).mono ?_
                      rintro e wz ⟨rfl, hww⟩
                      obtain rfl := hww.symm
                      clear hww
                      obtain ⟨p1, p2⟩ := steps_last H1.out.1 H5.out.2 hlt
                      have HT4 : Hid _ := back_text H5.out.1.drew H2.out.2.2 hlt
                      go_wp2_with fail
                      go_region_held3 (fun w' => w'.cell? ⟨b, off + j * 3 + 1, none⟩ = some (.int .i32 (ck j)) ∧ w'.cell? ⟨b, off + j * 3 + 2, none⟩ = some (.string (tx j)))
                        (first | (refine ⟨?_, ?_⟩ <;> first | with_reducible assumption | (rw [cell_drew]; with_reducible assumption)))
                        (first
                          | (go_at_call 14; refine Calls.mono HT4.out ?_; rintro e w5 ⟨rfl, hc5, hb5⟩; have H6 : Hid (Core w1.heap.size w5 g (tots tx n) ∧ Below w1.heap.size w1 w5) := ⟨hc5, H5.out.2.drew.trans hb5⟩; clear hc5 hb5; obtain ⟨s1, s2⟩ := steps_last H1.out.1 H6.out.2 hlt)
                          | (go_at_call 15; refine (back_check H6.out.1 H2.out.2.2 hlt).mono ?_; rintro e wz ⟨rfl, hww⟩; obtain rfl := hww.symm; clear hww)
                          | (go_at_call 16; refine (numberAt_any H6.out.1 _ hix).mono ?_; rintro e wz ⟨rfl, hww⟩; obtain rfl := hww.symm; clear hww))
                      go_wp2
                      go_roundw
                      case rel => exact ⟨j + 1, by omega, by go_num, by go_num, H6.out.1, H6.out.2⟩
                      case measure => simp [intOf]; omega
                    · have hjn : n = j := by omega
                      subst hjn
                      have j1 : ¬ (n : Int) < (n : Int) := by omega
                      go_wp2
                      go_roundw
                      case rel => exact ⟨1, by have := HCH.out; omega, rfl, rfl, H4.out.1, H4.out.2⟩
                      case measure => have := HCH.out; simp [intOf]; omega
                · have HK : Hid ((if ci = 0 then 0 else n) = n) := by
                    show (if ci = 0 then 0 else n) = n
                    rcases H3.out.1.chunks_le with ⟨h1, h2⟩ | h
                    · rw [H2.out.2.2.np] at h2
                      split <;> omega
                    · rw [if_neg (by omega)]
                  have hci2 : ci = chunksOf g := by omega
                  have hci3 : ¬ (ci : Int) < (chunksOf g : Int) := by omega
                  have HW : Hid (Below w.heap.size w wo) := H1.out.2.trans (H3.out.2.mono H1.out.2.size)
                  rw [HK.out]
                  clear hci2 hlt HK
                  go_wp2
                  go_ret
                  exact ⟨rfl, HW.out⟩

end Go.Proofs.Qxb6604492aDoor
