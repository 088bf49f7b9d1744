import Derived.Test.Qxb6602571aPlain
import Derived.Test.Qxb6602571aExtent
import Derived.Laws.CopyOwn
namespace Go.Proofs.Qxb6602571a
open Go.RowKit
attribute [local go_sem] eq22


set_option maxHeartbeats 1000000 in
set_option maxRecDepth 100000 in
theorem zzplain_any (ad : Option Addr) (n s : Nat) (l dep par : Int) (d : Nat → Int) (fl : Bool) (w : World) (hs : s ≤ n) (hn : n ≤ 1048576) (hb : By w w.heap.size ad n d 0) :
    Calls Try.prog 9 #[.slice ad n n, .int .i64 s, .int .i64 l, .int .i64 dep, .int .i64 par, .bool fl] w fun e w' =>
      e = .returned (.tuple #[.string (strOf (fs d s (ext d n fl par (wordEnd d n fl s)))), .int .i64 (ext d n fl par (wordEnd d n fl s) : Nat), .int .i64 (ln d l s (ext d n fl par (wordEnd d n fl s))), .int .i64 dep]) ∧ Below w.heap.size w w' := by
  have HB : Hid (By w w.heap.size ad n d 0) := hb
  clear hb
  have HA : Hid (Below w.heap.size w (w.alloc (.cells #[.slice ad n n, .int .i64 s, .int .i64 l, .int .i64 dep] 39))) := (Below.refl _ _).alloc (Nat.le_refl _) _
  have HC : Hid (Calls Try.prog 20 #[.pointer (some ⟨w.heap.size, 0, none⟩), .int .i64 par, .bool fl] (w.alloc (.cells #[.slice ad n n, .int .i64 s, .int .i64 l, .int .i64 dep] 39)) fun e w' =>
      e = .returned (.string (strOf (fs d s (ext d n fl par (wordEnd d n fl s))))) ∧ Rd w' w.heap.size ad n (ext d n fl par (wordEnd d n fl s) : Nat) (ln d l s (ext d n fl par (wordEnd d n fl s))) dep ∧ Below w.heap.size (w.alloc (.cells #[.slice ad n n, .int .i64 s, .int .i64 l, .int .i64 dep] 39)) w') :=
    plain_any w.heap.size ad n s l dep par d fl _ hs hn (heap_alloc_new w _) (HB.out.below HA.out)
  go_enter Try.func9, Try.ntmps9
  go_wp2_with fail
  refine HC.out.mono ?_
  rintro e w1 ⟨rfl, hrd, hbel⟩
  have c1 := hrd.c1
  have c2 := hrd.c2
  have c3 := hrd.c3
  have HE : Hid (Below w.heap.size w w1) := HA.out.trans hbel
  clear hrd hbel HC HA
  go_wp2_with fail
  go_quiet (fail)
  go_wp2
  have HN : Hid (Below w.heap.size w (w1.drewN nq)) := by
    show Below _ _ _
    clear c1 c2 c3
    induction nq with
    | zero => exact HE.out
    | succ k ih => exact ih.drew
  exact bodyPost_ret (v := .tuple #[.string (strOf (fs d s (ext d n fl par (wordEnd d n fl s)))), .int .i64 (ext d n fl par (wordEnd d n fl s) : Nat), .int .i64 (ln d l s (ext d n fl par (wordEnd d n fl s))), .int .i64 dep]) (by simp [results, Try.results9, go_sem]) rfl ⟨rfl, HN.out⟩

theorem bytes_any (ad : Option Addr) (n c : Nat) (a1 a2 a3 a4 : Int) (a5 : Bool) (w : World) (hn : n ≤ 1048576) :
    Calls Try.prog 7 #[.slice ad n c, .int .i64 a1, .int .i64 a2, .int .i64 a3, .int .i64 a4, .bool a5] w fun e w' => e = .returned (.bool true) ∧ w' = w := by
  go_enter Try.func7, Try.ntmps7
  go_wp2
  go_ret
  exact ⟨rfl, rfl⟩

theorem bytes_big (ad : Option Addr) (n c : Nat) (a1 a2 a3 a4 : Int) (a5 : Bool) (w : World) (hn : ¬ n ≤ 1048576) :
    Calls Try.prog 7 #[.slice ad n c, .int .i64 a1, .int .i64 a2, .int .i64 a3, .int .i64 a4, .bool a5] w fun e w' => e = .returned (.bool false) ∧ w' = w := by
  have h : (1048576 : Int) < (n : Int) := by omega
  go_enter Try.func7, Try.ntmps7
  go_wp2
  go_ret
  exact ⟨rfl, rfl⟩


theorem By.up {w : World} {g g' : Nat} {ad : Option Addr} {n : Nat} {d : Nat → Int} {s : Nat} (h : By w g ad n d s) (hg : g ≤ g') : By w g' ad n d s := by
  intro i hi
  obtain ⟨b, off, e, hb, hc⟩ := h i hi
  exact ⟨b, off, e, by omega, hc⟩

theorem By.cutE {w : World} {g b off n : Nat} {d : Nat → Int} (h : By w g (some ⟨b, off, none⟩) n d 0) (s E : Nat) (hE : E ≤ n) : By w g (some ⟨b, off + s, none⟩) (E - s) d s := by
  intro i hi
  obtain ⟨b', off', e, hb, hc⟩ := h (s + i) (by omega)
  simp only [Option.some.injEq, Addr.mk.injEq, and_true] at e
  obtain ⟨rfl, rfl⟩ := e
  refine ⟨b, off + s, rfl, hb, ?_⟩
  rw [Nat.zero_add] at hc
  rw [Nat.add_assoc]
  exact hc

set_option maxHeartbeats 1000000 in
theorem clone_at (x : Addr) (n c : Nat) (d : Nat → Int) (w : World) (hn : n ≤ 1048576) (h : ∀ i, i < n → w.cell? (x.add i) = some (.int .u8 (d i))) :
    Calls Try.prog 8 #[.slice (some x) n c] w fun e w' => e = .returned (.slice (some ⟨w.heap.size, 0, none⟩) n n) ∧ By w' (w.heap.size + 1) (some ⟨w.heap.size, 0, none⟩) n d 0 ∧ w.heap.size < w'.heap.size ∧ Below w.heap.size w w' := by
  obtain ⟨i5, hi, hz0, hz1, hz2⟩ := info_parts info5
  have H : Hid (∀ i, i < n → w.cell? (x.add i) = some (.int .u8 (d i))) := h
  clear h
  have HM : Hid (∀ w1 : World, w1.ownsRow w.heap.size 5 1 (.slice (some ⟨w.heap.size, 0, none⟩) n n) n (madeCells (Value.int .u8 0).cells (n * 1)).toList → w.grownBy w1 none → w1.heap[w.heap.size]? = some (.cells (madeCells (Value.int .u8 0).cells (n * 1)).toList.toArray 5 (0, 0)) ∧ (madeCells (Value.int .u8 0).cells (n * 1)).toList.length = n ∧ Below w.heap.size w w1 ∧ w.heap.size < w1.heap.size ∧ (0 < n → ∀ j v, ((seg d 0 n).map (Value.int .u8))[j]? = some v → w1.cell? (x.add j) = some v)) := by
    intro w1 hown hgrow
    have hB : Below w.heap.size w w1 := (Below.refl _ _).grown hgrow (Nat.le_refl _) (fun _ e => by cases e)
    have hR := row_of_owns hown
    refine ⟨hR, by rw [Array.length_toList, size_madeCells, Nat.mul_one], hB, (Array.getElem?_eq_some_iff.1 hR).1, fun h0 j v hv => ?_⟩
    have hjn : j < n := by
      have := (List.getElem?_eq_some_iff.1 hv).1
      simpa [seg_length] using this
    have h1 : w.cell? (x.add j) = some v := by
      rw [H.out j hjn, ← hv, List.getElem?_map, seg_get d 0 n j (by omega)]
      simp
    have hlt : (x.add j).block < w.heap.size := by
      unfold World.cell? at h1
      cases hh : w.heap[(x.add j).block]? with
      | none => simp [hh] at h1
      | some o => exact (Array.getElem?_eq_some_iff.1 hh).1
    rw [hB.cell hlt]
    exact h1
  obtain ⟨Z, hZ⟩ : ∃ Z, Z = (madeCells (Value.int .u8 0).cells (n * 1)).toList := ⟨_, rfl⟩
  rw [← hZ] at HM
  obtain ⟨S, hS⟩ : ∃ S, S = (seg d 0 n).map (Value.int .u8) := ⟨_, rfl⟩
  have HS : Hid (S.length = n ∧ (∀ u ∈ S, u.oneCell' = true) ∧ S = (seg d 0 n).map (Value.int .u8)) := by rw [hS]; exact ⟨by simp [seg_length], ints_one _, rfl⟩
  rw [← hS] at HM
  clear hS
  go_enter Try.func8, Try.ntmps8
  go_wp2_with (first
    | (at_make; refine wpList_make_full _ rfl _ _ 22 rfl w.heap.size 5 i5 _ 1 Try.underlying22 hi hz0 hz1 _ _ _ _ n rfl rfl rfl rfl (by rw [hz2]; omega) (by unfold maxLen; omega) (Nat.le_refl _) ?_; intro w1 hown hgrow; have HO : Hid _ := HM.out w1 (by rw [hZ]; exact hown) hgrow; clear hown hgrow HM hZ)
    | (refine wpList_copy_splice rfl _ _ 22 22 rfl 5 Try.underlying22 (by rw [hi]; simp [hz1]) (some ⟨w.heap.size, 0, none⟩) (some x) n n n c rfl rfl w.heap.size 0 Z 5 HO.out.1 S (by rw [HS.out.1]; exact (Nat.min_self n).symm) (fun h => ⟨rfl, _, rfl, HO.out.2.2.2.2 (by have := HS.out.1; omega)⟩) (by have := HS.out.1; have := HO.out.2.1; omega) HS.out.2.1 w.heap.size w HO.out.2.2.1 (Nat.le_refl _) ?_; intro w2 HG2 hB2))
  have HE : Hid (By w2 (w.heap.size + 1) (some ⟨w.heap.size, 0, none⟩) n d 0 ∧ w.heap.size < w2.heap.size ∧ Below w.heap.size w w2) := by
    have h1 := HG2.out
    have e : splice Z 0 S = (seg d 0 n).map (Value.int .u8) := by
      have h2 := HS.out.1
      have h3 := HO.out.2.1
      unfold splice
      rw [List.drop_eq_nil_of_le (by omega)]
      simpa using HS.out.2.2
    rw [e] at h1
    exact ⟨By.of_row (by omega) h1, (Array.getElem?_eq_some_iff.1 h1).1, hB2⟩
  clear hB2 HG2
  go_wp2
  go_ret
  exact ⟨rfl, HE.out⟩

theorem law_big (a0 : Option Addr) (n c : Nat) (a1 a2 a3 a4 : Int) (a5 : Bool) (w : World) (hn : ¬ n ≤ 1048576) :
    Calls Try.prog 3 #[.slice a0 n c, .int .i64 a1, .int .i64 a2, .int .i64 a3, .int .i64 a4, .bool a5] w fun e w' => e = .returned (.bool true) ∧ Below w.heap.size w w' := by
  go_enter Try.func3, Try.ntmps3
  go_wp2_with (go_at_call 7; refine (bytes_big _ _ _ _ _ _ _ _ _ hn).mono ?_; rintro e w' ⟨rfl, hww⟩; obtain rfl := hww.symm)
  go_ret
  exact ⟨rfl, Below.refl _ _⟩

theorem law_out (a0 : Option Addr) (n c : Nat) (a1 a2 a3 a4 : Int) (a5 : Bool) (w : World) (hn : n ≤ 1048576) (h : a1 < 0 ∨ (n : Int) < a1) :
    Calls Try.prog 3 #[.slice a0 n c, .int .i64 a1, .int .i64 a2, .int .i64 a3, .int .i64 a4, .bool a5] w fun e w' => e = .returned (.bool true) ∧ Below w.heap.size w w' := by
  have hn' : ¬ (1048576 : Int) < (n : Int) := by omega
  by_cases h0 : a1 < 0
  · go_enter Try.func3, Try.ntmps3
    go_wp2_with (go_at_call 7; refine (bytes_any _ _ _ _ _ _ _ _ _ hn).mono ?_; rintro e w' ⟨rfl, hww⟩; obtain rfl := hww.symm)
    go_ret
    exact ⟨rfl, Below.refl _ _⟩
  · have h1 : (n : Int) < a1 := by omega
    go_enter Try.func3, Try.ntmps3
    go_wp2_with (go_at_call 7; refine (bytes_any _ _ _ _ _ _ _ _ _ hn).mono ?_; rintro e w' ⟨rfl, hww⟩; obtain rfl := hww.symm)
    go_ret
    exact ⟨rfl, Below.refl _ _⟩

set_option maxHeartbeats 2000000 in
set_option maxRecDepth 100000 in
theorem law_in (a0 : Option Addr) (n c s : Nat) (l dep par : Int) (fl : Bool) (d : Nat → Int) (w : World) (hn : n ≤ 1048576) (hs : s ≤ n)
    (hcl : Calls Try.prog 8 #[.slice a0 n c] w fun e w' => ∃ ad, e = .returned (.slice ad n n) ∧ By w' w'.heap.size ad n d 0 ∧ Below w.heap.size w w') :
    Calls Try.prog 3 #[.slice a0 n c, .int .i64 s, .int .i64 l, .int .i64 dep, .int .i64 par, .bool fl] w fun e w' => e = .returned (.bool true) ∧ Below w.heap.size w w' := by
  have HCL : Hid (Calls Try.prog 8 #[.slice a0 n c] w fun e w' => ∃ ad, e = .returned (.slice ad n n) ∧ By w' w'.heap.size ad n d 0 ∧ Below w.heap.size w w') := hcl
  clear hcl
  have hn' : ¬ (1048576 : Int) < (n : Int) := by omega
  have hs0 : ¬ (s : Int) < 0 := by omega
  have hs1 : ¬ (n : Int) < (s : Int) := by omega
  have HX : Hid (s ≤ ext d n fl par (wordEnd d n fl s) ∧ ext d n fl par (wordEnd d n fl s) ≤ n) := by
    have h1 := word_spec d n fl s hs
    have h2 := ext_spec d n fl par (wordEnd d n fl s) h1.2.1
    exact ⟨Nat.le_trans h1.1 h2.1, h2.2⟩
  go_enter Try.func3, Try.ntmps3
  go_wp2_with fail
  refine (bytes_any _ _ _ _ _ _ _ _ _ hn).mono ?_
  rintro e wz ⟨rfl, hww⟩
  obtain rfl := hww.symm
  clear hww
  go_wp2_with fail
  refine HCL.out.mono ?_
  rintro e w1 ⟨ad, rfl, hby, hbel⟩
  have HB : Hid (By w1 w1.heap.size ad n d 0 ∧ Below w.heap.size w w1) := ⟨hby, hbel⟩
  clear hby hbel HCL
  go_wp2_with fail
  refine (zzplain_any ad n s l dep par d fl w1 hs hn HB.out.1).mono ?_
  rintro e w2 ⟨rfl, hbel⟩
  have HB2 : Hid (By w2 w2.heap.size ad n d 0 ∧ Below w.heap.size w w2) := ⟨(HB.out.1.below hbel).up hbel.size, HB.out.2.trans (hbel.mono HB.out.2.size)⟩
  clear hbel HB
  go_wp2_with fail
  refine (extent_any w2.heap.size ad n s par fl d w2 hs hn HB2.out.1).mono ?_
  rintro e wz ⟨rfl, hww⟩
  obtain rfl := hww.symm
  clear hww
  obtain ⟨E, hE⟩ : ∃ E, E = ext d n fl par (wordEnd d n fl s) := ⟨_, rfl⟩
  rw [← hE] at HX ⊢
  clear hE
  have hsE := HX.out.1
  have hEn := HX.out.2
  clear HX
  go_wp2_with fail
  go_loop [18, 19] (fun vl vi => ∃ i : Nat, s ≤ i ∧ i ≤ E ∧ vl = .int .i64 (ln d l s i) ∧ vi = .int .i64 i) (fun _ vi => E - (intOf vi).toNat)
  case atStart => exact ⟨s, Nat.le_refl _, hsE, by rw [ln_self], rfl⟩
  case round =>
    obtain ⟨i, hi1, hi2, rfl, rfl⟩ := hrel
    by_cases hlt : i < E
    · obtain ⟨b, off, rfl, hb, hc⟩ := HB2.out.1 i (by omega)
      rw [Nat.zero_add] at hc
      have k1 : (i : Int) < (E : Int) := by omega
      by_cases h10 : d i = 10
      · rw [h10] at hc
        have HL : Hid (ln d l s (i + 1) = (i : Int) + 1) := ln_br d l s i hi1 h10
        go_wp2
        refine ⟨⟨i + 1, by omega, by omega, by rw [HL.out], rfl⟩, ?_⟩
        simp [intOf]
        omega
      · have HL : Hid (ln d l s (i + 1) = ln d l s i) := ln_no d l s i hi1 h10
        have e10 : (d i == 10) = false := by simpa using h10
        go_wp2
        refine ⟨⟨i + 1, by omega, by omega, by rw [HL.out], rfl⟩, ?_⟩
        simp [intOf]
        omega
    · obtain rfl : i = E := by omega
      have k1 : ¬ (i : Int) < (i : Int) := by omega
      by_cases hsn : s < n
      · obtain ⟨b, off, rfl, hb, hc⟩ := HB2.out.1 s hsn
        go_wp2_with fail
        refine (fold_any w2.heap.size _ (i - s) (n - s) s d w2 (Nat.le_refl _) (by omega) (by omega) (HB2.out.1.cutE s i hEn)).mono ?_
        rintro e w3 ⟨v, rfl, hown, hbel⟩
        rw [show s + (i - s) = i by omega] at hown
        have hconv : (convert 22 9 v).run Try.prog w3 = .ok (.string (strOf (fs d s i))) w3 := conv_own hown
        have HZ : Hid (Below w.heap.size w w3) := HB2.out.2.trans (hbel.mono HB2.out.2.size)
        clear hown hbel
        go_wp2
        go_ret
        exact ⟨rfl, HZ.out⟩
      · obtain rfl : s = n := by omega
        obtain rfl : i = s := by omega
        go_wp2_with fail
        refine (fold_any w2.heap.size _ 0 _ i d w2 (Nat.le_refl _) (by omega) (by omega) (fun j hj => absurd hj (by omega))).mono ?_
        rintro e w3 ⟨v, rfl, hown, hbel⟩
        rw [show i + 0 = i by omega] at hown
        have hconv : (convert 22 9 v).run Try.prog w3 = .ok (.string (strOf (fs d i i))) w3 := conv_own hown
        have HZ : Hid (Below w.heap.size w w3) := HB2.out.2.trans (hbel.mono HB2.out.2.size)
        clear hown hbel
        go_wp2
        go_ret
        exact ⟨rfl, HZ.out⟩

end Go.Proofs.Qxb6602571a
