import Derived.Test.Qxb6604472aClone
import Derived.WalkSmall
namespace Go.Proofs.Qxb6604472a
open Go.RowKit
attribute [local go_sem] eq22

/-- Is there an index below n at which p holds? -/
def anyB : Nat → (Nat → Bool) → Bool
  | 0, _ => false
  | k + 1, p => anyB k p || p k
/-- How many are there? -/
def countB : Nat → (Nat → Bool) → Nat
  | 0, _ => 0
  | k + 1, p => countB k p + if p k then 1 else 0

theorem anyB_hit {p : Nat → Bool} {k n : Nat} (hk : k < n) (h : p k = true) : anyB n p = true := by
  induction n with
  | zero => omega
  | succ n ih =>
    by_cases e : k = n
    · subst e; simp [anyB, h]
    · simp [anyB, ih (by omega)]
theorem anyB_step {p : Nat → Bool} {k : Nat} (h1 : anyB k p = false) (h2 : p k = false) : anyB (k + 1) p = false := by simp [anyB, h1, h2]
theorem anyB_congr {p q : Nat → Bool} {n : Nat} (h : ∀ i, i < n → p i = q i) : anyB n p = anyB n q := by
  induction n with
  | zero => rfl
  | succ n ih => simp [anyB, ih (fun i hi => h i (by omega)), h n (by omega)]
theorem countB_le (n : Nat) (p : Nat → Bool) : countB n p ≤ n := by
  induction n with
  | zero => exact Nat.le_refl _
  | succ n ih => unfold countB; split <;> omega
theorem countB_split (h n : Nat) (p : Nat → Bool) : countB (h + n) p = countB h p + countB n (fun i => p (h + i)) := by
  induction n with
  | zero => rfl
  | succ n ih =>
    show countB (h + n) p + (if p (h + n) then 1 else 0) = countB h p + (countB n (fun i => p (h + i)) + if p (h + n) then 1 else 0)
    rw [ih]
    omega

/-- The text s is among the first n of S. -/
def inB (n : Nat) (S : Nat → ByteArray) (s : ByteArray) : Bool := anyB n fun i => (S i).toList == s.toList

/-- billing.contains. -/
theorem contains_any (a : Option Addr) (n c : Nat) (S : Nat → ByteArray) (s : ByteArray) (w : World) (hn : n ≤ maxLen) (h : StrsAt w a n S) :
    Calls Try.prog 34 #[.slice a n c, .string s] w fun e w' => e = .returned (.bool (inB n S s)) ∧ w' = w := by
  unfold maxLen at hn
  have H : Hid (StrsAt w a n S) := h
  clear h
  go_enter Try.func34, Try.ntmps34
  go_wp2
  go_loop [9] (fun i => ∃ k : Nat, k ≤ n ∧ i = .int .i64 k ∧ inB k S s = false) (fun i => n - (intOf i).toNat)
  case atStart => exact ⟨0, Nat.zero_le _, rfl, rfl⟩
  case round =>
    obtain ⟨k, hk, rfl, hno⟩ := hrel
    have HN : Hid (inB k S s = false) := hno
    clear hno
    by_cases hlt : k < n
    · obtain ⟨b, off, rfl, hc⟩ := H.out k hlt
      cases hq : ((S k).toList == s.toList) with
      | true =>
        have HE : Hid (inB n S s = true) := anyB_hit hlt hq
        go_wp2
        go_ret
        exact ⟨by rw [HE.out]; rfl, rfl⟩
      | false =>
        have HE : Hid (inB (k + 1) S s = false) := anyB_step HN.out hq
        go_wp2
        go_round
        case rel => exact ⟨k + 1, by omega, by go_num, HE.out⟩
        case measure => simp [intOf]; omega
    · obtain rfl : k = n := by omega
      go_wp2
      go_ret
      exact ⟨by rw [HN.out]; rfl, rfl⟩

/-- b1In. -/
theorem in_any (a : Option Addr) (n c : Nat) (S : Nat → ByteArray) (s : ByteArray) (w : World) (hn : n ≤ maxLen) (h : StrsAt w a n S) :
    Calls Try.prog 29 #[.string s, .slice a n c] w fun e w' => e = .returned (.bool (inB n S s)) ∧ w' = w := by
  unfold maxLen at hn
  have H : Hid (StrsAt w a n S) := h
  clear h
  go_enter Try.func29, Try.ntmps29
  go_wp2
  go_loop [5] (fun i => ∃ k : Nat, k ≤ n ∧ i = .int .i64 k ∧ inB k S s = false) (fun i => n - (intOf i).toNat)
  case atStart => exact ⟨0, Nat.zero_le _, rfl, rfl⟩
  case round =>
    obtain ⟨k, hk, rfl, hno⟩ := hrel
    have HN : Hid (inB k S s = false) := hno
    clear hno
    by_cases hlt : k < n
    · obtain ⟨b, off, rfl, hc⟩ := H.out k hlt
      cases hq : ((S k).toList == s.toList) with
      | true =>
        have HE : Hid (inB n S s = true) := anyB_hit hlt hq
        go_wp2
        go_ret
        exact ⟨by rw [HE.out]; rfl, rfl⟩
      | false =>
        have HE : Hid (inB (k + 1) S s = false) := anyB_step HN.out hq
        go_wp2
        go_round
        case rel => exact ⟨k + 1, by omega, by go_num, HE.out⟩
        case measure => simp [intOf]; omega
    · obtain rfl : k = n := by omega
      go_wp2
      go_ret
      exact ⟨by rw [HN.out]; rfl, rfl⟩

theorem StrsAt.drewN {w : World} {a : Option Addr} {n : Nat} {S : Nat → ByteArray} (h : StrsAt w a n S) (m : Nat) : StrsAt (w.drewN m) a n S := h

/-- (*Applicability).lists, by what lies in memory. -/
def listsB (n0 : Nat) (S0 : Nat → ByteArray) (n1 : Nat) (S1 : Nat → ByteArray) (id : ByteArray) (nt : Nat) (St : Nat → ByteArray) : Bool :=
  (decide (n0 = 0) || inB n0 S0 id) && (decide (n1 = 0) || anyB n1 fun i => inB nt St (S1 i))

set_option maxHeartbeats 1000000 in
theorem lists_any (ga gp op : Nat) (a0 : Option Addr) (n0 c0 : Nat) (S0 : Nat → ByteArray) (a1 : Option Addr) (n1 c1 : Nat) (S1 : Nat → ByteArray) (id : ByteArray) (at' : Option Addr) (nt ct : Nat) (St : Nat → ByteArray) (w : World)
    (h0 : n0 ≤ maxLen) (h1 : n1 ≤ maxLen) (ht : nt ≤ maxLen) (g0 : StrsAt w a0 n0 S0) (g1 : StrsAt w a1 n1 S1) (gt : StrsAt w at' nt St)
    (k0 : w.cell? ⟨ga, 0, none⟩ = some (.slice a0 n0 c0)) (k1 : w.cell? ⟨ga, 1, none⟩ = some (.slice a1 n1 c1)) (p0 : w.cell? ⟨gp, op, none⟩ = some (.string id)) (p4 : w.cell? ⟨gp, op + 4, none⟩ = some (.slice at' nt ct)) :
    Calls Try.prog 31 #[.pointer (some ⟨ga, 0, none⟩), .pointer (some ⟨gp, op, none⟩)] w fun e w' => e = .returned (.bool (listsB n0 S0 n1 S1 id nt St)) ∧ ∃ m, w' = w.drewN m := by
  unfold maxLen at h0 h1 ht
  have H0 : Hid (StrsAt w a0 n0 S0) := g0
  have H1 : Hid (StrsAt w a1 n1 S1) := g1
  have HT : Hid (StrsAt w at' nt St) := gt
  clear g0 g1 gt
  by_cases hz : n0 = 0
  · have hd : decide ((0 : Int) < (n0 : Int)) = false := decide_eq_false (by omega)
    subst hz
    go_enter Try.func31, Try.ntmps31
    go_wp2
    go_quiet (fail)
    clear hd
    by_cases hz1 : n1 = 0
    · have hl : Hid (listsB 0 S0 n1 S1 id nt St = true) := by show listsB 0 S0 n1 S1 id nt St = true; simp [listsB, hz1]
      have hb1 : ((n1 : Int) == 0) = true := by simp [hz1]
      clear hz1
      go_wp2
      go_ret
      exact ⟨by rw [hl.out]; rfl, _, rfl⟩
    · have hl : Hid (listsB 0 S0 n1 S1 id nt St = anyB n1 fun i => inB nt St (S1 i)) := by show listsB 0 S0 n1 S1 id nt St = _; simp [listsB, hz1]
      have hb1 : ((n1 : Int) == 0) = false := by simp; omega
      go_wp2_with fail
      go_loop [36] (fun i => ∃ k : Nat, k ≤ n1 ∧ i = .int .i64 k ∧ anyB k (fun i => inB nt St (S1 i)) = false) (fun i => n1 - (intOf i).toNat)
      case atStart => exact ⟨0, Nat.zero_le _, rfl, rfl⟩
      case round =>
        obtain ⟨k, hk, rfl, hno⟩ := hrel
        have HN : Hid (anyB k (fun i => inB nt St (S1 i)) = false) := hno
        clear hno hb1
        by_cases hlt : k < n1
        · obtain ⟨b, off, rfl, hc⟩ := H1.out k hlt
          go_wp2_with fail
          refine (contains_any at' nt ct St (S1 k) _ (by unfold maxLen; omega) (HT.out.drewN _)).mono ?_
          rintro e w' ⟨rfl, hww⟩
          obtain rfl := hww.symm
          cases hq : inB nt St (S1 k) with
          | true =>
            have HE : Hid (anyB n1 (fun i => inB nt St (S1 i)) = true) := anyB_hit hlt hq
            go_wp2
            go_ret
            exact ⟨by rw [hl.out, HE.out]; rfl, _, rfl⟩
          | false =>
            have HE : Hid (anyB (k + 1) (fun i => inB nt St (S1 i)) = false) := anyB_step HN.out hq
            go_wp2
            go_round
            case rel => exact ⟨k + 1, by omega, by go_num, HE.out⟩
            case measure => simp [intOf]; omega
        · obtain rfl : k = n1 := by omega
          go_wp2
          go_ret
          exact ⟨by rw [hl.out, HN.out]; rfl, _, rfl⟩
  · have hd : 0 < n0 := by omega
    cases hin : inB n0 S0 id with
    | false =>
      have HF : Hid (listsB n0 S0 n1 S1 id nt St = false) := by show listsB n0 S0 n1 S1 id nt St = false; simp [listsB, hz, hin]
      go_enter Try.func31, Try.ntmps31
      go_wp2
      go_quiet ((go_at_call 34; exact Calls.quiet_of_same (contains_any a0 n0 c0 S0 id _ (by unfold maxLen; omega) (H0.out.drewN _))))
      go_wp2
      go_ret
      exact ⟨by rw [HF.out]; rfl, _, rfl⟩
    | true =>
      have hin' : Hid (inB n0 S0 id = true) := hin
      go_enter Try.func31, Try.ntmps31
      go_wp2
      go_quiet ((go_at_call 34; exact Calls.quiet_of_same (contains_any a0 n0 c0 S0 id _ (by unfold maxLen; omega) (H0.out.drewN _))))
      clear hd hin hz
      by_cases hz1 : n1 = 0
      · have hl : Hid (listsB n0 S0 n1 S1 id nt St = true) := by show listsB n0 S0 n1 S1 id nt St = true; simp [listsB, hz1, hin'.out]
        have hb1 : ((n1 : Int) == 0) = true := by simp [hz1]
        clear hz1
        go_wp2
        go_ret
        exact ⟨by rw [hl.out]; rfl, _, rfl⟩
      · have hl : Hid (listsB n0 S0 n1 S1 id nt St = anyB n1 fun i => inB nt St (S1 i)) := by show listsB n0 S0 n1 S1 id nt St = _; simp [listsB, hz1, hin'.out]
        have hb1 : ((n1 : Int) == 0) = false := by simp; omega
        go_wp2_with fail
        go_loop [36] (fun i => ∃ k : Nat, k ≤ n1 ∧ i = .int .i64 k ∧ anyB k (fun i => inB nt St (S1 i)) = false) (fun i => n1 - (intOf i).toNat)
        case atStart => exact ⟨0, Nat.zero_le _, rfl, rfl⟩
        case round =>
          obtain ⟨k, hk, rfl, hno⟩ := hrel
          have HN : Hid (anyB k (fun i => inB nt St (S1 i)) = false) := hno
          clear hno hb1
          by_cases hlt : k < n1
          · obtain ⟨b, off, rfl, hc⟩ := H1.out k hlt
            go_wp2_with fail
            refine (contains_any at' nt ct St (S1 k) _ (by unfold maxLen; omega) (HT.out.drewN _)).mono ?_
            rintro e w' ⟨rfl, hww⟩
            obtain rfl := hww.symm
            cases hq : inB nt St (S1 k) with
            | true =>
              have HE : Hid (anyB n1 (fun i => inB nt St (S1 i)) = true) := anyB_hit hlt hq
              go_wp2
              go_ret
              exact ⟨by rw [hl.out, HE.out]; rfl, _, rfl⟩
            | false =>
              have HE : Hid (anyB (k + 1) (fun i => inB nt St (S1 i)) = false) := anyB_step HN.out hq
              go_wp2
              go_round
              case rel => exact ⟨k + 1, by omega, by go_num, HE.out⟩
              case measure => simp [intOf]; omega
          · obtain rfl : k = n1 := by omega
            go_wp2
            go_ret
            exact ⟨by rw [hl.out, HN.out]; rfl, _, rfl⟩

end Go.Proofs.Qxb6604472a
