import Derived.Test.Qxb6604472aRows
import Derived.WalkKit
import Derived.Deep.QuietTactic
import Derived.BigQuiet
namespace Go.Proofs.Qxb6604472a
open Go.RowKit

/-- A slice of n strings, of which string i is 'S i', can be read at 'ad' in w. -/
def StrsAt (w : World) (ad : Option Addr) (n : Nat) (S : Nat → ByteArray) : Prop :=
  ∀ i, i < n → ∃ b off, ad = some ⟨b, off, none⟩ ∧ w.cell? ⟨b, off + i, none⟩ = some (.string (S i))

/-- A slice of n slices of strings. -/
def NestAt (w : World) (ad : Option Addr) (n : Nat) (A : Nat → Option Addr) (L C : Nat → Nat) (S : Nat → Nat → ByteArray) : Prop :=
  ∀ i, i < n → L i * 16 ≤ 140737488351232 ∧ (A i = none → L i = 0 ∧ C i = 0) ∧ StrsAt w (A i) (L i) (S i) ∧ ∃ b off, ad = some ⟨b, off, none⟩ ∧ w.cell? ⟨b, off + i, none⟩ = some (.slice (A i) (L i) (C i))

/-- The call returns one bool or the other. -/
def SomeBool (e : Ending) : Prop := ∃ b : Bool, e = .returned (.bool b)

set_option maxHeartbeats 400000 in
theorem add_any (a b : Int) (w : World) :
    Calls Try.prog 22 #[.int .i64 a, .int .i64 b] w fun e w' => (∃ z : Int, e = .returned (.int .i64 z)) ∧ w' = w := by
  go_enter Try.func22, Try.ntmps22
  go_wp2
  all_goals
    go_ret
    exact ⟨⟨_, rfl⟩, rfl⟩

set_option maxHeartbeats 400000 in
theorem strsBytes_any (ad : Option Addr) (n cap : Nat) (S : Nat → ByteArray) (w : World) (hn : n ≤ maxLen) (h : StrsAt w ad n S) :
    Calls Try.prog 21 #[.slice ad n cap] w fun e w' => (∃ z : Int, e = .returned (.int .i64 z)) ∧ w' = w := by
  unfold maxLen at hn
  have H : Hid (StrsAt w ad n S) := h
  clear h
  go_enter Try.func21, Try.ntmps21
  go_wp2
  go_loop [3, 4] (fun t i => ∃ (k : Nat) (z : Int), k ≤ n ∧ i = .int .i64 k ∧ t = .int .i64 z) (fun _ i => n - (intOf i).toNat)
  case atStart => exact ⟨0, 0, Nat.zero_le _, rfl, rfl⟩
  case round =>
    obtain ⟨k, z, hk, rfl, rfl⟩ := hrel
    by_cases hlt : k < n
    · obtain ⟨b, off, rfl, hc⟩ := H.out k hlt
      go_wp2_with (go_at_call 22; refine (add_any _ _ _).mono ?_; rintro e w' ⟨⟨z1, rfl⟩, rfl⟩)
      all_goals
        first
          | (go_ret; exact ⟨⟨_, rfl⟩, rfl⟩)
          | (go_round
             case rel => exact ⟨k + 1, _, by omega, by go_num, rfl⟩
             case measure => simp [intOf]; omega)
    · go_wp2
      go_ret
      exact ⟨⟨_, rfl⟩, rfl⟩


set_option maxHeartbeats 400000 in
theorem nestedBytes_any (ad : Option Addr) (n cap : Nat) (A : Nat → Option Addr) (L C : Nat → Nat) (S : Nat → Nat → ByteArray) (w : World) (hn : n ≤ maxLen) (h : NestAt w ad n A L C S) :
    Calls Try.prog 23 #[.slice ad n cap] w fun e w' => (∃ z : Int, e = .returned (.int .i64 z)) ∧ w' = w := by
  unfold maxLen at hn
  have H : Hid (NestAt w ad n A L C S) := h
  clear h
  go_enter Try.func23, Try.ntmps23
  go_wp2
  go_loop [3, 4] (fun t i => ∃ (k : Nat) (z : Int), k ≤ n ∧ i = .int .i64 k ∧ t = .int .i64 z) (fun _ i => n - (intOf i).toNat)
  case atStart => exact ⟨0, 0, Nat.zero_le _, rfl, rfl⟩
  case round =>
    obtain ⟨k, z, hk, rfl, rfl⟩ := hrel
    by_cases hlt : k < n
    · obtain ⟨hL, _, hS, b, off, rfl, hc⟩ := H.out k hlt
      have HS : Hid (StrsAt w (A k) (L k) (S k)) := hS
      have HL : Hid (L k ≤ maxLen) := show L k ≤ maxLen by unfold maxLen; omega
      clear hS hL
      go_wp2_with (first
        | (go_at_call 22; refine (add_any _ _ _).mono ?_; rintro e w' ⟨⟨z1, rfl⟩, rfl⟩)
        | (go_at_call 21; refine (strsBytes_any _ _ _ (S k) _ HL.out HS.out).mono ?_; rintro e w' ⟨⟨z1, rfl⟩, rfl⟩))
      all_goals
        first
          | (go_ret; exact ⟨⟨_, rfl⟩, rfl⟩)
          | (go_round
             case rel => exact ⟨k + 1, _, by omega, by go_num, rfl⟩
             case measure => simp [intOf]; omega)
    · go_wp2
      go_ret
      exact ⟨⟨_, rfl⟩, rfl⟩

/-- b1At: the i-th inner slice, or the nil one. -/
theorem at_in (ad : Option Addr) (n cap : Nat) (A : Nat → Option Addr) (L C : Nat → Nat) (S : Nat → Nat → ByteArray) (w : World) (i : Nat) (hi : i < n) (h : NestAt w ad n A L C S) :
    Calls Try.prog 13 #[.slice ad n cap, .int .i64 i] w fun e w' => e = .returned (.slice (A i) (L i) (C i)) ∧ w' = w := by
  obtain ⟨hL, hN, hS, b, off, rfl, hc⟩ := h i hi
  clear hL hN hS h
  go_enter Try.func13, Try.ntmps13
  go_wp2
  go_ret
  exact ⟨rfl, rfl⟩

theorem at_out (ad : Option Addr) (n cap : Nat) (w : World) (i : Nat) (hi : ¬ i < n) :
    Calls Try.prog 13 #[.slice ad n cap, .int .i64 i] w fun e w' => e = .returned (.slice none 0 0) ∧ w' = w := by
  go_enter Try.func13, Try.ntmps13
  go_wp2
  go_ret
  exact ⟨rfl, rfl⟩

end Go.Proofs.Qxb6604472a
