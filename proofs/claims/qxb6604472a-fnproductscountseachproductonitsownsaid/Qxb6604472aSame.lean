import Derived.Test.Qxb6604472aMap
namespace Go.Proofs.Qxb6604472a
open Go.RowKit Go.Maps Go.ChangeMaps Go.WideMaps
attribute [local go_sem] eq22

theorem eq31 (w : World) (r : Option Nat) : (binOp .eql 31 (.map r) (.map none)).run Try.prog w = .ok (.bool r.isNone) w := run_eql_map_nil w 31 9 9 r Try.underlying31
attribute [local go_sem] eq31

theorem bne_self_bool (b : Bool) : (b != b) = false := by cases b <;> rfl

set_option maxHeartbeats 400000 in
theorem sameStrs_same (a : Option Addr) (n c : Nat) (S : Nat → ByteArray) (w : World) (hn : n ≤ maxLen) (h : StrsAt w a n S) :
    Calls Try.prog 26 #[.slice a n c, .slice a n c] w fun e w' => e = .returned (.bool true) ∧ ∃ m, w' = w.drewN m := by
  unfold maxLen at hn
  have H : Hid (StrsAt w a n S) := h
  clear h
  have hb := bne_self_bool
  have hb2 : ((n : Int) != (n : Int)) = false := by simp
  go_enter Try.func26, Try.ntmps26
  go_wp2
  go_loopw [5] (fun i wr => ∃ (k m : Nat), k ≤ n ∧ i = .int .i64 k ∧ wr = w.drewN m) (fun i _ => n - (intOf i).toNat)
  case atStart => exact ⟨0, 0, Nat.zero_le _, rfl, rfl⟩
  case round =>
    obtain ⟨k, m, hk, rfl, rfl⟩ := hrel
    by_cases hlt : k < n
    · obtain ⟨b, off, rfl, hc⟩ := H.out k hlt
      go_wp2
      go_quiet (fail)
      go_wp2
      go_roundw
      case rel => exact ⟨k + 1, _, by omega, by go_num, rfl⟩
      case measure => simp [intOf]; omega
    · go_wp2
      go_ret
      exact ⟨rfl, _, rfl⟩

set_option maxHeartbeats 400000 in
theorem sameMap_same (r : Option Nat) (a : Option Addr) (n c : Nat) (S : Nat → ByteArray) (w : World) (hn : n ≤ maxLen) (h : StrsAt w a n S) (hs : ∀ i, (S i).size ≤ maxLen) (hm : MapIs w r) :
    Calls Try.prog 27 #[.map r, .map r, .slice a n c] w fun e w' => e = .returned (.bool true) ∧ w' = w := by
  unfold maxLen at hn
  have H : Hid (StrsAt w a n S) := h
  have HM : Hid (MapIs w r) := hm
  have HS : Hid (∀ i, (S i).size ≤ maxLen) := hs
  obtain ⟨z, hl⟩ := hm.len
  clear h hm hs
  have hb := bne_self_bool
  have hb2 : (z != z) = false := by simp
  go_enter Try.func27, Try.ntmps27
  go_wp2
  clear hl hb2
  go_loop [7] (fun i => ∃ (k : Nat), k ≤ n ∧ i = .int .i64 k) (fun i => n - (intOf i).toNat)
  case atStart => exact ⟨0, Nat.zero_le _, rfl⟩
  case round =>
    obtain ⟨k, hk, rfl⟩ := hrel
    by_cases hlt : k < n
    · obtain ⟨b, off, rfl, hc⟩ := H.out k hlt
      obtain ⟨v, ok, hlook⟩ := HM.out.look (S k) (HS.out k)
      generalize S k = s at *
      go_wp2
      go_round
      case rel => exact ⟨k + 1, by omega, by go_num⟩
      case measure => simp [intOf]; omega
    · go_wp2
      go_ret
      exact ⟨rfl, rfl⟩

end Go.Proofs.Qxb6604472a
