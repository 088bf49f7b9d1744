import Derived.Test.Qxb6604472aBase
namespace Go.Proofs.Qxb6604472a
open Go.RowKit

set_option maxHeartbeats 8000000 in
set_option maxRecDepth 100000 in
theorem zz15_any (ad0 : Option Addr) (n0 c0 : Nat) (S0 : Nat → ByteArray) (ad1 : Option Addr) (n1 c1 : Nat) (S1 : Nat → ByteArray) (ad2 : Option Addr) (n2 c2 : Nat) (S2 : Nat → ByteArray) (ad3 : Option Addr) (n3 c3 : Nat) (S3 : Nat → ByteArray) (ad4 : Option Addr) (n4 c4 : Nat) (A4 : Nat → Option Addr) (L4 C4 : Nat → Nat) (S4 : Nat → Nat → ByteArray) (w : World)
    (hn0 : n0 ≤ maxLen) (h0 : StrsAt w ad0 n0 S0) (hn1 : n1 ≤ maxLen) (h1 : StrsAt w ad1 n1 S1) (hn2 : n2 ≤ maxLen) (h2 : StrsAt w ad2 n2 S2) (hn3 : n3 ≤ maxLen) (h3 : StrsAt w ad3 n3 S3) (hn4 : n4 ≤ maxLen) (h4 : NestAt w ad4 n4 A4 L4 C4 S4) :
    Calls Try.prog 15 #[.slice ad0 n0 c0, .slice ad1 n1 c1, .slice ad2 n2 c2, .slice ad3 n3 c3, .slice ad4 n4 c4] w fun e w' => SomeBool e ∧ w' = w := by
  unfold maxLen at hn0 hn1 hn2 hn3 hn4
  have H0 : Hid (StrsAt w ad0 n0 S0) := h0
  have H1 : Hid (StrsAt w ad1 n1 S1) := h1
  have H2 : Hid (StrsAt w ad2 n2 S2) := h2
  have H3 : Hid (StrsAt w ad3 n3 S3) := h3
  have H4 : Hid (NestAt w ad4 n4 A4 L4 C4 S4) := h4
  clear h0 h1 h2 h3 h4
  go_enter Try.func15, Try.ntmps15
  go_wp2
  all_goals try (go_ret; exact ⟨⟨_, rfl⟩, rfl⟩)
  go_loop [11, 12] (fun t i => ∃ (k : Nat) (z : Int), k ≤ n0 ∧ i = .int .i64 k ∧ t = .int .i64 z) (fun _ i => n0 - (intOf i).toNat)
  case atStart => exact ⟨0, _, Nat.zero_le _, rfl, rfl⟩
  case round =>
    obtain ⟨k0, z0, hk0, rfl, rfl⟩ := hrel
    by_cases hlt0 : k0 < n0
    · obtain ⟨b, off, rfl, hc⟩ := H0.out k0 hlt0
      go_wp2
      all_goals
        first
          | (go_ret; exact ⟨⟨_, rfl⟩, rfl⟩)
          | (go_round
             case rel => exact ⟨k0 + 1, _, by omega, by go_num, rfl⟩
             case measure => simp [intOf]; omega)
    · skip
      go_wp2
      all_goals try (go_ret; exact ⟨⟨_, rfl⟩, rfl⟩)
      go_loop [11, 13] (fun t i => ∃ (k : Nat) (z : Int), k ≤ n1 ∧ i = .int .i64 k ∧ t = .int .i64 z) (fun _ i => n1 - (intOf i).toNat)
      case atStart => exact ⟨0, _, Nat.zero_le _, rfl, rfl⟩
      case round =>
        obtain ⟨k1, z1, hk1, rfl, rfl⟩ := hrel
        by_cases hlt1 : k1 < n1
        · obtain ⟨b, off, rfl, hc⟩ := H1.out k1 hlt1
          go_wp2
          all_goals
            first
              | (go_ret; exact ⟨⟨_, rfl⟩, rfl⟩)
              | (go_round
                 case rel => exact ⟨k1 + 1, _, by omega, by go_num, rfl⟩
                 case measure => simp [intOf]; omega)
        · skip
          go_wp2
          all_goals try (go_ret; exact ⟨⟨_, rfl⟩, rfl⟩)
          go_loop [11, 14] (fun t i => ∃ (k : Nat) (z : Int), k ≤ n2 ∧ i = .int .i64 k ∧ t = .int .i64 z) (fun _ i => n2 - (intOf i).toNat)
          case atStart => exact ⟨0, _, Nat.zero_le _, rfl, rfl⟩
          case round =>
            obtain ⟨k2, z2, hk2, rfl, rfl⟩ := hrel
            by_cases hlt2 : k2 < n2
            · obtain ⟨b, off, rfl, hc⟩ := H2.out k2 hlt2
              go_wp2
              all_goals
                first
                  | (go_ret; exact ⟨⟨_, rfl⟩, rfl⟩)
                  | (go_round
                     case rel => exact ⟨k2 + 1, _, by omega, by go_num, rfl⟩
                     case measure => simp [intOf]; omega)
            · skip
              go_wp2
              all_goals try (go_ret; exact ⟨⟨_, rfl⟩, rfl⟩)
              go_loop [11, 15] (fun t i => ∃ (k : Nat) (z : Int), k ≤ n3 ∧ i = .int .i64 k ∧ t = .int .i64 z) (fun _ i => n3 - (intOf i).toNat)
              case atStart => exact ⟨0, _, Nat.zero_le _, rfl, rfl⟩
              case round =>
                obtain ⟨k3, z3, hk3, rfl, rfl⟩ := hrel
                by_cases hlt3 : k3 < n3
                · obtain ⟨b, off, rfl, hc⟩ := H3.out k3 hlt3
                  go_wp2
                  all_goals
                    first
                      | (go_ret; exact ⟨⟨_, rfl⟩, rfl⟩)
                      | (go_round
                         case rel => exact ⟨k3 + 1, _, by omega, by go_num, rfl⟩
                         case measure => simp [intOf]; omega)
                · skip
                  go_wp2
                  all_goals try (go_ret; exact ⟨⟨_, rfl⟩, rfl⟩)
                  go_loop [11, 16] (fun t i => ∃ (k : Nat) (z : Int), k ≤ n4 ∧ i = .int .i64 k ∧ t = .int .i64 z) (fun _ i => n4 - (intOf i).toNat)
                  case atStart => exact ⟨0, _, Nat.zero_le _, rfl, rfl⟩
                  case round =>
                    obtain ⟨k4, z4, hk4, rfl, rfl⟩ := hrel
                    by_cases hlt4 : k4 < n4
                    · obtain ⟨hL, _, hS, b, off, rfl, hc⟩ := H4.out k4 hlt4
                      have HS : Hid (StrsAt w (A4 k4) (L4 k4) (S4 k4)) := hS
                      clear hS
                      generalize A4 k4 = A at *; generalize L4 k4 = L at *; generalize C4 k4 = C at *; generalize S4 k4 = S at *
                      go_wp2
                      all_goals try (go_ret; exact ⟨⟨_, rfl⟩, rfl⟩)
                      go_loop [11, 17] (fun t i => ∃ (k : Nat) (z : Int), k ≤ L ∧ i = .int .i64 k ∧ t = .int .i64 z) (fun _ i => L - (intOf i).toNat)
                      case atStart => exact ⟨0, _, Nat.zero_le _, rfl, rfl⟩
                      case round =>
                        obtain ⟨k, z, hk, rfl, rfl⟩ := hrel
                        by_cases hlt : k < L
                        · obtain ⟨b', off', rfl, hc'⟩ := HS.out k hlt
                          go_wp2
                          all_goals
                            first
                              | (go_ret; exact ⟨⟨_, rfl⟩, rfl⟩)
                              | (go_round
                                 case rel => exact ⟨k + 1, _, by omega, by go_num, rfl⟩
                                 case measure => simp [intOf]; omega)
                        · go_wp2
                          go_round
                          case rel => exact ⟨k4 + 1, _, by omega, by go_num, rfl⟩
                          case measure => simp [intOf]; omega
                    · skip
                      go_wp2
                      all_goals (go_ret; exact ⟨⟨_, rfl⟩, rfl⟩)

end Go.Proofs.Qxb6604472a
