import Derived.Test.Qxb6604472aBase
namespace Go.Proofs.Qxb6604472a
open Go.RowKit

set_option maxHeartbeats 8000000 in
set_option maxRecDepth 100000 in
theorem zz14_any (ad0 : Option Addr) (n0 c0 : Nat) (S0 : Nat → ByteArray) (ad1 : Option Addr) (n1 c1 : Nat) (A1 : Nat → Option Addr) (L1 C1 : Nat → Nat) (S1 : Nat → Nat → ByteArray) (ad2 : Option Addr) (n2 c2 : Nat) (A2 : Nat → Option Addr) (L2 C2 : Nat → Nat) (S2 : Nat → Nat → ByteArray) (ad3 : Option Addr) (n3 c3 : Nat) (A3 : Nat → Option Addr) (L3 C3 : Nat → Nat) (S3 : Nat → Nat → ByteArray) (ad4 : Option Addr) (n4 c4 : Nat) (A4 : Nat → Option Addr) (L4 C4 : Nat → Nat) (S4 : Nat → Nat → ByteArray) (ad5 : Option Addr) (n5 c5 : Nat) (A5 : Nat → Option Addr) (L5 C5 : Nat → Nat) (S5 : Nat → Nat → ByteArray) (ad6 : Option Addr) (n6 c6 : Nat) (A6 : Nat → Option Addr) (L6 C6 : Nat → Nat) (S6 : Nat → Nat → ByteArray) (w : World)
    (hn0 : n0 ≤ maxLen) (h0 : StrsAt w ad0 n0 S0) (hn1 : n1 ≤ maxLen) (h1 : NestAt w ad1 n1 A1 L1 C1 S1) (hn2 : n2 ≤ maxLen) (h2 : NestAt w ad2 n2 A2 L2 C2 S2) (hn3 : n3 ≤ maxLen) (h3 : NestAt w ad3 n3 A3 L3 C3 S3) (hn4 : n4 ≤ maxLen) (h4 : NestAt w ad4 n4 A4 L4 C4 S4) (hn5 : n5 ≤ maxLen) (h5 : NestAt w ad5 n5 A5 L5 C5 S5) (hn6 : n6 ≤ maxLen) (h6 : NestAt w ad6 n6 A6 L6 C6 S6) :
    Calls Try.prog 14 #[.slice ad0 n0 c0, .slice ad1 n1 c1, .slice ad2 n2 c2, .slice ad3 n3 c3, .slice ad4 n4 c4, .slice ad5 n5 c5, .slice ad6 n6 c6] w fun e w' => SomeBool e ∧ w' = w := by
  unfold maxLen at hn0 hn1 hn2 hn3 hn4 hn5 hn6
  have H0 : Hid (StrsAt w ad0 n0 S0) := h0
  have H1 : Hid (NestAt w ad1 n1 A1 L1 C1 S1) := h1
  have H2 : Hid (NestAt w ad2 n2 A2 L2 C2 S2) := h2
  have H3 : Hid (NestAt w ad3 n3 A3 L3 C3 S3) := h3
  have H4 : Hid (NestAt w ad4 n4 A4 L4 C4 S4) := h4
  have H5 : Hid (NestAt w ad5 n5 A5 L5 C5 S5) := h5
  have H6 : Hid (NestAt w ad6 n6 A6 L6 C6 S6) := h6
  clear h0 h1 h2 h3 h4 h5 h6
  go_enter Try.func14, Try.ntmps14
  go_wp2
  all_goals try (go_ret; exact ⟨⟨_, rfl⟩, rfl⟩)
  go_loop [15, 16] (fun t i => ∃ (k : Nat) (z : Int), k ≤ n0 ∧ i = .int .i64 k ∧ t = .int .i64 z) (fun _ i => n0 - (intOf i).toNat)
  case atStart => exact ⟨0, _, Nat.zero_le _, rfl, rfl⟩
  case round =>
    obtain ⟨k0, z0, hk0, rfl, rfl⟩ := hrel
    by_cases hlt0 : k0 < n0
    · obtain ⟨b, off, rfl, hc⟩ := H0.out k0 hlt0
      go_wp2
      all_goals
        first
          | (go_ret; exact ⟨⟨_, rfl⟩, rfl⟩)
          | (go_round
             case rel => exact ⟨k0 + 1, _, by omega, by go_num, rfl⟩
             case measure => simp [intOf]; omega)
    · skip
      go_wp2
      all_goals try (go_ret; exact ⟨⟨_, rfl⟩, rfl⟩)
      go_loop [15, 17] (fun t i => ∃ (k : Nat) (z : Int), k ≤ n1 ∧ i = .int .i64 k ∧ t = .int .i64 z) (fun _ i => n1 - (intOf i).toNat)
      case atStart => exact ⟨0, _, Nat.zero_le _, rfl, rfl⟩
      case round =>
        obtain ⟨k1, z1, hk1, rfl, rfl⟩ := hrel
        by_cases hlt1 : k1 < n1
        · obtain ⟨hL, _, hS, b, off, rfl, hc⟩ := H1.out k1 hlt1
          have HS : Hid (StrsAt w (A1 k1) (L1 k1) (S1 k1)) := hS
          clear hS
          generalize A1 k1 = A at *; generalize L1 k1 = L at *; generalize C1 k1 = C at *; generalize S1 k1 = S at *
          go_wp2
          all_goals try (go_ret; exact ⟨⟨_, rfl⟩, rfl⟩)
          go_loop [15, 18] (fun t i => ∃ (k : Nat) (z : Int), k ≤ L ∧ i = .int .i64 k ∧ t = .int .i64 z) (fun _ i => L - (intOf i).toNat)
          case atStart => exact ⟨0, _, Nat.zero_le _, rfl, rfl⟩
          case round =>
            obtain ⟨k, z, hk, rfl, rfl⟩ := hrel
            by_cases hlt : k < L
            · obtain ⟨b', off', rfl, hc'⟩ := HS.out k hlt
              go_wp2
              all_goals
                first
                  | (go_ret; exact ⟨⟨_, rfl⟩, rfl⟩)
                  | (go_round
                     case rel => exact ⟨k + 1, _, by omega, by go_num, rfl⟩
                     case measure => simp [intOf]; omega)
            · go_wp2
              go_round
              case rel => exact ⟨k1 + 1, _, by omega, by go_num, rfl⟩
              case measure => simp [intOf]; omega
        · skip
          go_wp2
          all_goals try (go_ret; exact ⟨⟨_, rfl⟩, rfl⟩)
          go_loop [15, 19] (fun t i => ∃ (k : Nat) (z : Int), k ≤ n2 ∧ i = .int .i64 k ∧ t = .int .i64 z) (fun _ i => n2 - (intOf i).toNat)
          case atStart => exact ⟨0, _, Nat.zero_le _, rfl, rfl⟩
          case round =>
            obtain ⟨k2, z2, hk2, rfl, rfl⟩ := hrel
            by_cases hlt2 : k2 < n2
            · obtain ⟨hL, _, hS, b, off, rfl, hc⟩ := H2.out k2 hlt2
              have HS : Hid (StrsAt w (A2 k2) (L2 k2) (S2 k2)) := hS
              clear hS
              generalize A2 k2 = A at *; generalize L2 k2 = L at *; generalize C2 k2 = C at *; generalize S2 k2 = S at *
              go_wp2
              all_goals try (go_ret; exact ⟨⟨_, rfl⟩, rfl⟩)
              go_loop [15, 20] (fun t i => ∃ (k : Nat) (z : Int), k ≤ L ∧ i = .int .i64 k ∧ t = .int .i64 z) (fun _ i => L - (intOf i).toNat)
              case atStart => exact ⟨0, _, Nat.zero_le _, rfl, rfl⟩
              case round =>
                obtain ⟨k, z, hk, rfl, rfl⟩ := hrel
                by_cases hlt : k < L
                · obtain ⟨b', off', rfl, hc'⟩ := HS.out k hlt
                  go_wp2
                  all_goals
                    first
                      | (go_ret; exact ⟨⟨_, rfl⟩, rfl⟩)
                      | (go_round
                         case rel => exact ⟨k + 1, _, by omega, by go_num, rfl⟩
                         case measure => simp [intOf]; omega)
                · go_wp2
                  go_round
                  case rel => exact ⟨k2 + 1, _, by omega, by go_num, rfl⟩
                  case measure => simp [intOf]; omega
            · skip
              go_wp2
              all_goals try (go_ret; exact ⟨⟨_, rfl⟩, rfl⟩)
              go_loop [15, 21] (fun t i => ∃ (k : Nat) (z : Int), k ≤ n3 ∧ i = .int .i64 k ∧ t = .int .i64 z) (fun _ i => n3 - (intOf i).toNat)
              case atStart => exact ⟨0, _, Nat.zero_le _, rfl, rfl⟩
              case round =>
                obtain ⟨k3, z3, hk3, rfl, rfl⟩ := hrel
                by_cases hlt3 : k3 < n3
                · obtain ⟨hL, _, hS, b, off, rfl, hc⟩ := H3.out k3 hlt3
                  have HS : Hid (StrsAt w (A3 k3) (L3 k3) (S3 k3)) := hS
                  clear hS
                  generalize A3 k3 = A at *; generalize L3 k3 = L at *; generalize C3 k3 = C at *; generalize S3 k3 = S at *
                  go_wp2
                  all_goals try (go_ret; exact ⟨⟨_, rfl⟩, rfl⟩)
                  go_loop [15, 22] (fun t i => ∃ (k : Nat) (z : Int), k ≤ L ∧ i = .int .i64 k ∧ t = .int .i64 z) (fun _ i => L - (intOf i).toNat)
                  case atStart => exact ⟨0, _, Nat.zero_le _, rfl, rfl⟩
                  case round =>
                    obtain ⟨k, z, hk, rfl, rfl⟩ := hrel
                    by_cases hlt : k < L
                    · obtain ⟨b', off', rfl, hc'⟩ := HS.out k hlt
                      go_wp2
                      all_goals
                        first
                          | (go_ret; exact ⟨⟨_, rfl⟩, rfl⟩)
                          | (go_round
                             case rel => exact ⟨k + 1, _, by omega, by go_num, rfl⟩
                             case measure => simp [intOf]; omega)
                    · go_wp2
                      go_round
                      case rel => exact ⟨k3 + 1, _, by omega, by go_num, rfl⟩
                      case measure => simp [intOf]; omega
                · skip
                  go_wp2
                  all_goals try (go_ret; exact ⟨⟨_, rfl⟩, rfl⟩)
                  go_loop [15, 23] (fun t i => ∃ (k : Nat) (z : Int), k ≤ n4 ∧ i = .int .i64 k ∧ t = .int .i64 z) (fun _ i => n4 - (intOf i).toNat)
                  case atStart => exact ⟨0, _, Nat.zero_le _, rfl, rfl⟩
                  case round =>
                    obtain ⟨k4, z4, hk4, rfl, rfl⟩ := hrel
                    by_cases hlt4 : k4 < n4
                    · obtain ⟨hL, _, hS, b, off, rfl, hc⟩ := H4.out k4 hlt4
                      have HS : Hid (StrsAt w (A4 k4) (L4 k4) (S4 k4)) := hS
                      clear hS
                      generalize A4 k4 = A at *; generalize L4 k4 = L at *; generalize C4 k4 = C at *; generalize S4 k4 = S at *
                      go_wp2
                      all_goals try (go_ret; exact ⟨⟨_, rfl⟩, rfl⟩)
                      go_loop [15, 24] (fun t i => ∃ (k : Nat) (z : Int), k ≤ L ∧ i = .int .i64 k ∧ t = .int .i64 z) (fun _ i => L - (intOf i).toNat)
                      case atStart => exact ⟨0, _, Nat.zero_le _, rfl, rfl⟩
                      case round =>
                        obtain ⟨k, z, hk, rfl, rfl⟩ := hrel
                        by_cases hlt : k < L
                        · obtain ⟨b', off', rfl, hc'⟩ := HS.out k hlt
                          go_wp2
                          all_goals
                            first
                              | (go_ret; exact ⟨⟨_, rfl⟩, rfl⟩)
                              | (go_round
                                 case rel => exact ⟨k + 1, _, by omega, by go_num, rfl⟩
                                 case measure => simp [intOf]; omega)
                        · go_wp2
                          go_round
                          case rel => exact ⟨k4 + 1, _, by omega, by go_num, rfl⟩
                          case measure => simp [intOf]; omega
                    · skip
                      go_wp2
                      all_goals try (go_ret; exact ⟨⟨_, rfl⟩, rfl⟩)
                      go_loop [15, 25] (fun t i => ∃ (k : Nat) (z : Int), k ≤ n5 ∧ i = .int .i64 k ∧ t = .int .i64 z) (fun _ i => n5 - (intOf i).toNat)
                      case atStart => exact ⟨0, _, Nat.zero_le _, rfl, rfl⟩
                      case round =>
                        obtain ⟨k5, z5, hk5, rfl, rfl⟩ := hrel
                        by_cases hlt5 : k5 < n5
                        · obtain ⟨hL, _, hS, b, off, rfl, hc⟩ := H5.out k5 hlt5
                          have HS : Hid (StrsAt w (A5 k5) (L5 k5) (S5 k5)) := hS
                          clear hS
                          generalize A5 k5 = A at *; generalize L5 k5 = L at *; generalize C5 k5 = C at *; generalize S5 k5 = S at *
                          go_wp2
                          all_goals try (go_ret; exact ⟨⟨_, rfl⟩, rfl⟩)
                          go_loop [15, 26] (fun t i => ∃ (k : Nat) (z : Int), k ≤ L ∧ i = .int .i64 k ∧ t = .int .i64 z) (fun _ i => L - (intOf i).toNat)
                          case atStart => exact ⟨0, _, Nat.zero_le _, rfl, rfl⟩
                          case round =>
                            obtain ⟨k, z, hk, rfl, rfl⟩ := hrel
                            by_cases hlt : k < L
                            · obtain ⟨b', off', rfl, hc'⟩ := HS.out k hlt
                              go_wp2
                              all_goals
                                first
                                  | (go_ret; exact ⟨⟨_, rfl⟩, rfl⟩)
                                  | (go_round
                                     case rel => exact ⟨k + 1, _, by omega, by go_num, rfl⟩
                                     case measure => simp [intOf]; omega)
                            · go_wp2
                              go_round
                              case rel => exact ⟨k5 + 1, _, by omega, by go_num, rfl⟩
                              case measure => simp [intOf]; omega
                        · skip
                          go_wp2
                          all_goals try (go_ret; exact ⟨⟨_, rfl⟩, rfl⟩)
                          go_loop [15, 27] (fun t i => ∃ (k : Nat) (z : Int), k ≤ n6 ∧ i = .int .i64 k ∧ t = .int .i64 z) (fun _ i => n6 - (intOf i).toNat)
                          case atStart => exact ⟨0, _, Nat.zero_le _, rfl, rfl⟩
                          case round =>
                            obtain ⟨k6, z6, hk6, rfl, rfl⟩ := hrel
                            by_cases hlt6 : k6 < n6
                            · obtain ⟨hL, _, hS, b, off, rfl, hc⟩ := H6.out k6 hlt6
                              have HS : Hid (StrsAt w (A6 k6) (L6 k6) (S6 k6)) := hS
                              clear hS
                              generalize A6 k6 = A at *; generalize L6 k6 = L at *; generalize C6 k6 = C at *; generalize S6 k6 = S at *
                              go_wp2
                              all_goals try (go_ret; exact ⟨⟨_, rfl⟩, rfl⟩)
                              go_loop [15, 28] (fun t i => ∃ (k : Nat) (z : Int), k ≤ L ∧ i = .int .i64 k ∧ t = .int .i64 z) (fun _ i => L - (intOf i).toNat)
                              case atStart => exact ⟨0, _, Nat.zero_le _, rfl, rfl⟩
                              case round =>
                                obtain ⟨k, z, hk, rfl, rfl⟩ := hrel
                                by_cases hlt : k < L
                                · obtain ⟨b', off', rfl, hc'⟩ := HS.out k hlt
                                  go_wp2
                                  all_goals
                                    first
                                      | (go_ret; exact ⟨⟨_, rfl⟩, rfl⟩)
                                      | (go_round
                                         case rel => exact ⟨k + 1, _, by omega, by go_num, rfl⟩
                                         case measure => simp [intOf]; omega)
                                · go_wp2
                                  go_round
                                  case rel => exact ⟨k6 + 1, _, by omega, by go_num, rfl⟩
                                  case measure => simp [intOf]; omega
                            · skip
                              go_wp2
                              all_goals (go_ret; exact ⟨⟨_, rfl⟩, rfl⟩)

end Go.Proofs.Qxb6604472a
