import Derived.Test.Qxb6604472aBase
import Derived.Deep.RegionWith
namespace Go.Proofs.Qxb6604472a
open Go.RowKit

/-- One bool; where it is false, n is at most 4096. -/
def BoolLid (n : Nat) (e : Ending) : Prop := ∃ b : Bool, e = .returned (.bool b) ∧ (b = false → n ≤ 4096)

set_option maxHeartbeats 2000000 in
set_option maxRecDepth 100000 in
theorem over7_any (a0 : Option Addr) (n0 c0 : Nat) (S0 : Nat → ByteArray)
    (a1 : Option Addr) (n1 c1 : Nat) (A1 : Nat → Option Addr) (L1 C1 : Nat → Nat) (S1 : Nat → Nat → ByteArray)
    (a2 : Option Addr) (n2 c2 : Nat) (A2 : Nat → Option Addr) (L2 C2 : Nat → Nat) (S2 : Nat → Nat → ByteArray)
    (a3 : Option Addr) (n3 c3 : Nat) (A3 : Nat → Option Addr) (L3 C3 : Nat → Nat) (S3 : Nat → Nat → ByteArray)
    (a4 : Option Addr) (n4 c4 : Nat) (A4 : Nat → Option Addr) (L4 C4 : Nat → Nat) (S4 : Nat → Nat → ByteArray)
    (a5 : Option Addr) (n5 c5 : Nat) (A5 : Nat → Option Addr) (L5 C5 : Nat → Nat) (S5 : Nat → Nat → ByteArray)
    (a6 : Option Addr) (n6 c6 : Nat) (A6 : Nat → Option Addr) (L6 C6 : Nat → Nat) (S6 : Nat → Nat → ByteArray) (w : World)
    (h0 : StrsAt w a0 n0 S0) (h1 : NestAt w a1 n1 A1 L1 C1 S1) (h2 : NestAt w a2 n2 A2 L2 C2 S2) (h3 : NestAt w a3 n3 A3 L3 C3 S3) (h4 : NestAt w a4 n4 A4 L4 C4 S4) (h5 : NestAt w a5 n5 A5 L5 C5 S5) (h6 : NestAt w a6 n6 A6 L6 C6 S6) :
    Calls Try.prog 7 #[.slice a0 n0 c0, .slice a1 n1 c1, .slice a2 n2 c2, .slice a3 n3 c3, .slice a4 n4 c4, .slice a5 n5 c5, .slice a6 n6 c6] w fun e w' => BoolLid n0 e ∧ w' = w := by
  have H0 : Hid (StrsAt w a0 n0 S0) := h0
  have H1 : Hid (NestAt w a1 n1 A1 L1 C1 S1) := h1
  have H2 : Hid (NestAt w a2 n2 A2 L2 C2 S2) := h2
  have H3 : Hid (NestAt w a3 n3 A3 L3 C3 S3) := h3
  have H4 : Hid (NestAt w a4 n4 A4 L4 C4 S4) := h4
  have H5 : Hid (NestAt w a5 n5 A5 L5 C5 S5) := h5
  have H6 : Hid (NestAt w a6 n6 A6 L6 C6 S6) := h6
  clear h0 h1 h2 h3 h4 h5 h6
  go_enter Try.func7, Try.ntmps7
  go_wp2_with (first
    | (go_at_call 22; refine (add_any _ _ _).mono ?_; rintro e w' ⟨⟨z, rfl⟩, hww⟩; obtain rfl := hww.symm)
    | (go_at_call 21; refine (strsBytes_any a0 n0 c0 S0 _ ?_ ?_).mono ?_; (unfold maxLen; omega); (exact H0.out); rintro e w' ⟨⟨z, rfl⟩, hww⟩; obtain rfl := hww.symm)
    | (go_at_call_of 23 (Value.slice a1 n1 c1); refine (nestedBytes_any a1 n1 c1 A1 L1 C1 S1 _ ?_ ?_).mono ?_; (unfold maxLen; omega); (exact H1.out); rintro e w' ⟨⟨z, rfl⟩, hww⟩; obtain rfl := hww.symm)
    | (go_at_call_of 23 (Value.slice a2 n2 c2); refine (nestedBytes_any a2 n2 c2 A2 L2 C2 S2 _ ?_ ?_).mono ?_; (unfold maxLen; omega); (exact H2.out); rintro e w' ⟨⟨z, rfl⟩, hww⟩; obtain rfl := hww.symm)
    | (go_at_call_of 23 (Value.slice a3 n3 c3); refine (nestedBytes_any a3 n3 c3 A3 L3 C3 S3 _ ?_ ?_).mono ?_; (unfold maxLen; omega); (exact H3.out); rintro e w' ⟨⟨z, rfl⟩, hww⟩; obtain rfl := hww.symm)
    | (go_at_call_of 23 (Value.slice a4 n4 c4); refine (nestedBytes_any a4 n4 c4 A4 L4 C4 S4 _ ?_ ?_).mono ?_; (unfold maxLen; omega); (exact H4.out); rintro e w' ⟨⟨z, rfl⟩, hww⟩; obtain rfl := hww.symm)
    | (go_at_call_of 23 (Value.slice a5 n5 c5); refine (nestedBytes_any a5 n5 c5 A5 L5 C5 S5 _ ?_ ?_).mono ?_; (unfold maxLen; omega); (exact H5.out); rintro e w' ⟨⟨z, rfl⟩, hww⟩; obtain rfl := hww.symm)
    | (go_at_call_of 23 (Value.slice a6 n6 c6); refine (nestedBytes_any a6 n6 c6 A6 L6 C6 S6 _ ?_ ?_).mono ?_; (unfold maxLen; omega); (exact H6.out); rintro e w' ⟨⟨z, rfl⟩, hww⟩; obtain rfl := hww.symm))
  all_goals
    go_ret
    exact ⟨⟨_, rfl, fun _ => by first | omega | simp_all⟩, rfl⟩

end Go.Proofs.Qxb6604472a
