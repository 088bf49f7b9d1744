import Derived.Test.Qxb6604472aProd
namespace Go.Proofs.Qxb6604472a
open Go.RowKit
attribute [local go_sem] eq22

/-- (*Specifier).matchesProduct of a specifier that names no tags. -/
def matchB (pid id : ByteArray) : Bool := pid.toList.isEmpty || (pid.toList == id.toList)

set_option maxHeartbeats 400000 in
theorem match_any (gs os gp op : Nat) (pid id : ByteArray) (w : World) (k0 : w.cell? ⟨gs, os, none⟩ = some (.string pid)) (k1 : w.cell? ⟨gs, os + 1, none⟩ = some (.slice none 0 0)) (p0 : w.cell? ⟨gp, op, none⟩ = some (.string id)) :
    Calls Try.prog 32 #[.pointer (some ⟨gs, os, none⟩), .pointer (some ⟨gp, op, none⟩)] w fun e w' => e = .returned (.bool (matchB pid id)) ∧ ∃ m, w' = w.drewN m := by
  cases he : pid.toList.isEmpty with
  | true =>
    have HM : Hid (matchB pid id = true) := by show matchB pid id = true; simp [matchB, he]
    go_enter Try.func32, Try.ntmps32
    go_wp2
    go_quiet (fail)
    go_wp2_with fail
    refine wp_loop_rounds 1 ?_
    rw [rounds_succ]
    go_wp2
    go_ret
    exact ⟨by rw [HM.out]; rfl, _, rfl⟩
  | false =>
    cases hq : (pid.toList == id.toList) with
    | true =>
      have HM : Hid (matchB pid id = true) := by show matchB pid id = true; simp only [matchB, he, hq]; rfl
      go_enter Try.func32, Try.ntmps32
      go_wp2
      go_quiet (fail)
      go_wp2_with fail
      refine wp_loop_rounds 1 ?_
      rw [rounds_succ]
      go_wp2
      go_ret
      exact ⟨by rw [HM.out]; rfl, _, rfl⟩
    | false =>
      have HM : Hid (matchB pid id = false) := by show matchB pid id = false; simp only [matchB, he, hq]; rfl
      go_enter Try.func32, Try.ntmps32
      go_wp2
      go_quiet (fail)
      go_wp2
      go_ret
      exact ⟨by rw [HM.out]; rfl, _, rfl⟩

/-- ns specifiers that name the products S2 and nothing else. -/
def SpAt (w : World) (ad : Option Addr) (ns : Nat) (S2 : Nat → ByteArray) : Prop :=
  ∀ i, i < ns → ∃ b off, ad = some ⟨b, off, none⟩ ∧ w.cell? ⟨b, off + i * 5, none⟩ = some (.string (S2 i)) ∧ w.cell? ⟨b, off + i * 5 + 1, none⟩ = some (.slice none 0 0)

/-- (*Applicability).appliesTo at no line item. -/
def applB (n0 : Nat) (S0 : Nat → ByteArray) (n1 : Nat) (S1 : Nat → ByteArray) (ns : Nat) (S2 : Nat → ByteArray) (id : ByteArray) (nt : Nat) (St : Nat → ByteArray) : Bool :=
  listsB n0 S0 n1 S1 id nt St && (decide (ns = 0) || anyB ns fun i => matchB (S2 i) id)

theorem eq62 (w : World) : (binOp .eql 62 (.pointer none) (.pointer none)).run Try.prog w = .ok (.bool true) w := by kernel_rfl

set_option maxHeartbeats 1000000 in
theorem appl_any (ga gp op : Nat) (a0 : Option Addr) (n0 c0 : Nat) (S0 : Nat → ByteArray) (a1 : Option Addr) (n1 c1 : Nat) (S1 : Nat → ByteArray) (ad : Option Addr) (ns cs : Nat) (S2 : Nat → ByteArray) (id : ByteArray) (at' : Option Addr) (nt ct : Nat) (St : Nat → ByteArray) (w : World)
    (h0 : n0 ≤ maxLen) (h1 : n1 ≤ maxLen) (hs : ns ≤ 4096) (ht : nt ≤ maxLen) (g0 : StrsAt w a0 n0 S0) (g1 : StrsAt w a1 n1 S1) (gs : SpAt w ad ns S2) (gt : StrsAt w at' nt St)
    (k0 : w.cell? ⟨ga, 0, none⟩ = some (.slice a0 n0 c0)) (k1 : w.cell? ⟨ga, 1, none⟩ = some (.slice a1 n1 c1)) (k2 : w.cell? ⟨ga, 2, none⟩ = some (.slice ad ns cs)) (p0 : w.cell? ⟨gp, op, none⟩ = some (.string id)) (p4 : w.cell? ⟨gp, op + 4, none⟩ = some (.slice at' nt ct)) :
    Calls Try.prog 30 #[.pointer (some ⟨ga, 0, none⟩), .pointer (some ⟨gp, op, none⟩), .pointer none] w fun e w' => e = .returned (.bool (applB n0 S0 n1 S1 ns S2 id nt St)) ∧ ∃ m, w' = w.drewN m := by
  have HL : Hid (Calls Try.prog 31 #[.pointer (some ⟨ga, 0, none⟩), .pointer (some ⟨gp, op, none⟩)] w fun e w' => e = .returned (.bool (listsB n0 S0 n1 S1 id nt St)) ∧ ∃ m, w' = w.drewN m) :=
    lists_any ga gp op a0 n0 c0 S0 a1 n1 c1 S1 id at' nt ct St w h0 h1 ht g0 g1 gt k0 k1 p0 p4
  have HP : Hid (SpAt w ad ns S2) := gs
  have hq := eq62
  clear g0 g1 gs gt k0 k1 p4 h0 h1 ht
  go_enter Try.func30, Try.ntmps30
  go_wp2_with fail
  refine HL.out.mono ?_
  rintro e w1 ⟨rfl, m, rfl⟩
  cases hl : listsB n0 S0 n1 S1 id nt St with
  | false =>
    have HF : Hid (applB n0 S0 n1 S1 ns S2 id nt St = false) := by show applB n0 S0 n1 S1 ns S2 id nt St = false; simp only [applB, hl]; rfl
    clear hl
    go_wp2
    go_ret
    exact ⟨by rw [HF.out]; rfl, _, rfl⟩
  | true =>
    by_cases hz : ns = 0
    · have HF : Hid (applB n0 S0 n1 S1 ns S2 id nt St = true) := by show applB n0 S0 n1 S1 ns S2 id nt St = true; simp only [applB, hl, hz]; rfl
      have hb : ((ns : Int) == 0) = true := by simp [hz]
      clear hl hz
      go_wp2
      go_ret
      exact ⟨by rw [HF.out]; rfl, _, rfl⟩
    · have HF : Hid (applB n0 S0 n1 S1 ns S2 id nt St = anyB ns fun i => matchB (S2 i) id) := by show applB n0 S0 n1 S1 ns S2 id nt St = _; simp only [applB, hl, decide_eq_false hz, Bool.true_and, Bool.false_or]
      have hb : ((ns : Int) == 0) = false := by simp; omega
      clear hl hz
      go_wp2_with fail
      clear hb
      go_loopw [24] (fun i wr => ∃ k m : Nat, k ≤ ns ∧ i = .int .i64 k ∧ anyB k (fun i => matchB (S2 i) id) = false ∧ wr = w.drewN m) (fun i _ => ns - (intOf i).toNat)
      case atStart => exact ⟨0, m, Nat.zero_le _, rfl, rfl, rfl⟩
      case round =>
        obtain ⟨k, m', hk, rfl, hno, rfl⟩ := hrel
        have HN : Hid (anyB k (fun i => matchB (S2 i) id) = false) := hno
        clear hno
        by_cases hlt : k < ns
        · obtain ⟨b, off, rfl, e0, e1⟩ := HP.out k hlt
          go_wp2_with fail
          refine (match_any b (off + k * 5) gp op (S2 k) id (w.drewN m') e0 e1 p0).mono ?_
          rintro e w1 ⟨rfl, m2, rfl⟩
          rw [World.drewN_drewN]
          cases hm : matchB (S2 k) id with
          | true =>
            have HE : Hid (anyB ns (fun i => matchB (S2 i) id) = true) := anyB_hit hlt hm
            go_wp2
            go_ret
            exact ⟨by rw [HF.out, HE.out]; rfl, _, rfl⟩
          | false =>
            have HE : Hid (anyB (k + 1) (fun i => matchB (S2 i) id) = false) := anyB_step HN.out hm
            go_wp2
            go_roundw
            case rel => exact ⟨k + 1, _, by omega, by go_num, HE.out, rfl⟩
            case measure => simp [intOf]; omega
        · obtain rfl : k = ns := by omega
          go_wp2
          go_ret
          exact ⟨by rw [HF.out, HN.out]; rfl, _, rfl⟩

/-- n products, each with its id and its tags. -/
def AllAt (w : World) (ad : Option Addr) (n : Nat) (ID : Nat → ByteArray) (TA : Nat → Option Addr) (TN TC : Nat → Nat) (TS : Nat → Nat → ByteArray) : Prop :=
  ∀ i, i < n → TN i ≤ maxLen ∧ StrsAt w (TA i) (TN i) (TS i) ∧ ∃ b off, ad = some ⟨b, off, none⟩ ∧ w.cell? ⟨b, off + i * 7, none⟩ = some (.string (ID i)) ∧ w.cell? ⟨b, off + i * 7 + 4, none⟩ = some (.slice (TA i) (TN i) (TC i))

/-- The case table: limited by ids, by tags, or by specifiers that all name a product. -/
def limB (n0 n1 ns : Nat) (S2 : Nat → ByteArray) : Bool := decide (0 < n0) || (decide (0 < n1) || (decide (0 < ns) && !anyB ns fun i => (S2 i).toList.isEmpty))

/-- 'named', behind k specifiers. -/
def namedB (ns k : Nat) (S2 : Nat → ByteArray) : Bool := decide (0 < ns) && !anyB k fun i => (S2 i).toList.isEmpty

theorem limB_named (n0 n1 ns : Nat) (S2 : Nat → ByteArray) : limB n0 n1 ns S2 = (decide (0 < n0) || (decide (0 < n1) || namedB ns ns S2)) := rfl

theorem namedB_hit {ns k : Nat} {S2 : Nat → ByteArray} (h : (S2 k).toList.isEmpty = true) : namedB ns (k + 1) S2 = false := by simp [namedB, anyB, h]
theorem namedB_miss {ns k : Nat} {S2 : Nat → ByteArray} (h : (S2 k).toList.isEmpty = false) : namedB ns (k + 1) S2 = namedB ns k S2 := by simp [namedB, anyB, h]

/-- What products counts. -/
def cntB (lim : Bool) (n : Nat) (f : Nat → Bool) : Nat := if lim then countB n f else 0

set_option maxHeartbeats 2000000 in
theorem products_any (ga : Nat) (a0 : Option Addr) (n0 c0 : Nat) (S0 : Nat → ByteArray) (a1 : Option Addr) (n1 c1 : Nat) (S1 : Nat → ByteArray) (ad : Option Addr) (ns cs : Nat) (S2 : Nat → ByteArray) (al : Option Addr) (n c : Nat) (ID : Nat → ByteArray) (TA : Nat → Option Addr) (TN TC : Nat → Nat) (TS : Nat → Nat → ByteArray) (w : World)
    (h0 : n0 ≤ maxLen) (h1 : n1 ≤ maxLen) (hs : ns ≤ 4096) (hn : n ≤ 4096) (g0 : StrsAt w a0 n0 S0) (g1 : StrsAt w a1 n1 S1) (gs : SpAt w ad ns S2) (gl : AllAt w al n ID TA TN TC TS)
    (k0 : w.cell? ⟨ga, 0, none⟩ = some (.slice a0 n0 c0)) (k1 : w.cell? ⟨ga, 1, none⟩ = some (.slice a1 n1 c1)) (k2 : w.cell? ⟨ga, 2, none⟩ = some (.slice ad ns cs)) :
    Calls Try.prog 28 #[.pointer (some ⟨ga, 0, none⟩), .slice al n c] w fun e w' => e = .returned (.tuple #[.int .i64 (cntB (limB n0 n1 ns S2) n (fun i => applB n0 S0 n1 S1 ns S2 (ID i) (TN i) (TS i))), .bool (limB n0 n1 ns S2)]) ∧ ∃ m, w' = w.drewN m := by
  have HA : Hid (∀ m k, k < n → ∀ b off, w.cell? ⟨b, off, none⟩ = some (.string (ID k)) → w.cell? ⟨b, off + 4, none⟩ = some (.slice (TA k) (TN k) (TC k)) → TN k ≤ maxLen → StrsAt w (TA k) (TN k) (TS k) →
      Calls Try.prog 30 #[.pointer (some ⟨ga, 0, none⟩), .pointer (some ⟨b, off, none⟩), .pointer none] (w.drewN m) fun e w' => e = .returned (.bool (applB n0 S0 n1 S1 ns S2 (ID k) (TN k) (TS k))) ∧ ∃ m', w' = (w.drewN m).drewN m') :=
    fun m k _ b off e0 e4 ht gt => appl_any ga b off a0 n0 c0 S0 a1 n1 c1 S1 ad ns cs S2 (ID k) (TA k) (TN k) (TC k) (TS k) (w.drewN m) h0 h1 hs ht g0 g1 gs gt k0 k1 k2 e0 e4
  have HP : Hid (SpAt w ad ns S2) := gs
  have HL : Hid (AllAt w al n ID TA TN TC TS) := gl
  unfold maxLen at h0 h1
  clear g0 g1 gs gl
  go_enter Try.func28, Try.ntmps28
  go_wp2_with fail
  go_loop [6, 21] (fun b i => ∃ k : Nat, k ≤ ns ∧ i = .int .i64 k ∧ b = .bool (namedB ns k S2)) (fun _ i => ns - (intOf i).toNat)
  case atStart => exact ⟨0, Nat.zero_le _, rfl, by simp [namedB, anyB]⟩
  case round =>
    obtain ⟨k, hk, rfl, rfl⟩ := hrel
    by_cases hlt : k < ns
    · obtain ⟨b, off, rfl, e0, e1⟩ := HP.out k hlt
      cases hq : (S2 k).toList.isEmpty with
      | true =>
        have HE : Hid (namedB ns (k + 1) S2 = false) := namedB_hit hq
        go_wp2
        go_round
        case rel => exact ⟨k + 1, by omega, by go_num, by rw [HE.out]⟩
        case measure => simp [intOf]; omega
      | false =>
        have HE : Hid (namedB ns (k + 1) S2 = namedB ns k S2) := namedB_miss hq
        go_wp2
        go_round
        case rel => exact ⟨k + 1, by omega, by go_num, by rw [HE.out]⟩
        case measure => simp [intOf]; omega
    · obtain rfl : k = ns := by omega
      cases hlim : limB n0 n1 k S2 with
      | false =>
        have hp : ((n0 : Int) == 0) = true ∧ ((n1 : Int) == 0) = true ∧ namedB k k S2 = false := by
          rw [limB_named] at hlim
          simp at hlim
          simp only [beq_iff_eq]
          exact ⟨by omega, by omega, hlim.2.2⟩
        obtain ⟨p1, p2, p3⟩ := hp
        have HB : Hid (limB n0 n1 k S2 = false) := hlim
        clear hlim
        go_wp2
        go_ret2
        exact ⟨by rw [HB.out]; rfl, 0, rfl⟩
      | true =>
        have HB : Hid (limB n0 n1 k S2 = true) := hlim
        have hp : (((n0 : Int) == 0) = false) ∨ (((n0 : Int) == 0) = true ∧ ((n1 : Int) == 0) = false) ∨ (((n0 : Int) == 0) = true ∧ ((n1 : Int) == 0) = true ∧ namedB k k S2 = true) := by
          rw [limB_named] at hlim
          simp at hlim
          simp only [beq_iff_eq, beq_eq_false_iff_ne]
          by_cases e0 : n0 = 0
          · by_cases e1 : n1 = 0
            · exact .inr (.inr ⟨by omega, by omega, by rcases hlim with h | h | h; omega; omega; exact h⟩)
            · exact .inr (.inl ⟨by omega, by omega⟩)
          · exact .inl (by omega)
        clear hlim
        rcases hp with p1 | ⟨p1, p2⟩ | ⟨p1, p2, p3⟩
        all_goals
          go_wp2_with fail
          go_loopw [8, 54] (fun t i wr => ∃ j m : Nat, j ≤ n ∧ i = .int .i64 j ∧ t = .int .i64 (countB j (fun i => applB n0 S0 n1 S1 k S2 (ID i) (TN i) (TS i))) ∧ wr = w.drewN m) (fun _ i _ => n - (intOf i).toNat)
          case atStart => exact ⟨0, 0, Nat.zero_le _, rfl, rfl, rfl⟩
          case round =>
            obtain ⟨j, m, hj, rfl, rfl, rfl⟩ := hrel
            have hcl := countB_le j (fun i => applB n0 S0 n1 S1 k S2 (ID i) (TN i) (TS i))
            by_cases hjn : j < n
            · obtain ⟨ht, gt, b, off, rfl, e0, e4⟩ := HL.out j hjn
              have HX : Hid (Calls Try.prog 30 #[.pointer (some ⟨ga, 0, none⟩), .pointer (some ⟨b, off + j * 7, none⟩), .pointer none] (w.drewN m) fun e w' => e = .returned (.bool (applB n0 S0 n1 S1 k S2 (ID j) (TN j) (TS j))) ∧ ∃ m', w' = (w.drewN m).drewN m') := HA.out m j hjn b (off + j * 7) e0 e4 ht gt
              clear e0 e4 ht gt
              cases hf : applB n0 S0 n1 S1 k S2 (ID j) (TN j) (TS j) with
              | true =>
                have HE : Hid (countB (j + 1) (fun i => applB n0 S0 n1 S1 k S2 (ID i) (TN i) (TS i)) = countB j (fun i => applB n0 S0 n1 S1 k S2 (ID i) (TN i) (TS i)) + 1) := by
                  show countB j _ + (if applB n0 S0 n1 S1 k S2 (ID j) (TN j) (TS j) then 1 else 0) = _
                  rw [hf]; rfl
                rw [hf] at HX
                clear hf
                generalize countB j (fun i => applB n0 S0 n1 S1 k S2 (ID i) (TN i) (TS i)) = ct at *
                go_wp2_with fail
                refine HX.out.mono ?_
                rintro e w2 ⟨rfl, m2, rfl⟩
                rw [World.drewN_drewN]
                go_wp2
                go_roundw
                case rel => exact ⟨j + 1, _, by omega, by go_num, by rw [HE.out]; go_num, rfl⟩
                case measure => simp [intOf]; omega
              | false =>
                have HE : Hid (countB (j + 1) (fun i => applB n0 S0 n1 S1 k S2 (ID i) (TN i) (TS i)) = countB j (fun i => applB n0 S0 n1 S1 k S2 (ID i) (TN i) (TS i))) := by
                  show countB j _ + (if applB n0 S0 n1 S1 k S2 (ID j) (TN j) (TS j) then 1 else 0) = _
                  rw [hf]; rfl
                rw [hf] at HX
                clear hf
                generalize countB j (fun i => applB n0 S0 n1 S1 k S2 (ID i) (TN i) (TS i)) = ct at *
                go_wp2_with fail
                refine HX.out.mono ?_
                rintro e w2 ⟨rfl, m2, rfl⟩
                rw [World.drewN_drewN]
                go_wp2
                go_roundw
                case rel => exact ⟨j + 1, _, by omega, by go_num, by rw [HE.out], rfl⟩
                case measure => simp [intOf]; omega
            · obtain rfl : j = n := by omega
              go_wp2
              go_ret2
              exact ⟨by rw [HB.out]; rfl, _, rfl⟩

end Go.Proofs.Qxb6604472a
