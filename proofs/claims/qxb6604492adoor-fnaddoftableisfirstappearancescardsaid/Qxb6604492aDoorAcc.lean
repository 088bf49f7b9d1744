import Derived.Test.Qxb6604492aDoorExec
namespace Go.Proofs.Qxb6604492aDoor
open Go.RowKit
attribute [local go_sem ↓] Go.wp_at_zero Go.wp_at_succ

section
variable {B : Nat} {w : World} {g : G} {tot : Nat}

theorem count_any (h : Core B w g tot) : Calls Tryd.prog 8 #[.pointer (some ⟨g.p, 0, none⟩)] w fun e w' => e = .returned (.int .i64 g.m) ∧ w' = w := by
  have c1 := h.pb.c1
  obtain ⟨am, cm, hvm⟩ := row_val h.ms
  rw [hvm] at c1
  clear h hvm
  go_enter Tryd.func8, Tryd.ntmps8
  go_wp2
  go_ret
  exact ⟨rfl, rfl⟩

theorem check_any (h : Core B w g tot) (i : Nat) (hi : i < g.m) : Calls Tryd.prog 15 #[.pointer (some ⟨g.p, 0, none⟩), .int .i32 i] w fun e w' => e = .returned (.int .i32 (g.ck i)) ∧ w' = w := by
  obtain ⟨r, c, hv, _, c1, hcs, _⟩ := h.msg hi
  obtain ⟨a0, a1, a2, a3, a4⟩ := hcs i hi
  have hm := h.mB
  have hi' : (i : Int) < (g.m : Int) := by omega
  clear h hcs hv
  go_enter Tryd.func15, Tryd.ntmps15
  go_wp2
  go_ret
  exact ⟨rfl, rfl⟩

theorem numberAt_any (h : Core B w g tot) (i : Nat) (hi : i < g.m) : Calls Tryd.prog 16 #[.pointer (some ⟨g.p, 0, none⟩), .int .i32 i] w fun e w' => e = .returned (.int .i32 (-1)) ∧ w' = w := by
  obtain ⟨r, c, hv, _, c1, hcs, _⟩ := h.msg hi
  obtain ⟨a0, a1, a2, a3, a4⟩ := hcs i hi
  have hm := h.mB
  have hi' : (i : Int) < (g.m : Int) := by omega
  clear h hcs hv
  go_enter Tryd.func16, Tryd.ntmps16
  go_wp2
  go_ret
  exact ⟨rfl, rfl⟩

theorem breaks_any (h : Core B w g tot) (i : Nat) (hi : i < g.m) : Calls Tryd.prog 18 #[.pointer (some ⟨g.p, 0, none⟩), .int .i32 i] w fun e w' => e = .returned (.bool (g.br i)) ∧ w' = w := by
  obtain ⟨r, c, hv, _, c1, hcs, _⟩ := h.msg hi
  obtain ⟨a0, a1, a2, a3, a4⟩ := hcs i hi
  have hm := h.mB
  have hi' : (i : Int) < (g.m : Int) := by omega
  clear h hcs hv
  go_enter Tryd.func18, Tryd.ntmps18
  go_wp2
  go_ret
  exact ⟨rfl, rfl⟩

theorem zztext_any (h : Core B w g tot) (i : Nat) (hi : i < g.m) : Calls Tryd.prog 14 #[.pointer (some ⟨g.p, 0, none⟩), .int .i32 i] w fun e w' => e = .returned (.string (g.tx i)) ∧ Core B w' g tot ∧ Below B w w' := by
  have H : Hid _ := text_any h i hi
  clear h
  go_enter Tryd.func14, Tryd.ntmps14
  go_wp2_with fail
  refine Calls.mono H.out ?_
  rintro e w1 ⟨rfl, h1, h2, _⟩
  have H1 : Hid (Core B w1 g tot ∧ Below B w w1) := ⟨h1, h2⟩
  clear h1 h2
  go_wp2
  go_ret
  exact ⟨rfl, H1.out⟩

/-- The one chunk, where there is a problem. -/
theorem Core.chunk (h : Core B w g tot) (hn : 0 < g.np) : ∃ r cp a c1, w.cell? ⟨g.p, 0, none⟩ = some (.slice (some ⟨r, 0, none⟩) 1 cp) ∧ w.cell? ⟨r, 0, none⟩ = some (.slice (some ⟨a, 0, none⟩) g.np c1) ∧ ∀ j, j < g.np → w.cell? ⟨a, j * 3, none⟩ = some (.int .i64 (g.of j)) ∧ w.cell? ⟨a, j * 3 + 1, none⟩ = some (.int .i32 (g.ix j : Nat)) ∧ w.cell? ⟨a, j * 3 + 2, none⟩ = some (.int .i32 0) := by
  rcases h.ch with ⟨_, h0⟩ | ⟨v1, h1, h2⟩
  · omega
  · obtain ⟨r, cp, hv, _, _, hc, _⟩ := row_at h1 (by decide)
    obtain ⟨a, c1, hv1, _, _, hc2, _⟩ := row_at h2 hn
    subst hv1
    refine ⟨r, cp, a, c1, by rw [h.pb.c0, hv], hc 0 _ rfl, fun j hj => ?_⟩
    have hg := fun q hq => flat_get (fun i => [Value.int .i64 (g.of i), Value.int .i32 (g.ix i : Nat), Value.int .i32 0]) 3 (fun _ => rfl) j q hq g.np hj
    exact ⟨hc2 _ _ (hg 0 (by omega)), hc2 _ _ (hg 1 (by omega)), hc2 _ _ (hg 2 (by omega))⟩

/-- How many chunks there are. -/
def chunksOf (g : G) : Nat := match g.vc with | .slice _ n _ => n | _ => 0

theorem chunkCount_any (h : Core B w g tot) : Calls Tryd.prog 9 #[.pointer (some ⟨g.p, 0, none⟩)] w fun e w' => e = .returned (.int .i64 (chunksOf g)) ∧ w' = w := by
  have c0 := h.pb.c0
  obtain ⟨av, nv, cv, hvc⟩ : ∃ av nv cv, g.vc = .slice av nv cv := by
    rcases h.ch with ⟨h0, _⟩ | ⟨v1, h1, _⟩
    · exact ⟨_, _, _, h0⟩
    · obtain ⟨a, c, hv⟩ := row_val h1
      exact ⟨a, 1, c, hv⟩
  have HC : Hid (chunksOf g = nv) := by unfold Hid chunksOf; rw [hvc]
  rw [hvc] at c0
  clear h hvc
  go_enter Tryd.func9, Tryd.ntmps9
  go_wp2
  go_ret
  exact ⟨by rw [HC.out]; rfl, rfl⟩

theorem Core.chunks_le (h : Core B w g tot) : (chunksOf g = 0 ∧ g.np = 0) ∨ chunksOf g = 1 := by
  rcases h.ch with ⟨h0, h1⟩ | ⟨v1, h1, _⟩
  · left; unfold chunksOf; rw [h0]; exact ⟨rfl, h1⟩
  · right
    obtain ⟨a, c, hv⟩ := row_val h1
    unfold chunksOf; rw [hv]

theorem chunkLen_any (h : Core B w g tot) (h1 : chunksOf g = 1) : Calls Tryd.prog 10 #[.pointer (some ⟨g.p, 0, none⟩), .int .i64 0] w fun e w' => e = .returned (.int .i64 g.np) ∧ w' = w := by
  obtain ⟨r, cp, a, c1, c0, d0⟩ : ∃ r cp a c1, w.cell? ⟨g.p, 0, none⟩ = some (.slice (some ⟨r, 0, none⟩) 1 cp) ∧ w.cell? ⟨r, 0, none⟩ = some (.slice a g.np c1) := by
    rcases h.ch with ⟨h0, _⟩ | ⟨v1, k1, k2⟩
    · unfold chunksOf at h1; rw [h0] at h1; cases h1
    · obtain ⟨r, cp, hv, _, _, hc, _⟩ := row_at k1 (by decide)
      obtain ⟨a, c1, hv1⟩ := row_val k2
      subst hv1
      exact ⟨r, cp, a, c1, by rw [h.pb.c0, hv], hc 0 _ rfl⟩
  clear h h1
  go_enter Tryd.func10, Tryd.ntmps10
  go_wp2
  go_ret
  exact ⟨rfl, rfl⟩

theorem offset_any (h : Core B w g tot) (j : Nat) (hj : j < g.np) : Calls Tryd.prog 11 #[.pointer (some ⟨g.p, 0, none⟩), .int .i64 0, .int .i64 j] w fun e w' => e = .returned (.int .i64 (g.of j)) ∧ w' = w := by
  obtain ⟨r, cp, a, c1, c0, d0, hc⟩ := h.chunk (by omega)
  obtain ⟨e0, e1, e2⟩ := hc j hj
  have hj' : (j : Int) < (g.np : Int) := by omega
  clear h hc
  go_enter Tryd.func11, Tryd.ntmps11
  go_wp2
  go_ret
  exact ⟨rfl, rfl⟩

theorem number_any (h : Core B w g tot) (j : Nat) (hj : j < g.np) : Calls Tryd.prog 12 #[.pointer (some ⟨g.p, 0, none⟩), .int .i64 0, .int .i64 j] w fun e w' => e = .returned (.int .i32 0) ∧ w' = w := by
  obtain ⟨r, cp, a, c1, c0, d0, hc⟩ := h.chunk (by omega)
  obtain ⟨e0, e1, e2⟩ := hc j hj
  have hj' : (j : Int) < (g.np : Int) := by omega
  clear h hc
  go_enter Tryd.func12, Tryd.ntmps12
  go_wp2
  go_ret
  exact ⟨rfl, rfl⟩

theorem pindex_any (h : Core B w g tot) (j : Nat) (hj : j < g.np) : Calls Tryd.prog 13 #[.pointer (some ⟨g.p, 0, none⟩), .int .i64 0, .int .i64 j] w fun e w' => e = .returned (.int .i32 (g.ix j : Nat)) ∧ w' = w := by
  obtain ⟨r, cp, a, c1, c0, d0, hc⟩ := h.chunk (by omega)
  obtain ⟨e0, e1, e2⟩ := hc j hj
  have hj' : (j : Int) < (g.np : Int) := by omega
  clear h hc
  go_enter Tryd.func13, Tryd.ntmps13
  go_wp2
  go_ret
  exact ⟨rfl, rfl⟩
end

/-- One bool or the other; if true, P. -/
def SomeBool (P : Prop) (e : Ending) : Prop := ∃ b : Bool, e = .returned (.bool b) ∧ (b = true → P)

/-- zzBytes_FnAddOfKeepsEveryProblem. -/
theorem bytes5_any (ad : Option Addr) (n c : Nat) (of ck : Nat → Int) (tx : Nat → ByteArray) (w : World) (hs : StepsAt w ad n of ck tx) :
    Calls Tryd.prog 5 #[.slice ad n c] w fun e w' => SomeBool (tots tx n ≤ 1048576) e ∧ w' = w := by
  have H : Hid (StepsAt w ad n of ck tx) := hs
  clear hs
  by_cases hn : (1048576 : Int) < (n : Int)
  · go_enter Tryd.func5, Tryd.ntmps5
    go_wp2
    go_ret
    exact ⟨⟨false, rfl, fun e => by cases e⟩, rfl⟩
  · have hn' : n ≤ 1048576 := by omega
    go_enter Tryd.func5, Tryd.ntmps5
    go_wp2_with fail
    go_loop [3, 4] (fun vz vi => ∃ k : Nat, k ≤ n ∧ vz = .int .i64 ((n + tots tx k : Nat) : Int) ∧ vi = .int .i64 k ∧ n + tots tx k ≤ 1048576) (fun _ vi => n - (intOf vi).toNat)
    case atStart => exact ⟨0, Nat.zero_le _, by simp [tots], rfl, by simp [tots]; omega⟩
    case round =>
      obtain ⟨k, hk, rfl, rfl, hz⟩ := hrel
      by_cases hlt : k < n
      · have k1 : (k : Int) < (n : Int) := by omega
        obtain ⟨b, off, rfl, q0, q1, q2⟩ := H.out k hlt
        by_cases hl : (1048576 : Int) < ((tx k).size : Int)
        · go_wp2
          go_ret
          exact ⟨⟨false, rfl, fun e => by cases e⟩, rfl⟩
        · have HT : Hid (n + tots tx (k + 1) = n + tots tx k + (tx k).size) := by show n + (tots tx k + (tx k).size) = _; omega
          obtain ⟨z, hzz⟩ : ∃ z, z = n + tots tx k := ⟨_, rfl⟩
          rw [← hzz] at hz HT ⊢
          clear hzz
          by_cases hm : (1048576 : Int) < (z : Int) + ((tx k).size : Int)
          · go_wp2
            go_ret
            exact ⟨⟨false, rfl, fun e => by cases e⟩, rfl⟩
          · go_wp2
            refine ⟨⟨k + 1, by omega, ?_, by go_num, by rw [HT.out]; omega⟩, ?_⟩
            · rw [HT.out]; simp
            · simp [intOf]; omega
      · obtain rfl : k = n := by omega
        have k1 : ¬ (k : Int) < (k : Int) := by omega
        have HZ : Hid (tots tx k ≤ 1048576) := by show tots tx k ≤ 1048576; omega
        go_wp2
        go_ret
        exact ⟨⟨true, rfl, fun _ => HZ.out⟩, rfl⟩

/-- zzBytes_FnAddOfTableIsFirstAppearances. -/
theorem bytes17_any (ad : Option Addr) (n c : Nat) (of ck : Nat → Int) (tx : Nat → ByteArray) (w : World) (hs : StepsAt w ad n of ck tx) :
    Calls Tryd.prog 17 #[.slice ad n c] w fun e w' => SomeBool (tots tx n ≤ 1048576) e ∧ w' = w := by
  have H : Hid (StepsAt w ad n of ck tx) := hs
  clear hs
  by_cases hn : (1048576 : Int) < (n : Int)
  · go_enter Tryd.func17, Tryd.ntmps17
    go_wp2
    go_ret
    exact ⟨⟨false, rfl, fun e => by cases e⟩, rfl⟩
  · have hn' : n ≤ 1048576 := by omega
    go_enter Tryd.func17, Tryd.ntmps17
    go_wp2_with fail
    go_loop [3, 4] (fun vz vi => ∃ k : Nat, k ≤ n ∧ vz = .int .i64 ((n + tots tx k : Nat) : Int) ∧ vi = .int .i64 k ∧ n + tots tx k ≤ 1048576) (fun _ vi => n - (intOf vi).toNat)
    case atStart => exact ⟨0, Nat.zero_le _, by simp [tots], rfl, by simp [tots]; omega⟩
    case round =>
      obtain ⟨k, hk, rfl, rfl, hz⟩ := hrel
      by_cases hlt : k < n
      · have k1 : (k : Int) < (n : Int) := by omega
        obtain ⟨b, off, rfl, q0, q1, q2⟩ := H.out k hlt
        by_cases hl : (1048576 : Int) < ((tx k).size : Int)
        · go_wp2
          go_ret
          exact ⟨⟨false, rfl, fun e => by cases e⟩, rfl⟩
        · have HT : Hid (n + tots tx (k + 1) = n + tots tx k + (tx k).size) := by show n + (tots tx k + (tx k).size) = _; omega
          obtain ⟨z, hzz⟩ : ∃ z, z = n + tots tx k := ⟨_, rfl⟩
          rw [← hzz] at hz HT ⊢
          clear hzz
          by_cases hm : (1048576 : Int) < (z : Int) + ((tx k).size : Int)
          · go_wp2
            go_ret
            exact ⟨⟨false, rfl, fun e => by cases e⟩, rfl⟩
          · go_wp2
            refine ⟨⟨k + 1, by omega, ?_, by go_num, by rw [HT.out]; omega⟩, ?_⟩
            · rw [HT.out]; simp
            · simp [intOf]; omega
      · obtain rfl : k = n := by omega
        have k1 : ¬ (k : Int) < (k : Int) := by omega
        have HZ : Hid (tots tx k ≤ 1048576) := by show tots tx k ≤ 1048576; omega
        go_wp2
        go_ret
        exact ⟨⟨true, rfl, fun _ => HZ.out⟩, rfl⟩

end Go.Proofs.Qxb6604492aDoor
