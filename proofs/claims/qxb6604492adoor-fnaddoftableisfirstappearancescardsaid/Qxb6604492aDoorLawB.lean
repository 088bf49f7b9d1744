import Derived.Test.Qxb6604492aDoorCopy
import Derived.Test.Qxb6604492aDoorFrame
import Derived.Test.Qxb6604492aDoorRune
namespace Go.Proofs.Qxb6604492aDoor
open Go.RowKit
attribute [local go_sem ↓] Go.wp_at_zero Go.wp_at_succ

theorem info3 : (Tryd.prog.info? 3).map (fun i => (i.zero, i.size, i.bytes)) = some (some (.int .i64 0), 1, 8) := by kernel_rfl

theorem copy_any (ad : Option Addr) (n c : Nat) (of ck : Nat → Int) (tx : Nat → ByteArray) (w : World) (hn : n ≤ 4096) (hnil : ad = none → n = 0 ∧ c = 0) (h : StepsAt w ad n of ck tx) :
    Calls Tryd.prog 6 #[.slice ad n c] w fun e w' => ∃ ad, e = .returned (.slice ad n n) ∧ StepsAt w' ad n of ck tx ∧ Below w.heap.size w w' := by
  cases ad with
  | none =>
    obtain ⟨rfl, rfl⟩ := hnil rfl
    refine (copy_nil w).mono ?_
    rintro e w' ⟨rfl, rfl⟩
    exact ⟨none, rfl, fun i hi => absurd hi (Nat.not_lt_zero _), Below.refl _ _⟩
  | some x =>
    exact copy_some x n c of ck tx w hn h

theorem StepsAt.three {w w' : World} {ad : Option Addr} {n k : Nat} {of ck : Nat → Int} {tx : Nat → ByteArray} (h : StepsAt w ad n of ck tx) (hb : Below w.heap.size w w') (hk : k < n) :
    ∃ b off, ad = some ⟨b, off, none⟩ ∧ w'.cell? ⟨b, off + k * 3, none⟩ = some (.int .i64 (of k)) ∧ w'.cell? ⟨b, off + k * 3 + 1, none⟩ = some (.int .i32 (ck k)) ∧ w'.cell? ⟨b, off + k * 3 + 2, none⟩ = some (.string (tx k)) := h.below hb k hk

theorem steps_last {w w' : World} {b off n k : Nat} {of ck : Nat → Int} {tx : Nat → ByteArray} (h : StepsAt w (some ⟨b, off, none⟩) n of ck tx) (hb : Below w.heap.size w w') (hk : k < n) : w'.cell? ⟨b, off + k * 3 + 1, none⟩ = some (.int .i32 (ck k)) ∧ w'.cell? ⟨b, off + k * 3 + 2, none⟩ = some (.string (tx k)) := by
  obtain ⟨b', off', e, _, h1, h2⟩ := h.below hb k hk
  cases e
  exact ⟨h1, h2⟩

/-- The steps' checks are good up to k. -/
def Good (ck : Nat → Int) (k : Nat) : Prop := ∀ i, i < k → 0 ≤ ck i ∧ ck i ≤ 4


def ints (F : List Nat) : List Value := F.map fun (i : Nat) => .int .i64 (Int.ofNat i)
theorem ints_length (F : List Nat) : (ints F).length = F.length := by simp [ints]
theorem ints_one (F : List Nat) : ∀ u ∈ ints F, u.oneCell' = true := by
  intro u hu
  simp only [ints, List.mem_map] at hu
  obtain ⟨x, _, rfl⟩ := hu
  rfl
theorem ints_get {F : List Nat} {j s : Nat} (h : F[j]? = some s) : (ints F)[j]? = some (.int .i64 (s : Int)) := by simp [ints, h]

theorem firsts_lt (ck : Nat → Int) (tx : Nat → ByteArray) (k : Nat) : ∀ s ∈ firsts ck tx k, s < k := by
  induction k with
  | zero => intro s hs; simp [firsts] at hs
  | succ k ih =>
    intro s hs
    by_cases h : (∃ j ∈ firsts ck tx k, same ck tx j k) ∨ 1025 ≤ (firsts ck tx k).length
    · rw [firsts_keep h] at hs
      have := ih s hs
      omega
    · rw [firsts_add h, List.mem_append, List.mem_singleton] at hs
      rcases hs with hs | hs
      · have := ih s hs; omega
      · omega

theorem firsts_len (ck : Nat → Int) (tx : Nat → ByteArray) (k : Nat) : (firsts ck tx k).length ≤ 1025 := by
  induction k with
  | zero => simp [firsts]
  | succ k ih =>
    by_cases h : (∃ j ∈ firsts ck tx k, same ck tx j k) ∨ 1025 ≤ (firsts ck tx k).length
    · rw [firsts_keep h]; exact ih
    · rw [firsts_add h, List.length_append]
      simp
      omega

/-- A row of ints can be read. -/
theorem ints_at {w : World} {B : Nat} {v : Value} {F : List Nat} (h : w.ownsRow B 3 1 v F.length (ints F)) {j : Nat} (hj : j < F.length) : ∃ r c, v = .slice (some ⟨r, 0, none⟩) F.length c ∧ w.cell? ⟨r, j, none⟩ = some (.int .i64 (F[j] : Int)) := by
  obtain ⟨r, c, hv, _, _, hc, _⟩ := row_at h (by omega)
  exact ⟨r, c, hv, hc j _ (ints_get (List.getElem?_eq_getElem hj))⟩

theorem drewN_below (w : World) (n : Nat) : Below w.heap.size w (w.drewN n) := below_drewN (Below.refl _ _) n

/-- One cell's worth of a new row. -/
theorem one_new (w : World) (x : Value) (e : TypeId) : ∀ j u, [x][j]? = some u → (w.alloc (.cells #[x] e)).cell? ((⟨w.heap.size, 0, none⟩ : Addr).add j) = some u := new_cells w [x] e

theorem append_ints {w2 wr w5 : World} {a7 : Option Addr} {c7 k : Nat} {F F' : List Nat} {v5 : Value} {o : Obj} (h : wr.ownsRow w2.heap.size 3 1 (.slice a7 F.length c7) F.length (ints F)) (hb : Below w2.heap.size w2 wr) (hF : F' = F ++ [k])
    (hown : w5.ownsRow w2.heap.size 3 1 v5 (F.length + 1) (ints F ++ [.int .i64 (k : Int)])) (hgrow : (wr.alloc o).grownBy w5 (Value.slice a7 F.length c7).ownBlock) :
    w5.ownsRow w2.heap.size 3 1 v5 F'.length (ints F') ∧ Below w2.heap.size w2 w5 := by
  subst hF
  refine ⟨?_, (hb.alloc hb.size o).grown hgrow (Nat.le_trans hb.size (by simp)) (fun k hk => (h.lt k hk).1)⟩
  rw [List.length_append]
  have e : ints (F ++ [k]) = ints F ++ [.int .i64 (k : Int)] := by simp [ints]
  rw [e]
  exact hown

theorem eq9_false {a b : ByteArray} (h : ¬ a = b) : (a.toList == b.toList) = false := by
  refine beq_eq_false_iff_ne.2 (fun e => h (toList_inj e))

section
variable {B : Nat} {w : World} {g : G} {tot n j s : Nat} {of ck : Nat → Int} {tx : Nat → ByteArray}

theorem tb_text (h : Core B w g tot) (hj : j < g.m) (hs : tx s = g.tx j) : Calls Tryd.prog 14 #[.pointer (some ⟨g.p, 0, none⟩), .int .i32 j] w fun e w' => e = .returned (.string (tx s)) ∧ Core B w' g tot ∧ Below B w w' ∧ Fr (fun i => (g.v (g.bk j)).ownBlock = some i) w w' := by
  rw [hs]
  exact zztext_fr h j hj

theorem tb_check (h : Core B w g tot) (hj : j < g.m) (hs : ck s = g.ck j) : Calls Tryd.prog 15 #[.pointer (some ⟨g.p, 0, none⟩), .int .i32 j] w fun e w' => e = .returned (.int .i32 (ck s)) ∧ w' = w := by
  rw [hs]
  exact check_any h j hj

theorem tb_breaks (h : Core B w g tot) (hr : Ran of ck tx n g) (hj : j < g.m) (hs : tx s = g.tx j) : Calls Tryd.prog 18 #[.pointer (some ⟨g.p, 0, none⟩), .int .i32 j] w fun e w' => e = .returned (.bool (brk (tx s))) ∧ w' = w := by
  rw [hs, ← hr.br j hj]
  exact breaks_any h j hj

/-- What stands at a round's head of the last loop. -/
structure Tail (B B2 : Nat) (w1 w : World) (g : G) (tot : Nat) (v7 : Value) (F : List Nat) : Prop where
  core : Core B w g tot
  bel : Below B w1 w
  row : w.ownsRow B2 3 1 v7 F.length (ints F)

theorem Tail.more {B2 : Nat} {w1 w' : World} {v7 : Value} {F : List Nat} (h : Tail B B2 w1 w g tot v7 F) (hb : Below w.heap.size w w') : Tail B B2 w1 w' g tot v7 F :=
  ⟨h.core.more (fr_below hb) hb.size, h.bel.trans (hb.mono h.core.B0), ownsRow_fr h.row (fr_below hb) (fun _ _ e => e)⟩

theorem Tail.read {B2 : Nat} {w1 w' : World} {v7 : Value} {F : List Nat} (h : Tail B B2 w1 w g tot v7 F) (hj : j < g.m) (hc : Core B w' g tot) (hb : Below B w w') (f : Fr (fun i => (g.v (g.bk j)).ownBlock = some i) w w') : Tail B B2 w1 w' g tot v7 F ∧ ∀ (bx : Nat) (cs : Array Value), w.heap[bx]? = some (Obj.cells cs 25 (0, 0)) → w'.heap[bx]? = some (Obj.cells cs 25 (0, 0)) := by
  have o : Only [5] w (fun i => (g.v (g.bk j)).ownBlock = some i) := by
    intro i hi
    obtain ⟨cur, fz, hk⟩ := ownsRowF_kind (h.core.bl _ (h.core.tab.lo j hj)).own hi
    exact ⟨cur, 5, fz, hk, by simp⟩
  exact ⟨⟨hc, h.bel.trans hb, row_keep h.row f o (by decide)⟩, fun bx cs hx => f bx _ hx (o.ne hx (by decide))⟩
end

theorem box_cells {w : World} {bx : Nat} {x0 x1 x2 : Value} (h : w.heap[bx]? = some (Obj.cells #[x0, x1, x2] 25 (0, 0))) : w.cell? ⟨bx, 1, none⟩ = some x1 ∧ w.cell? ⟨bx, 2, none⟩ = some x2 := by
  rw [Lib.cell_of_heap h, Lib.cell_of_heap h]
  exact ⟨rfl, rfl⟩

section
variable {B B2 : Nat} {w w1 : World} {g : G} {tot n j s bx : Nat} {of ck : Nat → Int} {tx : Nat → ByteArray} {v7 : Value} {F : List Nat} {cs : Array Value}

theorem tail_text (h : Tail B B2 w1 w g tot v7 F) (hj : j < g.m) (hs : tx s = g.tx j) (hx : w.heap[bx]? = some (Obj.cells cs 25 (0, 0))) :
    Calls Tryd.prog 14 #[.pointer (some ⟨g.p, 0, none⟩), .int .i32 j] w.drew fun e w' => e = .returned (.string (tx s)) ∧ Tail B B2 w1 w' g tot v7 F ∧ w'.heap[bx]? = some (Obj.cells cs 25 (0, 0)) := by
  refine (tb_text h.core.drew hj hs).mono ?_
  rintro e w' ⟨rfl, hc, hb, hf⟩
  obtain ⟨h1, h2⟩ := (h.more (Below.refl _ _).drew).read hj hc hb hf
  exact ⟨rfl, h1, h2 bx cs hx⟩

theorem tail_breaks (h : Tail B B2 w1 w g tot v7 F) :
    Calls Tryd.prog 19 #[.string (tx s)] w.drew fun e w' => e = .returned (.bool (brk (tx s))) ∧ Tail B B2 w1 w' g tot v7 F ∧ ∀ (bx : Nat) (cs : Array Value), w.heap[bx]? = some (Obj.cells cs 25 (0, 0)) → w'.heap[bx]? = some (Obj.cells cs 25 (0, 0)) := by
  refine (addOfBreaks_any (tx s) w.drew).mono ?_
  rintro e w' ⟨rfl, hb⟩
  have hb2 : Below w.heap.size w w' := below_drew hb
  exact ⟨rfl, h.more hb2, fun bx cs hx => fr_below hb2 bx _ hx (fun e => e)⟩
end

set_option maxHeartbeats 4000000 in
set_option maxRecDepth 100000 in
theorem law4 (ad : Option Addr) (n c : Nat) (of ck : Nat → Int) (tx : Nat → ByteArray) (w : World) (hs : StepsAt w ad n of ck tx) (hnil : ad = none → n = 0 ∧ c = 0) (htab : TabOk w) :
    Calls Tryd.prog 4 #[.slice ad n c] w fun e w' => e = .returned (.bool true) ∧ Below w.heap.size w w' := by
  have H : Hid (StepsAt w ad n of ck tx ∧ (ad = none → n = 0 ∧ c = 0)) := ⟨hs, hnil⟩
  clear hs hnil
  go_enter Tryd.func4, Tryd.ntmps4
  go_wp2_with fail
  refine (bytes17_any ad n c of ck tx w H.out.1).mono ?_
  rintro e wz ⟨⟨b, rfl, hb⟩, hww⟩
  obtain rfl := hww.symm
  clear hww
  have HB : Hid (b = true → tots tx n ≤ 1048576) := hb
  clear hb
  cases b
  · go_wp2
    go_ret
    exact ⟨rfl, Below.refl _ _⟩
  · have HT : Hid (tots tx n ≤ 1048576) := HB.out rfl
    clear HB
    by_cases hn : (4096 : Int) < (n : Int)
    · go_wp2
      go_ret
      exact ⟨rfl, Below.refl _ _⟩
    · have hn' : n ≤ 4096 := by omega
      go_wp2_with fail
      go_loop [3, 4] (fun vz vi => ∃ k : Nat, k ≤ n ∧ vz = .int .i64 ((32 * n + tots tx k : Nat) : Int) ∧ vi = .int .i64 k) (fun _ vi => n - (intOf vi).toNat)
      case atStart => exact ⟨0, Nat.zero_le _, by simp [tots], rfl⟩
      case round =>
        obtain ⟨k, hk, rfl, rfl⟩ := hrel
        by_cases hlt : k < n
        · have k1 : (k : Int) < (n : Int) := by omega
          obtain ⟨b, off, rfl, q0, q1, q2⟩ := H.out.1 k hlt
          have HS : Hid (32 * n + tots tx (k + 1) = 32 * n + tots tx k + (tx k).size) := by show 32 * n + (tots tx k + (tx k).size) = _; omega
          have hb1 : 32 * n + tots tx k + (tx k).size ≤ 1179648 := by have h1 := HT.out; have h2 : tots tx k + (tx k).size ≤ tots tx n := tots_mono tx (show k + 1 ≤ n from hlt); omega
          obtain ⟨z, hzz⟩ : ∃ z, z = 32 * n + tots tx k := ⟨_, rfl⟩
          rw [← hzz] at hb1 HS ⊢
          clear hzz
          go_wp2
          refine ⟨⟨k + 1, by omega, ?_, by go_num⟩, ?_⟩
          · rw [HS.out]; simp
          · simp [intOf]; omega
        · have hkn : n = k := by omega
          subst hkn
          have k1 : ¬ (n : Int) < (n : Int) := by omega
          have hb1 : 32 * n + tots tx n ≤ 1179648 := by have h1 := HT.out; omega
          obtain ⟨z, hzz⟩ : ∃ z, z = 32 * n + tots tx n := ⟨_, rfl⟩
          rw [← hzz] at hb1 ⊢
          clear hzz
          by_cases hsz : (1048576 : Int) < (z : Int)
          · go_wp2
            go_ret
            exact ⟨rfl, Below.refl _ _⟩
          go_wp2_with fail
          go_loop [5] (fun vi => ∃ k : Nat, k ≤ n ∧ vi = .int .i64 k ∧ Good ck k) (fun vi => n - (intOf vi).toNat)
          case atStart => exact ⟨0, Nat.zero_le _, rfl, fun _ h => absurd h (Nat.not_lt_zero _)⟩
          case round =>
            obtain ⟨k, hk, rfl, hgood⟩ := hrel
            have HG : Hid (Good ck k) := hgood
            clear hgood
            by_cases hlt : k < n
            · have k2 : (k : Int) < (n : Int) := by omega
              obtain ⟨b, off, rfl, q0, q1, q2⟩ := H.out.1 k hlt
              by_cases h0 : ck k < 0
              · go_wp2
                go_ret
                exact ⟨rfl, Below.refl _ _⟩
              by_cases h4 : 4 < ck k
              · go_wp2
                go_ret
                exact ⟨rfl, Below.refl _ _⟩
              have HG2 : Hid (Good ck (k + 1)) := by
                intro i hi
                by_cases e : i = k
                · subst e; omega
                · exact HG.out i (by omega)
              go_wp2
              refine ⟨⟨k + 1, by omega, by go_num, HG2.out⟩, ?_⟩
              simp [intOf]; omega
            · have hkn : n = k := by omega
              subst hkn
              go_wp2_with fail
              refine (copy_any ad n c of ck tx w hn' H.out.2 H.out.1).mono ?_
              rintro e w1 ⟨ad2, rfl, hs2, hb2⟩
              have H1 : Hid (StepsAt w1 ad2 n of ck tx ∧ Below w.heap.size w w1) := ⟨hs2, hb2⟩
              clear hs2 hb2
              go_wp2_with fail
              refine (run_any ad2 n n of ck tx w1 H1.out.1 hn' HG.out HT.out (htab.below H1.out.2)).mono ?_
              rintro e w2 ⟨g, rfl, hc2, hb2, hr2⟩
              have H2 : Hid (Core w1.heap.size w2 g (tots tx n) ∧ Below w1.heap.size w1 w2 ∧ Ran of ck tx n g) := ⟨hc2, hb2, hr2⟩
              obtain ⟨i3, hi, hz0, hz1, hz2⟩ := info_parts info3
              clear hc2 hb2 hr2
              go_wp2_with fail
              go_loopw [7, 8] (fun v7 v8 wr => ∃ k : Nat, k ≤ n ∧ v8 = .int .i64 k ∧ wr.ownsRow w2.heap.size 3 1 v7 (firsts ck tx k).length (ints (firsts ck tx k)) ∧ Below w2.heap.size w2 wr) (fun _ v8 _ => n - (intOf v8).toNat)
              case atStart => exact ⟨0, Nat.zero_le _, rfl, (show w2.ownsRow w2.heap.size 3 1 (.slice none 0 0) (firsts ck tx 0).length (ints (firsts ck tx 0)) from World.ownsRow_nil w2 w2.heap.size 3 1), Below.refl _ _⟩
              case round =>
                obtain ⟨k, hk, rfl, hown, hbel⟩ := hrel
                obtain ⟨wo, rfl⟩ : ∃ wo, wo = wr := ⟨_, rfl⟩
                have H3 : Hid (wo.ownsRow w2.heap.size 3 1 u7 (firsts ck tx k).length (ints (firsts ck tx k)) ∧ Below w2.heap.size w2 wo ∧ Below w1.heap.size w1 wo) := ⟨hown, hbel, H2.out.2.1.trans (hbel.mono H2.out.2.1.size)⟩
                obtain ⟨a7, c7, rfl⟩ := row_val hown
                clear hown hbel
                by_cases hlt : k < n
                · have k2 : (k : Int) < (n : Int) := by omega
                  obtain ⟨F, hF⟩ : ∃ F, F = firsts ck tx k := ⟨_, rfl⟩
                  rw [← hF] at H3 ⊢
                  have HF : Hid (F = firsts ck tx k) := hF
                  have hF5 : F.length ≤ 1025 := by rw [hF]; exact firsts_len ck tx k
                  clear hF
                  go_wp2_with fail
                  go_loopw [9, 10] (fun v9 v10 wi => ∃ j : Nat, j ≤ F.length ∧ v9 = .bool false ∧ v10 = .int .i64 j ∧ (∀ i s, i < j → F[i]? = some s → ¬ same ck tx s k) ∧ ∃ q, wi = wo.drewN q) (fun _ v10 _ => F.length - (intOf v10).toNat)
                  case atStart => exact ⟨0, Nat.zero_le _, rfl, rfl, fun _ _ h => absurd h (Nat.not_lt_zero _), 0, rfl⟩
                  case round =>
                    obtain ⟨j, hj, rfl, rfl, hno, q, hq⟩ := hrel
                    have H4 : Hid (wr.ownsRow w2.heap.size 3 1 (.slice a7 F.length c7) F.length (ints F) ∧ Below w2.heap.size w2 wr ∧ Below w1.heap.size w1 wr ∧ wr = wo.drewN q) := by
                      rw [hq]
                      exact ⟨ownsRow_fr H3.out.1 (fr_drewN (fun _ => False) _ q) (fun _ _ e => e), below_drewN H3.out.2.1 q, below_drewN H3.out.2.2 q, rfl⟩
                    have HN : Hid (∀ i s, i < j → F[i]? = some s → ¬ same ck tx s k) := hno
                    clear hno hq
                    by_cases hlj : j < F.length
                    · have j1 : (j : Int) < (F.length : Int) := by omega
                      obtain ⟨r7, c8, hv7, qj⟩ := ints_at H4.out.1 hlj
                      obtain ⟨s, hs⟩ : ∃ s, s = F[j] := ⟨_, rfl⟩
                      rw [← hs] at qj
                      cases hv7
                      have hsk : s < k := by rw [hs]; exact firsts_lt ck tx k _ (by rw [← HF.out]; exact List.getElem_mem hlj)
                      have HS : Hid (F[j]? = some s) := by rw [hs]; exact List.getElem?_eq_getElem hlj
                      clear hs
                      have s1 : (s : Int) < (n : Int) := by omega
                      obtain ⟨b, off, rfl, _, x1, x2⟩ := H1.out.1.three H4.out.2.2.1 (show s < n by omega)
                      obtain ⟨y1, y2⟩ := steps_last H1.out.1 H4.out.2.2.1 hlt
                      by_cases htx : tx s = tx k
                      · rw [htx] at x2
                        by_cases hck : ck s = ck k
                        · rw [hck] at x1
                          have HK : Hid (firsts ck tx (k + 1) = F) := by
                            rw [HF.out]
                            exact firsts_keep (.inl ⟨s, by rw [← HF.out]; exact List.mem_of_getElem? HS.out, htx, hck⟩)
                          clear htx hck
                          go_wp2_with fail
                          go_quiet (fail)
                          go_wp2
                          go_roundw
                          case rel => exact ⟨k + 1, by omega, by go_num, by rw [HK.out]; exact ownsRow_fr H4.out.1 (fr_drewN (fun _ => False) _ _) (fun _ _ e => e), below_drewN H4.out.2.1 _⟩
                          case measure => simp [intOf]; omega
                        · have e1 : (ck s == ck k) = false := beq_eq_false_iff_ne.2 hck
                          have HN2 : Hid (∀ i s, i < j + 1 → F[i]? = some s → ¬ same ck tx s k) := by
                            intro i' s' hi' hs' hsame
                            by_cases e : i' = j
                            · subst e
                              rw [HS.out] at hs'
                              cases hs'
                              exact hck hsame.2
                            · exact HN.out i' s' (by omega) hs' hsame
                          clear htx
                          go_wp2_with fail
                          go_quiet (fail)
                          go_wp2
                          go_roundw
                          case rel => exact ⟨j + 1, by omega, rfl, by go_num, HN2.out, q + nq, by rw [H4.out.2.2.2, World.drewN_drewN]⟩
                          case measure => simp [intOf]; omega
                      · have e0 : ((tx s).toList == (tx k).toList) = false := eq9_false htx
                        have HN2 : Hid (∀ i s, i < j + 1 → F[i]? = some s → ¬ same ck tx s k) := by
                          intro i' s' hi' hs' hsame
                          by_cases e : i' = j
                          · subst e
                            rw [HS.out] at hs'
                            cases hs'
                            exact htx hsame.1
                          · exact HN.out i' s' (by omega) hs' hsame
                        go_wp2_with fail
                        go_quiet (fail)
                        go_wp2
                        go_roundw
                        case rel => exact ⟨j + 1, by omega, rfl, by go_num, HN2.out, q + nq, by rw [H4.out.2.2.2, World.drewN_drewN]⟩
                        case measure => simp [intOf]; omega
                    · have hjl : F.length = j := by omega
                      have j1 : ¬ (j : Int) < (F.length : Int) := by omega
                      have HNS : Hid (¬ ∃ s ∈ firsts ck tx k, same ck tx s k) := by
                        rintro ⟨s, hs, hsame⟩
                        rw [← HF.out] at hs
                        obtain ⟨i', hi'⟩ := List.getElem?_of_mem hs
                        exact HN.out i' s (by have := (List.getElem?_eq_some_iff.1 hi').1; omega) hi' hsame
                      clear hjl
                      by_cases hl5 : F.length < 1025
                      · have l1 : (F.length : Int) < 1025 := by omega
                        have HK : Hid (firsts ck tx (k + 1) = F ++ [k]) := by
                          rw [HF.out]
                          exact firsts_add (fun h => h.elim HNS.out (fun h => by rw [← HF.out] at h; omega))
                        have HBw : Hid (w2.heap.size ≤ (wr.alloc (.cells #[.int .i64 (k : Int)] 3)).heap.size) := by have := H4.out.2.1.size; show _ ≤ _; simp; omega
                        go_wp2_with (at_builtin; refine wpList_append_own _ rfl _ _ 35 rfl w2.heap.size 3 i3 (.int .i64 0) 1 8 Tryd.underlying35 hi hz0 hz1 hz2 rfl (by decide) (.slice a7 F.length c7) F.length (ints F) rfl (World.ownsRow.alloc H4.out.1 _) ⟨wr.heap.size, 0, none⟩ 1 1 [.int .i64 (k : Int)] rfl rfl (one_new wr _ 3) (by simp [Value.oneCell']) (by unfold maxLen; omega) (by omega) HBw.out ?_; intro v5 w5 hown5 hgrow5 _; have H5 : Hid (w5.ownsRow w2.heap.size 3 1 v5 (firsts ck tx (k + 1)).length (ints (firsts ck tx (k + 1))) ∧ Below w2.heap.size w2 w5) := append_ints H4.out.1 H4.out.2.1 HK.out hown5 hgrow5; clear hown5 hgrow5)
                        go_roundw
                        case rel => exact ⟨k + 1, by omega, by go_num, H5.out.1, H5.out.2⟩
                        case measure => simp [intOf]; omega
                      · have l1 : ¬ (F.length : Int) < 1025 := by omega
                        have HK : Hid (firsts ck tx (k + 1) = F) := by
                          rw [HF.out]
                          exact firsts_keep (.inr (by rw [← HF.out]; omega))
                        go_wp2
                        go_roundw
                        case rel => exact ⟨k + 1, by omega, by go_num, by rw [HK.out]; exact H4.out.1, H4.out.2.1⟩
                        case measure => simp [intOf]; omega
                · have hkn : n = k := by omega
                  subst hkn
                  have k2 : ¬ (n : Int) < (n : Int) := by omega
                  have HC3 : Hid (Core w1.heap.size wo g (tots tx n)) := H2.out.1.more (fr_below H3.out.2.1) H3.out.2.1.size
                  obtain ⟨F, hF⟩ : ∃ F, F = firsts ck tx n := ⟨_, rfl⟩
                  have HFL : Hid (F.length = min g.m 1025) := by rw [hF]; exact H2.out.2.2.fl
                  have HFS : Hid (∀ (j s : Nat), F[j]? = some s → s < n ∧ tx s = g.tx j ∧ ck s = g.ck j) := by rw [hF]; exact H2.out.2.2.fs
                  rw [← hF] at H3 ⊢
                  clear hF
                  have hgm : ¬ (n : Int) < (g.m : Int) := by have := H2.out.2.2.le; omega
                  have hmB := HC3.out.mB
                  go_wp2_with fail
                  refine (count_any HC3.out).mono ?_
                  rintro e wz ⟨rfl, hww⟩
                  obtain rfl := hww.symm
                  clear hww
                  go_upto_if 122 with fail
                  go_cut [] (fun wx => wx = wo)
                  case first =>
                    by_cases hle : F.length ≤ 1024
                    · have l1 : (F.length : Int) ≤ 1024 := by omega
                      have l2 : ((g.m : Int) != (F.length : Int)) = false := by have := HFL.out; simp; omega
                      have l3 : (g.m : Int) = (F.length : Int) := by have := HFL.out; omega
                      clear hle
                      go_wp2
                      go_meet
                      case rel => rfl
                    · have l1 : ¬ (F.length : Int) ≤ 1024 := by omega
                      have l2 : ¬ (g.m : Int) < 1025 := by have := HFL.out; omega
                      clear hle
                      go_wp2
                      go_meet
                      case rel => rfl
                  case rest =>
                    obtain rfl := hcut.symm
                    clear hcut
                    go_wp2_with fail
                    go_loopw [13] (fun v13 wi => ∃ j : Nat, j ≤ F.length ∧ v13 = .int .i64 j ∧ Tail w1.heap.size w2.heap.size w1 wi g (tots tx n) (.slice a7 F.length c7) F) (fun v13 _ => F.length - (intOf v13).toNat)
                    case atStart => exact ⟨0, Nat.zero_le _, rfl, ⟨HC3.out, H3.out.2.2, H3.out.1⟩⟩
                    case round =>
                      obtain ⟨j, hj, rfl, htail⟩ := hrel
                      have H5 : Hid (Tail w1.heap.size w2.heap.size w1 wr g (tots tx n) (.slice a7 F.length c7) F) := htail
                      clear htail
                      by_cases hlj : j < F.length
                      · have j1 : (j : Int) < (F.length : Int) := by omega
                        obtain ⟨r7, c8, hv7, qj⟩ := ints_at H5.out.row hlj
                        obtain ⟨s, hs⟩ : ∃ s, s = F[j] := ⟨_, rfl⟩
                        rw [← hs] at qj
                        cases hv7
                        have HS : Hid (s < n ∧ tx s = g.tx j ∧ ck s = g.ck j) := HFS.out j s (by rw [hs]; exact List.getElem?_eq_getElem hlj)
                        have hjm : j < g.m := by have := HFL.out; omega
                        have s1 : (s : Int) < (n : Int) := by have := HS.out.1; omega
                        clear hs
                        obtain ⟨b, off, rfl, x0, x1, x2⟩ := H1.out.1.three H5.out.bel HS.out.1
                        go_wp2_with fail
                        obtain ⟨wx, hwx⟩ : ∃ wx, wx = wr.alloc (.cells #[.int .i64 (of s), .int .i32 (ck s), .string (tx s)] 25) := ⟨_, rfl⟩
                        have HX : Hid (Tail w1.heap.size w2.heap.size w1 wx g (tots tx n) (.slice (some ⟨r7, 0, none⟩) F.length c7) F ∧ wx.heap[wr.heap.size]? = some (.cells #[.int .i64 (of s), .int .i32 (ck s), .string (tx s)] 25 (0, 0))) := by
                          rw [hwx]
                          exact ⟨H5.out.more ((Below.refl _ _).alloc (Nat.le_refl _) _), heap_alloc_new wr _⟩
                        obtain ⟨bx, hbx⟩ : ∃ bx, bx = wr.heap.size := ⟨_, rfl⟩
                        rw [← hwx]
                        rw [← hbx] at HX ⊢
                        clear hwx hbx x0 x1 x2 qj
                        have y1 : wx.cell? ⟨bx, 1, none⟩ = some (.int .i32 (ck s)) := by rw [Lib.cell_of_heap HX.out.2]; rfl
                        have y2 : wx.cell? ⟨bx, 2, none⟩ = some (.string (tx s)) := by rw [Lib.cell_of_heap HX.out.2]; rfl
                        have HT5 : Hid _ := tail_text HX.out.1 hjm HS.out.2.1 HX.out.2
                        clear H5 HX
                        go_region_held3 (fun w' => w'.cell? ⟨bx, 1, none⟩ = some (.int .i32 (ck s)) ∧ w'.cell? ⟨bx, 2, none⟩ = some (.string (tx s)))
                          (first | (refine ⟨?_, ?_⟩ <;> first | with_reducible assumption | (rw [cell_drew]; with_reducible assumption)))
                          (first
                            | (go_at_call 14; refine Calls.mono HT5.out ?_; rintro e w5 ⟨rfl, hc5, hb5⟩; have H6 : Hid (Tail w1.heap.size w2.heap.size w1 w5 g (tots tx n) (.slice (some ⟨r7, 0, none⟩) F.length c7) F ∧ w5.heap[bx]? = some (Obj.cells #[.int .i64 (of s), .int .i32 (ck s), .string (tx s)] 25 (0, 0))) := ⟨hc5, hb5⟩; obtain ⟨z1, z2⟩ := box_cells hb5; clear hc5 hb5)
                            | (go_at_call 15; refine Calls.mono (tb_check H6.out.1.core hjm HS.out.2.2) ?_; rintro e wz ⟨rfl, hww⟩; obtain rfl := hww.symm; clear hww))
                        clear HT5 y1 y2 z1
                        go_wp2_with fail
                        have HN5 : Hid _ := numberAt_any H6.out.1.core.drew j hjm
                        have HB5 : Hid _ := tb_breaks H6.out.1.core.drew H2.out.2.2 hjm HS.out.2.1
                        have HA5 : Hid _ := tail_breaks (tx := tx) (s := s) H6.out.1
                        go_region_held3 (fun w' => w'.cell? ⟨bx, 2, none⟩ = some (.string (tx s)))
                          (first | with_reducible assumption | (rw [cell_drew]; with_reducible assumption))
                          (first
                            | (go_at_call 16; refine Calls.mono HN5.out ?_; rintro e wz ⟨rfl, hww⟩; obtain rfl := hww)
                            | (go_at_call 18; refine Calls.mono HB5.out ?_; rintro e wz ⟨rfl, hww⟩; obtain rfl := hww)
                            | (go_at_call 19; refine Calls.mono HA5.out ?_; rintro e w6 ⟨rfl, hc7, hb7⟩; have H7 : Hid (Tail w1.heap.size w2.heap.size w1 w6 g (tots tx n) (.slice (some ⟨r7, 0, none⟩) F.length c7) F ∧ w6.heap[bx]? = some (Obj.cells #[.int .i64 (of s), .int .i32 (ck s), .string (tx s)] 25 (0, 0))) := ⟨hc7, hb7 bx _ H6.out.2⟩; have zz2 : w6.cell? ⟨bx, 2, none⟩ = some (.string (tx s)) := (box_cells (hb7 bx _ H6.out.2)).2; clear hc7 hb7)
                            | (go_at_call 18; refine Calls.mono (tb_breaks H7.out.1.core H2.out.2.2 hjm HS.out.2.1) ?_; rintro e wz ⟨rfl, hww⟩; obtain rfl := hww.symm; clear hww))
                        clear HN5 HB5 HA5
                        go_wp2
                        go_roundw
                        case rel => exact ⟨j + 1, by omega, by go_num, H7.out.1⟩
                        case measure => simp [intOf]; omega
                      · have j1 : ¬ (j : Int) < (F.length : Int) := by omega
                        have HW : Hid (Below w.heap.size w wr) := H1.out.2.trans (H5.out.bel.mono H1.out.2.size)
                        go_wp2
                        go_ret
                        exact ⟨rfl, HW.out⟩

end Go.Proofs.Qxb6604492aDoor
