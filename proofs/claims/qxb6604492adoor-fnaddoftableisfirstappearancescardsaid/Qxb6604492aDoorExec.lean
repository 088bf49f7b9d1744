import Derived.Test.Qxb6604492aDoorRun
namespace Go.Proofs.Qxb6604492aDoor
open Go.RowKit
attribute [local go_sem ↓] Go.wp_at_zero Go.wp_at_succ

/-- n steps can be read. -/
def StepsAt (w : World) (ad : Option Addr) (n : Nat) (of ck : Nat → Int) (tx : Nat → ByteArray) : Prop :=
  ∀ i, i < n → ∃ b off, ad = some ⟨b, off, none⟩ ∧ w.cell? ⟨b, off + i * 3, none⟩ = some (.int .i64 (of i)) ∧ w.cell? ⟨b, off + i * 3 + 1, none⟩ = some (.int .i32 (ck i)) ∧ w.cell? ⟨b, off + i * 3 + 2, none⟩ = some (.string (tx i))

theorem cell_lt {w : World} {a : Addr} {v : Value} (h : w.cell? a = some v) : a.block < w.heap.size := World.block_lt_of_cell? w a h

theorem StepsAt.below {w w' : World} {ad : Option Addr} {n : Nat} {of ck : Nat → Int} {tx : Nat → ByteArray} (h : StepsAt w ad n of ck tx) (hb : Below w.heap.size w w') : StepsAt w' ad n of ck tx := by
  intro i hi
  obtain ⟨b, off, e, h0, h1, h2⟩ := h i hi
  have hl : b < w.heap.size := cell_lt h0
  exact ⟨b, off, e, by rw [hb.cell hl]; exact h0, by rw [hb.cell hl]; exact h1, by rw [hb.cell hl]; exact h2⟩

theorem set_any (p : Nat) (v u : Value) (w : World) (h : w.cell? ⟨p, 9, none⟩ = some u) (hf : w.frozen? ⟨p, 9, none⟩ = false) (hv : ∃ a n c, v = .slice a n c) :
    Calls Tryd.prog 21 #[.pointer (some ⟨p, 0, none⟩), v] w fun e w' => e = .returned (.tuple #[]) ∧ w' = w.setCell ⟨p, 9, none⟩ v := by
  obtain ⟨a, n, c, rfl⟩ := hv
  go_enter Tryd.func21, Tryd.ntmps21
  go_wp2
  go_end0
  exact ⟨rfl, rfl⟩

theorem Core.msgSet {B : Nat} {w : World} {g : G} {tot : Nat} (h : Core B w g tot) (v : Value) :
    Core B (w.setCell ⟨g.p, 9, none⟩ v) { g with vt := v } tot ∧ Below B w (w.setCell ⟨g.p, 9, none⟩ v) := by
  have f := Fr.setCell w ⟨g.p, 9, none⟩ v
  have o := only_at h.pb
  have hbel : Below B w (w.setCell ⟨g.p, 9, none⟩ v) := (Below.refl B w).setCell (p := ⟨g.p, 9, none⟩) h.pB _
  exact ⟨{ B0 := Nat.le_trans h.B0 hbel.size, pB := h.pB, pb := h.pb.set9 v, ms := row_keep h.ms f o (by decide), bs := row_keep h.bs f o (by decide), bl := fun k hk => BA_keep (h.bl k hk) f o (by decide) (by decide), ap := h.ap, tab := h.tab, kn := known_keep h.kn f o, ch := chunks_keep h.ch f o (by decide) (by decide), mB := h.mB, nB := h.nB, tB := h.tB, kB := h.kB, cB := h.cB, lB := h.lB }, hbel⟩

theorem zzadd_any {P : Ending → World → Prop} (p : Nat) (x c : Int) (w : World) (h : Calls Tryd.prog 25 #[.pointer (some ⟨p, 0, none⟩), .int .i64 x, .int .i32 c] w fun e w' => e = .returned (.tuple #[]) ∧ P e w') :
    Calls Tryd.prog 22 #[.pointer (some ⟨p, 0, none⟩), .int .i64 x, .int .i32 c] w fun e w' => e = .returned (.tuple #[]) ∧ P e w' := by
  have H : Hid _ := h
  clear h
  go_enter Tryd.func22, Tryd.ntmps22
  go_wp2_with fail
  refine Calls.mono H.out ?_
  rintro e w1 ⟨rfl, h1⟩
  have H1 : Hid _ := h1
  clear h1
  go_wp2
  go_end0
  exact ⟨rfl, H1.out⟩

/-- A new Problems. -/
def fresh (p : Nat) (vx : Value) : G :=
  { p := p, vc := .slice none 0 0, vm := .slice none 0 0, vk := .map none, last := 0, vb := .slice none 0 0, vt := .slice none 0 0, vx := vx, m := 0, bk := fun _ => 0, st := fun _ => 0, tx := fun _ => ⟨#[]⟩, ck := fun _ => 0, br := fun _ => false, nb := 0, b := fun _ => 0, v := fun _ => .slice none 0 0, D := fun _ => [], kc := 0, np := 0, of := fun _ => 0, ix := fun _ => 0 }

theorem fresh_core {B p : Nat} {vx : Value} {w : World} (hB : B ≤ w.heap.size) (hp : B ≤ p) (h : PB w p (.slice none 0 0) (.slice none 0 0) (.map none) 0 (.slice none 0 0) (.slice none 0 0) vx) : Core B w (fresh p vx) 0 where
  B0 := hB
  pB := hp
  pb := h
  ms := World.ownsRow_nil _ _ _ _
  bs := World.ownsRow_nil _ _ _ _
  bl := fun _ hk => absurd hk (Nat.not_lt_zero _)
  ap := fun _ _ hj => absurd hj (Nat.not_lt_zero _)
  tab := ⟨fun _ h => absurd h (Nat.not_lt_zero _), fun _ h => absurd h (Nat.not_lt_zero _), fun _ h => absurd h (Nat.not_lt_zero _), fun _ h => absurd h (Nat.not_lt_zero _), fun _ h => absurd h (Nat.not_lt_zero _)⟩
  kn := .inl ⟨rfl, rfl⟩
  ch := .inl ⟨rfl, rfl⟩
  mB := Nat.zero_le _
  nB := Nat.zero_le _
  tB := Nat.zero_le _
  kB := Nat.le_refl _
  cB := fun _ h => absurd h (Nat.not_lt_zero _)
  lB := ⟨Int.le_refl _, fun h => absurd h (Nat.lt_irrefl _)⟩

theorem fresh_ran (of ck : Nat → Int) (tx : Nat → ByteArray) (p : Nat) (vx : Value) : Ran of ck tx 0 (fresh p vx) where
  np := rfl
  off := fun _ h => absurd h (Nat.not_lt_zero _)
  idx := fun _ h => absurd h (Nat.not_lt_zero _)
  le := Nat.le_refl _
  kc := rfl
  nb := Nat.le_refl _
  last := by show (0 : Int) < ((0 : Nat) : Int) + 1; omega
  br := fun _ h => absurd h (Nat.not_lt_zero _)
  fl := by simp [firsts, fresh]
  fs := fun j s hs => by simp [firsts] at hs

theorem heap_alloc_at (W : World) (o : Obj) (n : Nat) (h : W.heap.size = n) : (W.alloc o).heap[n]? = some o := by
  subst h
  exact heap_alloc_new W o

set_option maxRecDepth 100000 in
theorem new_any (w : World) : Calls Tryd.prog 20 #[] w fun e w' => ∃ p vx, e = .returned (.pointer (some ⟨p, 0, none⟩)) ∧ Core w.heap.size w' (fresh p vx) 0 ∧ Below w.heap.size w w' := by
  go_enter Tryd.func20, Tryd.ntmps20
  go_wp2
  go_ret
  refine ⟨w.heap.size + 1 + 1 + 1 + 1 + 1, .slice (some ⟨w.heap.size + 1 + 1 + 1 + 1, 0, none⟩) 4 4, rfl, fresh_core (by simp; omega) (by omega) ?_, ?_⟩
  · unfold PB
    exact heap_alloc_at _ _ _ (by simp)
  · exact ((((((Below.refl _ w).alloc (Nat.le_refl _) _).alloc (by simp) _).alloc (by simp; omega) _).alloc (by simp; omega) _).alloc (by simp; omega) _).alloc (by simp; omega) _

theorem setMsg {B : Nat} {w : World} {g : G} {tot : Nat} (h : Core B w g tot) (t : ByteArray) :
    ∃ cap w1, (convert 9 40 (.string t)).run Tryd.prog w = .ok (.slice (some ⟨w.heap.size, 0, none⟩) t.size cap) w1 ∧ Below w.heap.size w w1 ∧ Core B w1 g tot ∧
      Core B (w1.setCell ⟨g.p, 9, none⟩ (.slice (some ⟨w.heap.size, 0, none⟩) t.size cap)) { g with vt := .slice (some ⟨w.heap.size, 0, none⟩) t.size cap } tot ∧ Below B w (w1.setCell ⟨g.p, 9, none⟩ (.slice (some ⟨w.heap.size, 0, none⟩) t.size cap)) ∧
      Msg B (w1.setCell ⟨g.p, 9, none⟩ (.slice (some ⟨w.heap.size, 0, none⟩) t.size cap)) { g with vt := .slice (some ⟨w.heap.size, 0, none⟩) t.size cap } t := by
  have hr := run_bytes_of_string (P := Tryd.prog) w 9 40 5 t Tryd.underlying9 Tryd.underlying40 Tryd.underlying5
  have hb : Below w.heap.size w (w.drew.alloc (.cells (bytesRow t (grownCap w t.size 0 5)) 5 ((bytesRow t (grownCap w t.size 0 5)).size, (bytesRow t (grownCap w t.size 0 5)).size + 1))) := (Below.refl _ w).drew.alloc (Nat.le_refl _) _
  have hc1 := h.more (fr_below hb) hb.size
  have hs := hc1.msgSet (.slice (some ⟨w.heap.size, 0, none⟩) t.size (grownCap w t.size 0 5))
  refine ⟨_, _, hr, hb, hc1, hs.1, (hb.mono h.B0).trans hs.2, w.heap.size, grownCap w t.size 0 5, bytesRow t (grownCap w t.size 0 5), ((bytesRow t (grownCap w t.size 0 5)).size, (bytesRow t (grownCap w t.size 0 5)).size + 1), rfl, h.B0, ?_, ?_, fun k hk e => ?_⟩
  · rw [Below.heap_setCell _ _ _ _ (by have := h.pb.lt; show w.heap.size ≠ g.p; omega)]
    exact heap_alloc_new w.drew _
  · intro j u hu
    have hj : j < t.data.size := by
      have := (List.getElem?_eq_some_iff.1 hu).1
      simpa [Lib.byteCells] using this
    have e : (Lib.byteCells t.data.toList)[j]? = some (.int .u8 (t.data[j].toNat : Int)) := by
      rw [Lib.byteCells, List.getElem?_map, List.getElem?_eq_getElem (by simpa using hj)]
      rfl
    rw [hu] at e
    rw [bytesRow_at t _ j hj, e]
  · have := ((h.bl k hk).own.lt _ e).2
    omega

theorem steps_two {w w' : World} {b off n k : Nat} {of ck : Nat → Int} {tx : Nat → ByteArray} (h : StepsAt w (some ⟨b, off, none⟩) n of ck tx) (hb : Below w.heap.size w w') (hk : k < n) : w'.cell? ⟨b, off + k * 3, none⟩ = some (.int .i64 (of k)) ∧ w'.cell? ⟨b, off + k * 3 + 1, none⟩ = some (.int .i32 (ck k)) := by
  obtain ⟨b', off', e, h0, h1, _⟩ := h.below hb k hk
  cases e
  exact ⟨h0, h1⟩

set_option maxHeartbeats 4000000 in
set_option maxRecDepth 100000 in
theorem run_any (ad : Option Addr) (n c : Nat) (of ck : Nat → Int) (tx : Nat → ByteArray) (w : World) (hs : StepsAt w ad n of ck tx) (hn : n ≤ 4096) (hck : ∀ i, i < n → 0 ≤ ck i ∧ ck i ≤ 4) (htot : tots tx n ≤ 1048576) (htab : TabOk w) :
    Calls Tryd.prog 7 #[.slice ad n c] w fun e w' => ∃ g, e = .returned (.pointer (some ⟨g.p, 0, none⟩)) ∧ Core w.heap.size w' g (tots tx n) ∧ Below w.heap.size w w' ∧ Ran of ck tx n g := by
  have H : Hid (StepsAt w ad n of ck tx ∧ (∀ i, i < n → 0 ≤ ck i ∧ ck i ≤ 4) ∧ tots tx n ≤ 1048576) := ⟨hs, hck, htot⟩
  clear hs hck htot
  go_enter Tryd.func7, Tryd.ntmps7
  go_wp2_with fail
  refine (new_any w).mono ?_
  rintro e w1 ⟨p, vx, rfl, hc1, hb1⟩
  have H1 : Hid (Core w.heap.size w1 (fresh p vx) 0 ∧ Below w.heap.size w w1) := ⟨hc1, hb1⟩
  clear hc1 hb1
  go_wp2_with fail
  go_loopw [4] (fun vi wr => ∃ (k : Nat) (g : G), k ≤ n ∧ vi = .int .i64 k ∧ g.p = p ∧ Core w.heap.size wr g (tots tx k) ∧ Below w.heap.size w wr ∧ Ran of ck tx k g) (fun vi _ => n - (intOf vi).toNat)
  case atStart => exact ⟨0, fresh p vx, Nat.zero_le _, rfl, rfl, H1.out.1, H1.out.2, fresh_ran of ck tx p vx⟩
  case round =>
    obtain ⟨k, g, hk, rfl, hp, hcore, hbel, hran⟩ := hrel
    have H2 : Hid (Core w.heap.size wr g (tots tx k) ∧ Below w.heap.size w wr ∧ Ran of ck tx k g ∧ g.p = p) := ⟨hcore, hbel, hran, hp⟩
    clear hcore hbel hran
    by_cases hlt : k < n
    · have k1 : (k : Int) < (n : Int) := by omega
      obtain ⟨b, off, rfl, q0, q1, q2⟩ := H.out.1.below H2.out.2.1 k hlt
      obtain ⟨cap, w2, hcv, hb2, hc2, hc3, hb3, hmsg⟩ := setMsg H2.out.1 (tx k)
      have y9 := hc2.pb.c9
      have yf := hc2.pb.fr 9
      rw [hp] at y9 yf
      have HM : Hid (Core w.heap.size (w2.setCell ⟨p, 9, none⟩ (.slice (some ⟨wr.heap.size, 0, none⟩) (tx k).size cap)) { g with vt := .slice (some ⟨wr.heap.size, 0, none⟩) (tx k).size cap } (tots tx k) ∧ Below w.heap.size wr (w2.setCell ⟨p, 9, none⟩ (.slice (some ⟨wr.heap.size, 0, none⟩) (tx k).size cap)) ∧ Msg w.heap.size (w2.setCell ⟨p, 9, none⟩ (.slice (some ⟨wr.heap.size, 0, none⟩) (tx k).size cap)) { g with vt := .slice (some ⟨wr.heap.size, 0, none⟩) (tx k).size cap } (tx k)) := by
        rw [hp] at hc3 hb3 hmsg
        exact ⟨hp ▸ hc3, hb3, hp ▸ hmsg⟩
      clear hb2 hc2 hc3 hb3 hmsg
      go_wp2_with fail
      refine (set_any p _ _ w2 y9 yf ⟨_, _, _, rfl⟩).mono ?_
      rintro e w3 ⟨rfl, hw3⟩
      rw [← hw3] at HM
      obtain ⟨vt, hvt⟩ : ∃ vt : Value, vt = .slice (some ⟨wr.heap.size, 0, none⟩) (tx k).size cap := ⟨_, rfl⟩
      rw [← hvt] at HM
      have HW : Hid (Below w.heap.size w w3) := H2.out.2.1.trans HM.out.2.1
      obtain ⟨b', off', e', r0, r1, _⟩ := H.out.1.below HW.out k hlt
      cases e'
      have HZ : Hid (Calls Tryd.prog 22 #[.pointer (some ⟨p, 0, none⟩), .int .i64 (of k), .int .i32 (ck k)] w3.drew fun e w' => e = .returned (.tuple #[]) ∧ ∃ g', g'.p = p ∧ Core w.heap.size w' g' (tots tx (k + 1)) ∧ Below w.heap.size w w' ∧ Ran of ck tx (k + 1) g') := by
        have hR := H2.out.2.2.1
        have hR2 : Ran of ck tx k { g with p := p, vt := vt } := ⟨hR.np, hR.off, hR.idx, hR.le, hR.kc, hR.nb, hR.last, hR.br, hR.fl, hR.fs⟩
        have hle := hR.le
        have hnb := hR.nb
        have hkc := hR.kc
        have ht : tots tx k + (tx k).size ≤ 1048576 := Nat.le_trans (tots_mono tx (show k + 1 ≤ n from hlt)) H.out.2.2
        have h1 := addOf_any (c := ck k) (of k) HM.out.1.drew (HM.out.2.2.more (w' := w3.drew) (fun _ _ h _ => h)) (htab.keep (w' := w3.drew) HW.out.drew htab.lt) htab.lt (by show g.m < 4096; omega) (by show g.nb ≤ 4096; omega) (H.out.2.1 k hlt) ht hR.last (fun h => by have h' : g.kc < 1024 := h; show g.kc = g.m; omega) (by show g.np < 4096; rw [hR.np]; omega)
        have hpp : ({ g with vt := vt } : G).p = p := H2.out.2.2.2
        rw [hpp] at h1
        refine zzadd_any (P := fun _ w' => ∃ g', g'.p = p ∧ Core w.heap.size w' g' (tots tx (k + 1)) ∧ Below w.heap.size w w' ∧ Ran of ck tx (k + 1) g') p (of k) (ck k) w3.drew (h1.mono ?_)
        rintro e w' ⟨j, g', rfl, hc', hb', ha⟩
        exact ⟨rfl, g', by rw [ha.p], hc', HW.out.drew.trans hb', hR2.step ha⟩
      clear hw3 hvt HM q0 q1 q2 hcv y9 yf
      go_wp2_with fail
      go_region_held3 (fun w' => w'.cell? ⟨b, off + k * 3, none⟩ = some (.int .i64 (of k)) ∧ w'.cell? ⟨b, off + k * 3 + 1, none⟩ = some (.int .i32 (ck k)))
        (first | (refine ⟨?_, ?_⟩ <;> first | with_reducible assumption | (rw [cell_drew]; with_reducible assumption)))
        ((go_at_call 22; refine Calls.mono HZ.out ?_; rintro e w5 ⟨rfl, g', hp', hc', hb', hr'⟩; have H5 : Hid (g'.p = p ∧ Core w.heap.size w5 g' (tots tx (k + 1)) ∧ Below w.heap.size w w5 ∧ Ran of ck tx (k + 1) g') := ⟨hp', hc', hb', hr'⟩; obtain ⟨s0, s1⟩ := steps_two H.out.1 hb' hlt; clear hp' hc' hb' hr'))
      go_wp2
      go_roundw
      case rel => exact ⟨k + 1, g', by omega, by go_num, H5.out.1, H5.out.2.1, H5.out.2.2.1, H5.out.2.2.2⟩
      case measure => simp [intOf]; omega
    · obtain rfl : k = n := by omega
      have k1 : ¬ (k : Int) < (k : Int) := by omega
      go_wp2
      go_ret
      exact ⟨g, by rw [H2.out.2.2.2]; rfl, H2.out.1, H2.out.2.1, H2.out.2.2.1⟩

end Go.Proofs.Qxb6604492aDoor
