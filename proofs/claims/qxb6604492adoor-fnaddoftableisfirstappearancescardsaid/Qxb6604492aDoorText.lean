import Derived.Test.Qxb6604492aDoorCore
import Derived.Deep.RegionHeld3
import Derived.Deep.DrawnRows
import Derived.BigQuiet
namespace Go.Proofs.Qxb6604492aDoor
open Go.RowKit
attribute [local go_sem ↓] Go.wp_at_zero Go.wp_at_succ

theorem cell_drew (w : World) (a : Addr) : w.drew.cell? a = w.cell? a := rfl

/-- The builder k of a state has been read: the state stands. -/
theorem Core.read {B : Nat} {w w' : World} {g : G} {tot k : Nat} (h : Core B w g tot) (hk : k < g.nb) (hg : w.grownBy w' (g.v k).ownBlock) (hb : BA B w' (g.b k) (g.v k) (g.D k)) : Core B w' g tot ∧ Below B w w' ∧ ∀ t, Msg B w g t → Msg B w' g t := by
  have f : Fr (fun j => (g.v k).ownBlock = some j) w w' := Fr.grown hg
  have hrow := (h.bl k hk).own
  refine ⟨h.fr5 f hg.size (fun j hj => ownsRowF_kind hrow hj) (fun k' hk' => ?_), below_grown hg h.B0 (fun j hj => (hrow.lt j hj).1), fun t ht => ht.fr f (fun mb _ _ _ hne e => hne k hk e)⟩
  by_cases e : k' = k
  · subst e; exact hb
  · refine (h.bl k' hk').fr f (fun e' => ?_) (fun r hr e' => (h.ap k' k hk' hk e).2 r hr e')
    obtain ⟨cur, fz, hh⟩ := ownsRowF_kind hrow e'
    exact kinds_ne (h.bl k' hk').bk hh (by decide) rfl

theorem five_get (bk st : Nat → Nat) (ck : Nat → Int) (br : Nat → Bool) {m i : Nat} (hi : i < m) : (msgs bk st ck br m)[i * 5]? = some (.int .i32 (bk i : Nat)) ∧ (msgs bk st ck br m)[i * 5 + 1]? = some (.int .i32 (st i : Nat)) ∧ (msgs bk st ck br m)[i * 5 + 2]? = some (.int .i32 (-1)) ∧ (msgs bk st ck br m)[i * 5 + 3]? = some (.int .i32 (ck i)) ∧ (msgs bk st ck br m)[i * 5 + 4]? = some (.bool (br i)) := by
  have h := fun j hj => flat_get (five bk st ck br) 5 (fun _ => rfl) i j hj m hi
  exact ⟨h 0 (by omega), h 1 (by omega), h 2 (by omega), h 3 (by omega), h 4 (by omega)⟩

/-- The messages can be read. -/
theorem Core.msg {B : Nat} {w : World} {g : G} {tot : Nat} (h : Core B w g tot) {i : Nat} (hi : i < g.m) : ∃ r c, g.vm = .slice (some ⟨r, 0, none⟩) g.m c ∧ r < w.heap.size ∧ w.cell? ⟨g.p, 1, none⟩ = some (.slice (some ⟨r, 0, none⟩) g.m c) ∧ (∀ i, i < g.m → w.cell? ⟨r, i * 5, none⟩ = some (.int .i32 (g.bk i : Nat)) ∧ w.cell? ⟨r, i * 5 + 1, none⟩ = some (.int .i32 (g.st i : Nat)) ∧ w.cell? ⟨r, i * 5 + 2, none⟩ = some (.int .i32 (-1)) ∧ w.cell? ⟨r, i * 5 + 3, none⟩ = some (.int .i32 (g.ck i)) ∧ w.cell? ⟨r, i * 5 + 4, none⟩ = some (.bool (g.br i))) ∧ ∀ k, w.frozen? ⟨r, k, none⟩ = false := by
  obtain ⟨r, c, hv, _, _, hc, hf⟩ := row_at h.ms (by omega)
  refine ⟨r, c, hv, ?_, by rw [h.pb.c1, hv], fun i hi => ?_, hf⟩
  · have := h.ms.lt r (by rw [hv]; rfl)
    exact this.2
  · obtain ⟨h0, h1, h2, h3, h4⟩ := five_get g.bk g.st g.ck g.br hi
    exact ⟨hc _ _ h0, hc _ _ h1, hc _ _ h2, hc _ _ h3, hc _ _ h4⟩

theorem Core.blk {B : Nat} {w : World} {g : G} {tot : Nat} (h : Core B w g tot) {k : Nat} (hk : k < g.nb) : ∃ r c, g.vb = .slice (some ⟨r, 0, none⟩) g.nb c ∧ r < w.heap.size ∧ w.cell? ⟨g.p, 8, none⟩ = some (.slice (some ⟨r, 0, none⟩) g.nb c) ∧ ∀ k, k < g.nb → w.cell? ⟨r, k, none⟩ = some (.pointer (some ⟨g.b k, 0, none⟩)) := by
  obtain ⟨r, c, hv, _, _, hc, hf⟩ := row_at h.bs (by omega)
  refine ⟨r, c, hv, ?_, by rw [h.pb.c8, hv], fun k hk => hc _ _ (ptrs_get g.b g.nb k hk)⟩
  have := h.bs.lt r (by rw [hv]; rfl)
  exact this.2

theorem Core.msgAt {B : Nat} {w : World} {g : G} {tot r c : Nat} (h : Core B w g tot) (hv : g.vm = .slice (some ⟨r, 0, none⟩) g.m c) : w.cell? ⟨g.p, 1, none⟩ = some (.slice (some ⟨r, 0, none⟩) g.m c) ∧ ∀ i, i < g.m → w.cell? ⟨r, i * 5, none⟩ = some (.int .i32 (g.bk i : Nat)) ∧ w.cell? ⟨r, i * 5 + 1, none⟩ = some (.int .i32 (g.st i : Nat)) ∧ w.cell? ⟨r, i * 5 + 2, none⟩ = some (.int .i32 (-1)) ∧ w.cell? ⟨r, i * 5 + 3, none⟩ = some (.int .i32 (g.ck i)) ∧ w.cell? ⟨r, i * 5 + 4, none⟩ = some (.bool (g.br i)) := by
  refine ⟨by rw [h.pb.c1, hv], fun i hi => ?_⟩
  obtain ⟨r', c', hv', _, _, hc, _⟩ := h.msg hi
  rw [hv] at hv'
  cases hv'
  exact hc i hi

theorem Core.blkAt {B : Nat} {w : World} {g : G} {tot r c : Nat} (h : Core B w g tot) (hv : g.vb = .slice (some ⟨r, 0, none⟩) g.nb c) : w.cell? ⟨g.p, 8, none⟩ = some (.slice (some ⟨r, 0, none⟩) g.nb c) ∧ ∀ k, k < g.nb → w.cell? ⟨r, k, none⟩ = some (.pointer (some ⟨g.b k, 0, none⟩)) := by
  refine ⟨by rw [h.pb.c8, hv], fun k hk => ?_⟩
  obtain ⟨r', c', hv', _, _, hc⟩ := h.blk hk
  rw [hv] at hv'
  cases hv'
  exact hc k hk

theorem Core.alloc {B : Nat} {w : World} {g : G} {tot : Nat} (h : Core B w g tot) (o : Obj) : Core B (w.alloc o) g tot := h.more (Fr.alloc w o) (by simp)
theorem Core.drew {B : Nat} {w : World} {g : G} {tot : Nat} (h : Core B w g tot) : Core B w.drew g tot := h.more (fun _ _ h _ => h) (Nat.le_refl _)
theorem Core.drewN {B : Nat} {w : World} {g : G} {tot : Nat} (h : Core B w g tot) : ∀ n, Core B (w.drewN n) g tot
  | 0 => h
  | n + 1 => (h.drewN n).drew
theorem Msg.more {B : Nat} {w w' : World} {g : G} {t : ByteArray} (h : Msg B w g t) (f : Fr (fun _ => False) w w') : Msg B w' g t := h.fr f (fun _ _ _ _ _ e => e)
theorem below_drewN {B : Nat} {a w : World} (h : Below B a w) : ∀ n, Below B a (w.drewN n)
  | 0 => h
  | n + 1 => (below_drewN h n).drew
theorem fr_drewN (S : Nat → Prop) (w : World) : ∀ n, Fr S w (w.drewN n)
  | 0 => Fr.refl S w
  | n + 1 => fun j o hj hn => fr_drewN S w n j o hj hn

set_option maxHeartbeats 2000000 in
set_option maxRecDepth 100000 in
theorem text_any {B : Nat} {w : World} {g : G} {tot : Nat} (h : Core B w g tot) (i : Nat) (hi : i < g.m) :
    Calls Tryd.prog 23 #[.pointer (some ⟨g.p, 0, none⟩), .int .i32 i] w fun e w' => e = .returned (.string (g.tx i)) ∧ Core B w' g tot ∧ Below B w w' ∧ ∀ t, Msg B w g t → Msg B w' g t := by
  have H : Hid (Core B w g tot) := h
  have hm := h.mB
  have hk := h.tab.lo i hi
  have hnb := h.nB
  have hpl := h.pb.lt
  obtain ⟨r, c, hvm, hr, c1, hcs, _⟩ := h.msg hi
  obtain ⟨rb, cb, hvb, hrb, c8, hbs⟩ := h.blk hk
  obtain ⟨a0, a1, a2, a3, a4⟩ := hcs i hi
  have b0 := hbs _ hk
  have i1 : (i : Int) < (g.m : Int) := by omega
  have k1 : ((g.bk i : Nat) : Int) < (g.nb : Int) := by omega
  have HV : Hid (g.vm = .slice (some ⟨r, 0, none⟩) g.m c) := hvm
  have HVB : Hid (g.vb = .slice (some ⟨rb, 0, none⟩) g.nb cb) := hvb
  clear h hcs hbs hvm hvb
  go_enter Tryd.func23, Tryd.ntmps23
  go_wp2_with fail
  obtain ⟨wx, hwx⟩ : ∃ wx, wx = w.alloc (.cells #[.int .i32 (g.bk i : Nat), .int .i32 (g.st i : Nat), .int .i32 (-1), .int .i32 (g.ck i), .bool (g.br i)] 58) := ⟨_, rfl⟩
  rw [← hwx]
  have HX : Hid (Core B wx g tot ∧ Below B w wx ∧ (∀ t, Msg B w g t → Msg B wx g t) ∧ wx.heap[w.heap.size]? = some (.cells #[.int .i32 (g.bk i : Nat), .int .i32 (g.st i : Nat), .int .i32 (-1), .int .i32 (g.ck i), .bool (g.br i)] 58 (0, 0))) := by
    rw [hwx]
    exact ⟨H.out.alloc _, (Below.refl _ _).alloc H.out.B0 _, fun t ht => ht.more (Fr.alloc w _), heap_alloc_new w _⟩
  obtain ⟨bx, hbx⟩ : ∃ bx, bx = w.heap.size := ⟨_, rfl⟩
  rw [← hbx] at HX ⊢
  clear hwx hbx c1 c8 a0 a1 a2 a3 a4 b0 hpl hr hrb
  have x8 := (HX.out.1.blkAt HVB.out).1
  have xb := (HX.out.1.blkAt HVB.out).2 _ hk
  have x0 : wx.cell? ⟨bx, 0, none⟩ = some (.int .i32 (g.bk i : Nat)) := by rw [Lib.cell_of_heap HX.out.2.2.2]; rfl
  go_region_held3 (fun w' => w'.cell? ⟨g.p, 8, none⟩ = some (.slice (some ⟨rb, 0, none⟩) g.nb cb) ∧ w'.cell? ⟨rb, g.bk i, none⟩ = some (.pointer (some ⟨g.b (g.bk i), 0, none⟩)) ∧ w'.cell? ⟨bx, 0, none⟩ = some (.int .i32 (g.bk i : Nat)))
    (first | exact ⟨by first | with_reducible assumption | (rw [cell_drew]; with_reducible assumption), by first | with_reducible assumption | (rw [cell_drew]; with_reducible assumption), by first | with_reducible assumption | (rw [cell_drew]; with_reducible assumption)⟩)
    ((refine (string_any wx.drew (HX.out.1.drew.bl _ hk)).mono ?_; rintro e w2 ⟨rfl, hb2, hg2⟩; have H2 : Hid _ := HX.out.1.drew.read hk hg2 hb2; have HB2 : Hid (w2.heap[bx]? = some (.cells #[.int .i32 (g.bk i : Nat), .int .i32 (g.st i : Nat), .int .i32 (-1), .int .i32 (g.ck i), .bool (g.br i)] 58 (0, 0))) := Fr.grown hg2 bx _ HX.out.2.2.2 (fun e => by obtain ⟨cur, fz, hh⟩ := ownsRowF_kind (HX.out.1.drew.bl _ hk).own e; exact kinds_ne HX.out.2.2.2 hh (by decide) rfl); clear hb2 hg2; have y8 := (H2.out.1.blkAt HVB.out).1; have yb := (H2.out.1.blkAt HVB.out).2 _ hk; have y0 : w2.cell? ⟨bx, 0, none⟩ = some (.int .i32 (g.bk i : Nat)) := by rw [Lib.cell_of_heap HB2.out]; rfl))
  clear x8 xb x0 y8 yb
  rename_i hheld
  clear hheld
  obtain ⟨s, hs⟩ : ∃ s : ByteArray, s = ⟨(g.D (g.bk i)).toArray⟩ := ⟨_, rfl⟩
  rw [← hs]
  have HS : Hid (s.size = (g.D (g.bk i)).length ∧ s.extract (g.st i) (en g.m g.bk g.st g.D i) = g.tx i) := by
    rw [hs]
    exact ⟨by simp [ByteArray.size], H.out.tab.sub i hi⟩
  have HR : Hid (g.st i ≤ en g.m g.bk g.st g.D i ∧ en g.m g.bk g.st g.D i ≤ (g.D (g.bk i)).length ∧ (g.D (g.bk i)).length ≤ 1048576) := ⟨(H.out.tab.rng i hi).1, (H.out.tab.rng i hi).2, Nat.le_trans (H.out.tab.len _ hk) H.out.tB⟩
  clear hs
  have HE : Hid (∀ n, Core B (w2.drewN n) g tot ∧ Below B w (w2.drewN n) ∧ ∀ t, Msg B w g t → Msg B (w2.drewN n) g t) := by
    intro n
    refine ⟨H2.out.1.drewN n, below_drewN (HX.out.2.1.drew.trans H2.out.2.1) n, fun t ht => ?_⟩
    exact (H2.out.2.2 t ((HX.out.2.2.1 t ht).more (fun _ _ h _ => h))).more (fr_drewN _ _ n)
  have z1 := (H2.out.1.msgAt HV.out).1
  have z0 : w2.cell? ⟨bx, 1, none⟩ = some (.int .i32 (g.st i : Nat)) := by rw [Lib.cell_of_heap HB2.out]; rfl
  have hsz : s.size ≤ 1048576 := by have := HS.out.1; have := HR.out.2.2; omega
  by_cases n1 : i + 1 < g.m
  · have n1' : (i : Int) + 1 < (g.m : Int) := by omega
    have d1 : decide ((i : Int) + 1 < (g.m : Int)) = true := decide_eq_true n1'
    obtain ⟨q0, q1, _⟩ := (H2.out.1.msgAt HV.out).2 (i + 1) n1
    by_cases q : g.bk (i + 1) = g.bk i
    · have e1 : g.st i ≤ g.st (i + 1) := by have := HR.out.1; unfold en at this; rw [if_pos ⟨n1, q⟩] at this; exact this
      have e2 : g.st (i + 1) ≤ s.size := by have h1 := HR.out.2.1; unfold en at h1; rw [if_pos ⟨n1, q⟩, ← HS.out.1] at h1; exact h1
      have HT : Hid (s.extract (g.st i) (g.st (i + 1)) = g.tx i) := by have h1 := HS.out.2; unfold en at h1; rw [if_pos ⟨n1, q⟩] at h1; exact h1
      rw [q] at q0
      go_wp2_with fail
      go_quiet (fail)
      go_wp2
      go_ret
      exact ⟨by rw [← HT.out]; rfl, HE.out nq⟩
    · have q' : ¬ ((g.bk (i + 1) : Nat) : Int) = ((g.bk i : Nat) : Int) := by omega
      have qb : (((g.bk (i + 1) : Nat) : Int) == ((g.bk i : Nat) : Int)) = false := beq_eq_false_iff_ne.2 q'
      have qd : decide (((g.bk (i + 1) : Nat) : Int) = ((g.bk i : Nat) : Int)) = false := decide_eq_false q'
      have hen : en g.m g.bk g.st g.D i = s.size := by unfold en; rw [if_neg (fun h => q h.2), HS.out.1]
      have e1 : g.st i ≤ s.size := by rw [← hen]; exact HR.out.1
      have HT : Hid (s.extract (g.st i) s.size = g.tx i) := by have h1 := HS.out.2; rw [hen] at h1; exact h1
      clear hen
      go_wp2_with fail
      go_quiet (fail)
      go_wp2
      go_ret
      exact ⟨by rw [← HT.out]; rfl, HE.out nq⟩
  · have n1' : ¬ (i : Int) + 1 < (g.m : Int) := by omega
    have d1 : decide ((i : Int) + 1 < (g.m : Int)) = false := decide_eq_false n1'
    have hen : en g.m g.bk g.st g.D i = s.size := by unfold en; rw [if_neg (fun h => n1 h.1), HS.out.1]
    have e1 : g.st i ≤ s.size := by rw [← hen]; exact HR.out.1
    have HT : Hid (s.extract (g.st i) s.size = g.tx i) := by have h1 := HS.out.2; rw [hen] at h1; exact h1
    clear hen
    go_wp2_with fail
    go_quiet (fail)
    go_wp2
    go_ret
    exact ⟨by rw [← HT.out]; rfl, HE.out nq⟩

end Go.Proofs.Qxb6604492aDoor
