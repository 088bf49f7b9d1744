import Derived.Test.Qxb6604492aDoorText
namespace Go.Proofs.Qxb6604492aDoor
open Go.RowKit
attribute [local go_sem ↓] Go.wp_at_zero Go.wp_at_succ

set_option maxHeartbeats 2000000 in
set_option maxRecDepth 100000 in
theorem text_fr {B : Nat} {w : World} {g : G} {tot : Nat} (h : Core B w g tot) (i : Nat) (hi : i < g.m) :
    Calls Tryd.prog 23 #[.pointer (some ⟨g.p, 0, none⟩), .int .i32 i] w fun e w' => e = .returned (.string (g.tx i)) ∧ Core B w' g tot ∧ Below B w w' ∧ Fr (fun j => (g.v (g.bk i)).ownBlock = some j) w w' := by
  have H : Hid (Core B w g tot) := h
  have hm := h.mB
  have hk := h.tab.lo i hi
  have hnb := h.nB
  have hpl := h.pb.lt
  obtain ⟨r, c, hvm, hr, c1, hcs, _⟩ := h.msg hi
  obtain ⟨rb, cb, hvb, hrb, c8, hbs⟩ := h.blk hk
  obtain ⟨a0, a1, a2, a3, a4⟩ := hcs i hi
  have b0 := hbs _ hk
  have i1 : (i : Int) < (g.m : Int) := by omega
  have k1 : ((g.bk i : Nat) : Int) < (g.nb : Int) := by omega
  have HV : Hid (g.vm = .slice (some ⟨r, 0, none⟩) g.m c) := hvm
  have HVB : Hid (g.vb = .slice (some ⟨rb, 0, none⟩) g.nb cb) := hvb
  clear h hcs hbs hvm hvb
  go_enter Tryd.func23, Tryd.ntmps23
  go_wp2_with fail
  obtain ⟨wx, hwx⟩ : ∃ wx, wx = w.alloc (.cells #[.int .i32 (g.bk i : Nat), .int .i32 (g.st i : Nat), .int .i32 (-1), .int .i32 (g.ck i), .bool (g.br i)] 58) := ⟨_, rfl⟩
  rw [← hwx]
  have HX : Hid (Core B wx g tot ∧ Below B w wx ∧ Fr (fun _ => False) w wx ∧ wx.heap[w.heap.size]? = some (.cells #[.int .i32 (g.bk i : Nat), .int .i32 (g.st i : Nat), .int .i32 (-1), .int .i32 (g.ck i), .bool (g.br i)] 58 (0, 0))) := by
    rw [hwx]
    exact ⟨H.out.alloc _, (Below.refl _ _).alloc H.out.B0 _, Fr.alloc w _, heap_alloc_new w _⟩
  obtain ⟨bx, hbx⟩ : ∃ bx, bx = w.heap.size := ⟨_, rfl⟩
  rw [← hbx] at HX ⊢
  clear hwx hbx c1 c8 a0 a1 a2 a3 a4 b0 hpl hr hrb
  have x8 := (HX.out.1.blkAt HVB.out).1
  have xb := (HX.out.1.blkAt HVB.out).2 _ hk
  have x0 : wx.cell? ⟨bx, 0, none⟩ = some (.int .i32 (g.bk i : Nat)) := by rw [Lib.cell_of_heap HX.out.2.2.2]; rfl
  go_region_held3 (fun w' => w'.cell? ⟨g.p, 8, none⟩ = some (.slice (some ⟨rb, 0, none⟩) g.nb cb) ∧ w'.cell? ⟨rb, g.bk i, none⟩ = some (.pointer (some ⟨g.b (g.bk i), 0, none⟩)) ∧ w'.cell? ⟨bx, 0, none⟩ = some (.int .i32 (g.bk i : Nat)))
    (first | exact ⟨by first | with_reducible assumption | (rw [cell_drew]; with_reducible assumption), by first | with_reducible assumption | (rw [cell_drew]; with_reducible assumption), by first | with_reducible assumption | (rw [cell_drew]; with_reducible assumption)⟩)
    ((refine (string_any wx.drew (HX.out.1.drew.bl _ hk)).mono ?_; rintro e w2 ⟨rfl, hb2, hg2⟩; have H2 : Hid (Core B w2 g tot ∧ Below B wx.drew w2 ∧ Fr (fun j => (g.v (g.bk i)).ownBlock = some j) wx w2) := ⟨(HX.out.1.drew.read hk hg2 hb2).1, (HX.out.1.drew.read hk hg2 hb2).2.1, Fr.grown (w := wx.drew) hg2⟩; have HB2 : Hid (w2.heap[bx]? = some (.cells #[.int .i32 (g.bk i : Nat), .int .i32 (g.st i : Nat), .int .i32 (-1), .int .i32 (g.ck i), .bool (g.br i)] 58 (0, 0))) := Fr.grown hg2 bx _ HX.out.2.2.2 (fun e => by obtain ⟨cur, fz, hh⟩ := ownsRowF_kind (HX.out.1.drew.bl _ hk).own e; exact kinds_ne HX.out.2.2.2 hh (by decide) rfl); clear hb2 hg2; have y8 := (H2.out.1.blkAt HVB.out).1; have yb := (H2.out.1.blkAt HVB.out).2 _ hk; have y0 : w2.cell? ⟨bx, 0, none⟩ = some (.int .i32 (g.bk i : Nat)) := by rw [Lib.cell_of_heap HB2.out]; rfl))
  clear x8 xb x0 y8 yb
  rename_i hheld
  clear hheld
  obtain ⟨s, hs⟩ : ∃ s : ByteArray, s = ⟨(g.D (g.bk i)).toArray⟩ := ⟨_, rfl⟩
  rw [← hs]
  have HS : Hid (s.size = (g.D (g.bk i)).length ∧ s.extract (g.st i) (en g.m g.bk g.st g.D i) = g.tx i) := by
    rw [hs]
    exact ⟨by simp [ByteArray.size], H.out.tab.sub i hi⟩
  have HR : Hid (g.st i ≤ en g.m g.bk g.st g.D i ∧ en g.m g.bk g.st g.D i ≤ (g.D (g.bk i)).length ∧ (g.D (g.bk i)).length ≤ 1048576) := ⟨(H.out.tab.rng i hi).1, (H.out.tab.rng i hi).2, Nat.le_trans (H.out.tab.len _ hk) H.out.tB⟩
  clear hs
  have HE : Hid (∀ n, Core B (w2.drewN n) g tot ∧ Below B w (w2.drewN n) ∧ Fr (fun j => (g.v (g.bk i)).ownBlock = some j) w (w2.drewN n)) := by
    intro n
    refine ⟨H2.out.1.drewN n, below_drewN (HX.out.2.1.drew.trans H2.out.2.1) n, ?_⟩
    exact ((HX.out.2.2.1.trans H2.out.2.2).trans (fr_drewN (fun _ => False) _ n)).mono (fun j hj => by rcases hj with (hj | hj) | hj; exact hj.elim; exact hj; exact hj.elim)
  have z1 := (H2.out.1.msgAt HV.out).1
  have z0 : w2.cell? ⟨bx, 1, none⟩ = some (.int .i32 (g.st i : Nat)) := by rw [Lib.cell_of_heap HB2.out]; rfl
  have hsz : s.size ≤ 1048576 := by have := HS.out.1; have := HR.out.2.2; omega
  by_cases n1 : i + 1 < g.m
  · have n1' : (i : Int) + 1 < (g.m : Int) := by omega
    have d1 : decide ((i : Int) + 1 < (g.m : Int)) = true := decide_eq_true n1'
    obtain ⟨q0, q1, _⟩ := (H2.out.1.msgAt HV.out).2 (i + 1) n1
    by_cases q : g.bk (i + 1) = g.bk i
    · have e1 : g.st i ≤ g.st (i + 1) := by have := HR.out.1; unfold en at this; rw [if_pos ⟨n1, q⟩] at this; exact this
      have e2 : g.st (i + 1) ≤ s.size := by have h1 := HR.out.2.1; unfold en at h1; rw [if_pos ⟨n1, q⟩, ← HS.out.1] at h1; exact h1
      have HT : Hid (s.extract (g.st i) (g.st (i + 1)) = g.tx i) := by have h1 := HS.out.2; unfold en at h1; rw [if_pos ⟨n1, q⟩] at h1; exact h1
      rw [q] at q0
      go_wp2_with fail
      go_quiet (fail)
      go_wp2
      go_ret
      exact ⟨by rw [← HT.out]; rfl, HE.out nq⟩
    · have q' : ¬ ((g.bk (i + 1) : Nat) : Int) = ((g.bk i : Nat) : Int) := by omega
      have qb : (((g.bk (i + 1) : Nat) : Int) == ((g.bk i : Nat) : Int)) = false := beq_eq_false_iff_ne.2 q'
      have qd : decide (((g.bk (i + 1) : Nat) : Int) = ((g.bk i : Nat) : Int)) = false := decide_eq_false q'
      have hen : en g.m g.bk g.st g.D i = s.size := by unfold en; rw [if_neg (fun h => q h.2), HS.out.1]
      have e1 : g.st i ≤ s.size := by rw [← hen]; exact HR.out.1
      have HT : Hid (s.extract (g.st i) s.size = g.tx i) := by have h1 := HS.out.2; rw [hen] at h1; exact h1
      clear hen
      go_wp2_with fail
      go_quiet (fail)
      go_wp2
      go_ret
      exact ⟨by rw [← HT.out]; rfl, HE.out nq⟩
  · have n1' : ¬ (i : Int) + 1 < (g.m : Int) := by omega
    have d1 : decide ((i : Int) + 1 < (g.m : Int)) = false := decide_eq_false n1'
    have hen : en g.m g.bk g.st g.D i = s.size := by unfold en; rw [if_neg (fun h => n1 h.1), HS.out.1]
    have e1 : g.st i ≤ s.size := by rw [← hen]; exact HR.out.1
    have HT : Hid (s.extract (g.st i) s.size = g.tx i) := by have h1 := HS.out.2; rw [hen] at h1; exact h1
    clear hen
    go_wp2_with fail
    go_quiet (fail)
    go_wp2
    go_ret
    exact ⟨by rw [← HT.out]; rfl, HE.out nq⟩


/-- ZZmessageText, and what it turns: bytes' rows alone. -/
theorem zztext_fr {B : Nat} {w : World} {g : G} {tot : Nat} (h : Core B w g tot) (i : Nat) (hi : i < g.m) : Calls Tryd.prog 14 #[.pointer (some ⟨g.p, 0, none⟩), .int .i32 i] w fun e w' => e = .returned (.string (g.tx i)) ∧ Core B w' g tot ∧ Below B w w' ∧ Fr (fun j => (g.v (g.bk i)).ownBlock = some j) w w' := by
  have H : Hid _ := text_fr h i hi
  clear h
  go_enter Tryd.func14, Tryd.ntmps14
  go_wp2_with fail
  refine Calls.mono H.out ?_
  rintro e w1 ⟨rfl, h1, h2, h3⟩
  have H1 : Hid (Core B w1 g tot ∧ Below B w w1 ∧ Fr (fun j => (g.v (g.bk i)).ownBlock = some j) w w1) := ⟨h1, h2, h3⟩
  clear h1 h2 h3
  go_wp2
  go_ret
  exact ⟨rfl, H1.out⟩

end Go.Proofs.Qxb6604492aDoor
