import Derived.Test.Qxb6604492aDoorIndex
import Derived.Test.Qxb6604492aDoorApp
namespace Go.Proofs.Qxb6604492aDoor
open Go.RowKit
attribute [local go_sem ↓] Go.wp_at_zero Go.wp_at_succ

/-- p.last is set. -/
theorem Core.lastSet {B : Nat} {w : World} {g : G} {tot : Nat} (h : Core B w g tot) (j : Nat) (hj : j < g.m) :
    Core B (w.setCell ⟨g.p, 3, none⟩ (.int .i32 j)) { g with last := j } tot ∧ Below B w (w.setCell ⟨g.p, 3, none⟩ (.int .i32 j)) := by
  have f := Fr.setCell w ⟨g.p, 3, none⟩ (.int .i32 j)
  have o := only_at h.pb
  have hbel : Below B w (w.setCell ⟨g.p, 3, none⟩ (.int .i32 j)) := (Below.refl B w).setCell (p := ⟨g.p, 3, none⟩) h.pB _
  exact ⟨{ B0 := Nat.le_trans h.B0 hbel.size, pB := h.pB, pb := h.pb.set3 j, ms := row_keep h.ms f o (by decide), bs := row_keep h.bs f o (by decide), bl := fun k hk => BA_keep (h.bl k hk) f o (by decide) (by decide), ap := h.ap, tab := h.tab, kn := known_keep h.kn f o, ch := chunks_keep h.ch f o (by decide) (by decide), mB := h.mB, nB := h.nB, tB := h.tB, kB := h.kB, cB := h.cB, lB := ⟨by show (0 : Int) ≤ (j : Int); omega, fun _ => by show (j : Int) < (g.m : Int); omega⟩ }, hbel⟩

/-- The step's message was there. -/
structure HowOld (g g' : G) (t : ByteArray) (c : Int) (j : Nat) : Prop where
  m : g'.m = g.m
  tx : g'.tx = g.tx
  ck : g'.ck = g.ck
  br : g'.br = g.br
  kc : g'.kc = g.kc
  nb : g'.nb = g.nb
  h1 : j < g.m
  h2 : g.tx j = t
  h3 : g.ck j = c

/-- The step's message is new. -/
structure HowNew (g g' : G) (t : ByteArray) (c : Int) (j : Nat) : Prop where
  h1 : ∀ i, i < g.kc → ¬ (g.tx i = t ∧ g.ck i = c)
  h2 : j = g.m
  m : g'.m = g.m + 1
  tx : g'.tx = upd g.tx g.m t
  ck : g'.ck = upd g.ck g.m c
  br : g'.br = upd g.br g.m (brk t)
  kc : g'.kc = if g.kc < 1024 then g.kc + 1 else g.kc
  nb : g'.nb ≤ g.nb + 1

/-- How one step finds or keeps its message: its index is j. -/
def How (g g' : G) (t : ByteArray) (c : Int) (j : Nat) : Prop := HowOld g g' t c j ∨ HowNew g g' t c j

/-- What 'addOf' leaves. -/
structure Added (g g' : G) (x : Int) (t : ByteArray) (c : Int) (j : Nat) : Prop where
  p : g'.p = g.p
  last : g'.last = j
  np : g'.np = g.np + 1
  of : g'.of = upd g.of g.np x
  ix : g'.ix = upd g.ix g.np j
  how : How g g' t c j

theorem toList_inj {a b : ByteArray} (h : a.toList = b.toList) : a = b := by
  rw [ByteArray.toList_eq, ByteArray.toList_eq] at h
  exact ByteArray.ext (Array.toList_inj.1 h)

theorem Core.six {B : Nat} {w : World} {g : G} {tot r cm L mb cap : Nat} {t : ByteArray} {c : Int} (h : Core B w g tot) (hm : Msg B w g t) (hv : g.vm = .slice (some ⟨r, 0, none⟩) g.m cm) (hL : g.last = (L : Int)) (hLm : L < g.m) (hck : g.ck L = c) (hvt : g.vt = .slice (some ⟨mb, 0, none⟩) t.size cap) :
    w.cell? ⟨g.p, 1, none⟩ = some (.slice (some ⟨r, 0, none⟩) g.m cm) ∧ w.cell? ⟨g.p, 3, none⟩ = some (.int .i32 (L : Nat)) ∧ w.cell? ⟨r, L * 5 + 2, none⟩ = some (.int .i32 (-1)) ∧ w.cell? ⟨r, L * 5 + 3, none⟩ = some (.int .i32 c) ∧ w.cell? ⟨g.p, 9, none⟩ = some (.slice (some ⟨mb, 0, none⟩) t.size cap) ∧ (convert 40 9 (.slice (some ⟨mb, 0, none⟩) t.size cap)).run Tryd.prog w = .ok (.string t) w := by
  have h1 := h.msgAt hv
  have h2 := h1.2 L hLm
  have h3 := h.pb.c3
  have h9 := h.pb.c9
  rw [hL] at h3
  rw [hvt] at h9
  rw [hck] at h2
  exact ⟨h1.1, h3, h2.2.2.1, h2.2.2.2.1, h9, conv_back hvt hm⟩

set_option maxHeartbeats 4000000 in
set_option maxRecDepth 100000 in
theorem addOf_any {B : Nat} {w : World} {g : G} {tot : Nat} {t : ByteArray} {c : Int} (x : Int) (h : Core B w g tot) (ht : Msg B w g t) (htab : TabOk w) (hB : 0 < B) (hm : g.m < 4096) (hn : g.nb ≤ 4096) (hc : 0 ≤ c ∧ c ≤ 4) (htot : tot + t.size ≤ 1048576) (hl : g.last < g.m + 1) (hkc : g.kc < 1024 → g.kc = g.m) (hnp : g.np < 4096) :
    Calls Tryd.prog 25 #[.pointer (some ⟨g.p, 0, none⟩), .int .i64 x, .int .i32 c] w fun e w' => ∃ (j : Nat) (g' : G), e = .returned (.tuple #[]) ∧ Core B w' g' (tot + t.size) ∧ Below B w w' ∧ Added g g' x t c j := by
  have H : Hid (Core B w g tot ∧ Msg B w g t) := ⟨h, ht⟩
  have HL : Hid (0 ≤ g.last ∧ g.last < g.m + 1) := ⟨h.lB.1, hl⟩
  have HL2 : Hid (0 < g.m → g.last < g.m) := h.lB.2
  have c1 := h.pb.c1
  obtain ⟨am, cm, hvm⟩ := row_val h.ms
  rw [hvm] at c1
  have HVM : Hid (g.vm = .slice am g.m cm) := hvm
  clear hl hvm h ht
  go_enter Tryd.func25, Tryd.ntmps25
  go_wp2_with fail
  go_cut [54] (fun s54 wx => ∃ bb : Bool, s54 = .bool bb ∧ Core B wx g tot ∧ Msg B wx g t ∧ Below B w wx ∧ (bb = false → ∃ j : Nat, g.last = j ∧ j < g.m ∧ g.tx j = t ∧ g.ck j = c))
  case first =>
    by_cases h0 : g.m = 0
    · have d0 : ((g.m : Int) == 0) = true := by simp [h0]
      have d1 : (g.m : Int) = 0 := by omega
      clear h0
      go_quiet (fail)
      go_wp2
      go_meet
      case rel => exact ⟨true, rfl, H.out.1.drewN _, H.out.2.more (fr_drewN _ _ _), below_drewN (Below.refl _ _) _, fun e => by cases e⟩
    · have d0 : ((g.m : Int) == 0) = false := beq_eq_false_iff_ne.2 (by omega)
      have d1 : ¬ (g.m : Int) = 0 := by omega
      obtain ⟨L, hL⟩ : ∃ L : Nat, g.last = (L : Int) := ⟨g.last.toNat, by have := HL.out.1; omega⟩
      have hLm : L < g.m := by have := HL2.out (by omega); omega
      have hLi : (L : Int) < (g.m : Int) := by omega
      have c3 := H.out.1.pb.c3
      rw [hL] at c3
      have HLL : Hid (g.last = (L : Int)) := hL
      obtain ⟨r, cr, hvm, hrl, c1', hcs, _⟩ := H.out.1.msg hLm
      obtain ⟨_, _, a2, a3, _⟩ := hcs L hLm
      rw [HVM.out] at hvm
      cases hvm
      clear hcs c1' h0 hL
      by_cases hck : g.ck L = c
      · rw [hck] at a3
        have HCK : Hid (g.ck L = c) := hck
        obtain ⟨mb, cap, hvt, _⟩ := H.out.2.val
        have HVT : Hid (g.vt = .slice (some ⟨mb, 0, none⟩) t.size cap) := hvt
        have c9 := H.out.1.pb.c9
        rw [hvt] at c9
        have hconv := conv_back hvt (H.out.2.more (w' := w.drew) (fun _ _ h _ => h))
        have HTX : Hid _ := text_any H.out.1.drew L hLm
        clear hvt hck
        go_region_held3 (fun w' => w'.cell? ⟨g.p, 1, none⟩ = some (.slice (some ⟨r, 0, none⟩) g.m cm) ∧ w'.cell? ⟨g.p, 3, none⟩ = some (.int .i32 (L : Nat)) ∧ w'.cell? ⟨r, L * 5 + 2, none⟩ = some (.int .i32 (-1)) ∧ w'.cell? ⟨r, L * 5 + 3, none⟩ = some (.int .i32 c) ∧ w'.cell? ⟨g.p, 9, none⟩ = some (.slice (some ⟨mb, 0, none⟩) t.size cap) ∧ (convert 40 9 (.slice (some ⟨mb, 0, none⟩) t.size cap)).run Tryd.prog w' = .ok (.string t) w')
          (first | (refine ⟨?_, ?_, ?_, ?_, ?_, ?_⟩ <;> first | with_reducible assumption | (rw [cell_drew]; with_reducible assumption)))
          ((go_at_call 23; refine Calls.mono HTX.out ?_; rintro e w5 ⟨rfl, hc5, hb5, hm5⟩; have H5 : Hid (Core B w5 g tot ∧ Msg B w5 g t ∧ Below B w w5) := ⟨hc5, hm5 t (H.out.2.more (w' := w.drew) (fun _ _ h _ => h)), below_drew hb5⟩; clear hc5 hb5 hm5; obtain ⟨e1, e3, b2, b3, e9, hconv5⟩ := H5.out.1.six H5.out.2.1 HVM.out HLL.out hLm HCK.out HVT.out))
        go_wp2
        go_meet
        case rel => exact ⟨_, rfl, H5.out.1, H5.out.2.1, H5.out.2.2, fun e => ⟨L, HLL.out, hLm, toList_inj (by simpa using e), HCK.out⟩⟩
      · have q1 : (g.ck L != c) = true := by simpa using hck
        have q2 : (g.ck L == c) = false := beq_eq_false_iff_ne.2 hck
        go_quiet (fail)
        go_wp2
        go_meet
        case rel => exact ⟨true, rfl, H.out.1.drewN _, H.out.2.more (fr_drewN _ _ _), below_drewN (Below.refl _ _) _, fun e => by cases e⟩
  case rest =>
    obtain ⟨bb, rfl, hcore, hmsg, hbel, hno⟩ := hcut
    have H1 : Hid (Core B wc g tot ∧ Msg B wc g t ∧ Below B w wc ∧ (bb = false → ∃ j : Nat, g.last = j ∧ j < g.m ∧ g.tx j = t ∧ g.ck j = c)) := ⟨hcore, hmsg, hbel, hno⟩
    clear hcore hmsg hbel hno c1
    go_upto_if 54 with fail
    go_cut [] (fun wx => ∃ (j : Nat) (g1 : G), Core B wx g1 (tot + t.size) ∧ Below B w wx ∧ g1.p = g.p ∧ g1.last = j ∧ g1.np = g.np ∧ g1.of = g.of ∧ g1.ix = g.ix ∧ How g g1 t c j)
    case first =>
      cases bb
      · go_wp2
        go_meet
        case rel =>
          obtain ⟨j, h1, h2, h3, h4⟩ := H1.out.2.2.2 (by simp)
          exact ⟨j, g, H1.out.1.up (Nat.le_add_right _ _) htot, H1.out.2.2.1, rfl, h1, rfl, rfl, rfl, .inl (.mk rfl rfl rfl rfl rfl rfl h2 h3 h4)⟩
      · go_wp2_with fail
        refine (index_any H1.out.1 H1.out.2.1 (htab.keep H1.out.2.2.1 hB) hB hm hn hc htot HL.out hkc).mono ?_
        rintro e w2 ⟨j, g1, rfl, hc1, hb1, hidx⟩
        have HQ : Hid (Core B w2 g1 (tot + t.size) ∧ Below B w w2 ∧ g1.p = g.p ∧ j < g1.m ∧ g1.np = g.np ∧ g1.of = g.of ∧ g1.ix = g.ix ∧ How g { g1 with last := j } t c j) := by
          refine ⟨hc1, H1.out.2.2.1.trans hb1, ?_⟩
          rcases hidx with ⟨h, h1, h2, h3⟩ | ⟨h1, h2, p, m, tx, ck, br, last, kc, np, of, ix, nb⟩
          · subst h
            have hj := Nat.lt_of_lt_of_le h1 H1.out.1.kB
            exact ⟨rfl, hj, rfl, rfl, rfl, .inl (.mk rfl rfl rfl rfl rfl rfl hj h2 h3)⟩
          · exact ⟨p, by rw [m]; omega, np, of, ix, .inr (.mk h1 h2 m tx ck br kc nb)⟩
        have hp := HQ.out.2.2.1
        have y3 := HQ.out.1.pb.c3
        have yf := HQ.out.1.pb.fr 3
        rw [hp] at y3 yf
        clear hc1 hb1 hidx
        go_wp2
        go_meet
        case rel =>
          have h1 := HQ.out.1.lastSet j HQ.out.2.2.2.1
          rw [hp] at h1
          exact ⟨j, { g1 with p := g.p, last := j }, h1.1, HQ.out.2.1.trans h1.2, rfl, rfl, HQ.out.2.2.2.2.1, HQ.out.2.2.2.2.2.1, HQ.out.2.2.2.2.2.2.1, by rcases HQ.out.2.2.2.2.2.2.2 with ⟨m, tx, ck, br, kc, nb, h1, h2, h3⟩ | ⟨h1, h2, m, tx, ck, br, kc, nb⟩; exact .inl (.mk m tx ck br kc nb h1 h2 h3); exact .inr (.mk h1 h2 m tx ck br kc nb)⟩
    case rest =>
      obtain ⟨j, g1, hcore, hbel, hp, hlast, hnp1, hof, hix, how⟩ := hcut
      have H2 : Hid (Core B wc g1 (tot + t.size) ∧ Below B w wc ∧ g1.p = g.p ∧ g1.np = g.np ∧ g1.of = g.of ∧ g1.ix = g.ix ∧ g1.last = j ∧ How g g1 t c j) := ⟨hcore, hbel, hp, hnp1, hof, hix, hlast, how⟩
      have c3 := hcore.pb.c3
      rw [hp, hlast] at c3
      have HC : Hid _ := append_any x j hcore (by rw [hnp1]; exact hnp)
      rw [hp] at HC
      clear hcore hbel hp hlast hnp1 hof hix how
      go_wp2_with fail
      refine Calls.mono HC.out ?_
      rintro e w2 ⟨rfl, vc, hc2, hb2⟩
      have HE : Hid (∃ (j : Nat) (g' : G), Core B w2 g' (tot + t.size) ∧ Below B w w2 ∧ Added g g' x t c j) := by
        have hS := H2.out.2.2
        refine ⟨j, probed g1 vc x j, hc2, H2.out.2.1.trans hb2, ⟨hS.1, hS.2.2.2.2.1, ?_, ?_, ?_, ?_⟩⟩
        · show g1.np + 1 = _; rw [hS.2.1]
        · show upd g1.of g1.np x = _; rw [hS.2.1, hS.2.2.1]
        · show upd g1.ix g1.np j = _; rw [hS.2.1, hS.2.2.2.1]
        · rcases hS.2.2.2.2.2 with ⟨m, tx, ck, br, kc, nb, h1, h2, h3⟩ | ⟨h1, h2, m, tx, ck, br, kc, nb⟩
          · exact .inl (.mk m tx ck br kc nb h1 h2 h3)
          · exact .inr (.mk h1 h2 m tx ck br kc nb)
      clear hc2 hb2 HC
      go_wp2
      go_end0
      obtain ⟨j, g', h1, h2, h3⟩ := HE.out
      exact ⟨j, g', rfl, h1, h2, h3⟩

end Go.Proofs.Qxb6604492aDoor
