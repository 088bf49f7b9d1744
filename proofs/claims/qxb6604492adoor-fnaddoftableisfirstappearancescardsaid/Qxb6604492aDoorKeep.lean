import Derived.Test.Qxb6604492aDoorTurn
import Derived.Test.Qxb6604492aDoorOne
import Derived.Deep.DeepCutAuto
import Derived.Deep.RegionLaw
import Derived.Deep.AppendLies
namespace Go.Proofs.Qxb6604492aDoor
open Go.RowKit
attribute [local go_sem ↓] Go.wp_at_zero Go.wp_at_succ

/-- What 'keep' leaves as it was, before the message itself. -/
structure Same (g g' : G) : Prop where
  p : g'.p = g.p
  vt : g'.vt = g.vt
  m : g'.m = g.m
  tx : g'.tx = g.tx
  ck : g'.ck = g.ck
  br : g'.br = g.br
  last : g'.last = g.last
  kc : g'.kc = g.kc
  np : g'.np = g.np
  of : g'.of = g.of
  ix : g'.ix = g.ix
  nb : g'.nb ≤ g.nb + 1

/-- 'append' at a step of a region that draws its order, whatever is appended (nothing too). -/
theorem step_append_own {P : Program} (w : World) {ops : Array Oper} {o : Oper} {a : Act} {K : Act → World → Prop} {Q : Exit → Act → World → Prop} {E : Prop} (hgd : o.guard = none) (s x : Operand) (t : TypeId)
    (ho : o.op = .call { callee := .builtin .append, args := #[s, x], argTypes := #[t, t] })
    (base : Nat) (e : TypeId) (i : TypeInfo) (z : Value) (size bytes : Nat) (ht : P.underlying t = some (.slice e)) (hi : P.info? e = some i) (hz : i.zero = some z)
    (hsize : i.size = size) (hby : i.bytes = bytes) (hzs : z.cells.size = size) (hsz : 0 < size)
    (v : Value) (n : Nat) (xs : List Value) (hs : a.eval s = v) (hown : w.ownsRow base e size v n xs)
    (ad : Addr) (m c : Nat) (news : List Value) (hx : a.eval x = .slice (some ad) m c) (hl : news.length = m * size) (hnews : ∀ j u, news[j]? = some u → w.cell? (ad.add j) = some u) (h1 : ∀ u ∈ news, u.oneCell' = true)
    (h63 : n + m ≤ maxLen) (hbytes : (n + m) * bytes ≤ 140737488355328) (hbase : base ≤ w.heap.size)
    (h : ∀ v' w', w'.ownsRow base e size v' (n + m) (xs ++ news) → w.grownBy w' v.ownBlock → K (a.put o.dst v') w') :
    if Region.wanted o (yielded ops a.tmps) = true then Oper.wp P o a w K Q else E := by
  have hw : Region.wanted o (yielded ops a.tmps) = true := by simp [Region.wanted, hgd]
  rw [if_pos hw]
  obtain ⟨v', w', hr, h2, h3, _, _⟩ := run_append_own_at (P := P) w base t o.type e i z size bytes ht hi hz hsize hby hzs hsz v n xs hown ad m c news hl hnews h1 h63 hbytes hbase
  unfold Oper.wp execOp
  simp only [ho, resolve, invoke, builtin, Sem.run_bind, Sem.run_pure, Result.andThen_ok, List.map_toArray, List.map_cons, List.map_nil, hs, hx, hr]
  exact h v' w' h2 h3

theorem info67 : (Tryd.prog.info? 67).map (fun i => (i.zero, i.size, i.bytes)) = some (some (.pointer none), 1, 8) := by kernel_rfl
theorem info58 : (Tryd.prog.info? 58).map (fun i => (i.zero, i.size, i.bytes)) = some (some (.agg #[.int .i32 0, .int .i32 0, .int .i32 0, .int .i32 0, .bool false]), 5, 20) := by kernel_rfl

theorem cells_new (w : World) (o : List Value) (e : TypeId) : ∀ j u, o[j]? = some u → (w.alloc (.cells o.toArray e)).cell? ((⟨w.heap.size, 0, none⟩ : Addr).add j) = some u := by
  intro j u hu
  have hadd : (⟨w.heap.size, 0, none⟩ : Addr).add j = ⟨w.heap.size, j, none⟩ := by unfold Addr.add; split <;> simp_all
  rw [hadd, cell_of_row _ w.heap.size j o.toArray e (0, 0) (heap_alloc_new w _)]
  simpa using hu

theorem below_drew {B : Nat} {w w1 : World} (h : Below B w.drew w1) : Below B w w1 := (Below.refl B w).drew.trans h
theorem fr_below {w w1 : World} (h : Below w.heap.size w w1) : Fr (fun _ => False) w w1 := fun j x hj _ => by rw [h.block j (Array.getElem?_eq_some_iff.1 hj).1]; exact hj
theorem row_new {w w1 : World} {B e sz n : Nat} {v : Value} {xs : List Value} (h : w.ownsRow B e sz v n xs) (hb : Below w.heap.size w w1) (o : Obj) : (w1.alloc o).ownsRow B e sz v n xs :=
  (ownsRow_fr h (fr_below hb) (fun _ _ e => e)).alloc o

theorem Same.refl (g : G) : Same g g := ⟨rfl, rfl, rfl, rfl, rfl, rfl, rfl, rfl, rfl, rfl, rfl, Nat.le_succ _⟩

theorem cap_at {B : Nat} {b n c : Nat} {a : Option Addr} {l : List UInt8} (w : World) (h : BA B w b (.slice a n c) l) :
    Calls Tryd.prog 30 #[.pointer (some ⟨b, 0, none⟩)] w fun e w' => e = .returned (.int .i64 c) ∧ w' = w := by
  have c1 := h.c1
  clear h
  go_enter Tryd.func30, Tryd.ntmps30
  go_wp2
  go_ret
  exact ⟨rfl, rfl⟩

theorem BA.more {B : Nat} {w w' : World} {b : Nat} {v : Value} {l : List UInt8} (h : BA B w b v l) (f : Fr (fun _ => False) w w') : BA B w' b v l := h.fr f (fun e => e) (fun _ _ e => e)


/-- What 'keep' leaves. -/
structure Kept (g g' : G) (t : ByteArray) (c : Int) : Prop where
  p : g'.p = g.p
  m : g'.m = g.m + 1
  tx : g'.tx = upd g.tx g.m t
  ck : g'.ck = upd g.ck g.m c
  br : g'.br = upd g.br g.m (brk t)
  last : g'.last = g.last
  kc : g'.kc = g.kc
  np : g'.np = g.np
  of : g'.of = g.of
  ix : g'.ix = g.ix
  nb : g'.nb ≤ g.nb + 1

theorem upd_upd {α : Type} (f : Nat → α) (n : Nat) (x y : α) : upd (upd f n x) n y = upd f n y := by
  funext k
  unfold upd
  split <;> rfl

theorem grown_drew {x w3 : World} {r : Option Nat} (h : x.drew.grownBy w3 r) : x.grownBy w3 r := ⟨h.os, h.tape, h.output, h.size, h.block⟩

theorem ownsRow_set {w : World} {B e sz n r cp k : Nat} {xs : List Value} (h : w.ownsRow B e sz (.slice (some ⟨r, 0, none⟩) n cp) n xs) (x : Value) : (w.setCell ⟨r, k, none⟩ x).ownsRow B e sz (.slice (some ⟨r, 0, none⟩) n cp) n (xs.set k x) := by
  refine ⟨by rw [List.length_set]; exact h.1, ?_⟩
  rcases h.2 with ⟨hv, _⟩ | ⟨g, cap, cur, hv, hb, hg, h1, h2, h3, h4⟩
  · cases hv
  · cases hv
    refine .inr ⟨r, cp, cur.set! k x, rfl, hb, ?_, h1, h2, by simp [h3], ?_⟩
    · simp [World.setCell, Array.getElem?_modify, hg]
    · rw [← h4]
      simp only [Array.set!_eq_setIfInBounds, Array.toList_setIfInBounds]
      rw [List.take_set]

theorem msgs_br (bk st : Nat → Nat) (ck : Nat → Int) (br : Nat → Bool) (n : Nat) (x : Bool) : (msgs bk st ck br (n + 1)).set (n * 5 + 4) (.bool x) = msgs bk st ck (upd br n x) (n + 1) := by
  have hl : (msgs bk st ck br n).length = n * 5 := flat_len _ 5 (fun _ => rfl) n
  have e : msgs bk st ck br n = msgs bk st ck (upd br n x) n := flat_congr _ _ _ (fun i hi => by unfold five; rw [upd_ne _ _ (by omega)])
  rw [msgs_succ, msgs_succ, List.set_append_right _ _ (by rw [hl]; omega), hl, e]
  congr 1
  rw [show n * 5 + 4 - n * 5 = 4 by omega]
  unfold five
  rw [upd_same]
  rfl

/-- A message has been appended, with no text yet. -/
def pushed (g : G) (v : Value) (c : Int) : G := { g with vm := v, m := g.m + 1, bk := upd g.bk g.m (g.nb - 1), st := upd g.st g.m (g.D (g.nb - 1)).length, tx := upd g.tx g.m ⟨#[]⟩, ck := upd g.ck g.m c, br := upd g.br g.m false }

theorem Core.push_at {B : Nat} {w : World} {g : G} {tot : Nat} {w3 : World} {o : Obj} {v' : Value} {c : Int} {am : Option Addr} {cm : Nat} (h : Core B w g tot) (hnb : 0 < g.nb) (hm : g.m < 4096) (hc : 0 ≤ c ∧ c ≤ 4) (hvm : g.vm = .slice am g.m cm)
    (hown : w3.ownsRow B 58 5 v' (g.m + 1) (msgs g.bk g.st g.ck g.br g.m ++ [.int .i32 ((g.nb : Int) - 1), .int .i32 ((g.D (g.nb - 1)).length : Int), .int .i32 (-1), .int .i32 c, .bool false])) (hgrow : (w.alloc o).grownBy w3 (Value.slice am g.m cm).ownBlock) (hl : 0 ≤ g.last ∧ g.last < g.m + 1) :
    Core B (w3.setCell ⟨g.p, 1, none⟩ v') (pushed g v' c) tot ∧ Below B w (w3.setCell ⟨g.p, 1, none⟩ v') ∧ (∀ t, Msg B w g t → Msg B (w3.setCell ⟨g.p, 1, none⟩ v') (pushed g v' c) t) ∧ w3.cell? ⟨g.p, 1, none⟩ = some g.vm ∧ w3.frozen? ⟨g.p, 1, none⟩ = false := by
  rw [show (g.nb : Int) - 1 = ((g.nb - 1 : Nat) : Int) by omega] at hown
  rw [← hvm] at hgrow
  exact h.push hnb hm hc hown hgrow hl

theorem flag_cell {B : Nat} {w : World} {g : G} {tot p m r cp : Nat} (h : Core B w g tot) (hp : g.p = p) (hm : g.m = m + 1) (hv : g.vm = .slice (some ⟨r, 0, none⟩) g.m cp) : w.cell? ⟨p, 1, none⟩ = some (.slice (some ⟨r, 0, none⟩) (m + 1) cp) := by
  rw [← hp, ← hm]
  exact (h.msgAt hv).1

theorem flag_store {B : Nat} {w : World} {g : G} {tot p m r cp : Nat} (h : Core B w g tot) (hp : g.p = p) (hm : g.m = m + 1) (hv : g.vm = .slice (some ⟨r, 0, none⟩) g.m cp) :
    w.cell? ⟨r, m * 5 + 4, none⟩ = some (.bool (g.br m)) ∧ w.frozen? ⟨r, m * 5 + 4, none⟩ = false ∧ ∀ x, (w.setCell ⟨r, m * 5 + 4, none⟩ x).cell? ⟨p, 1, none⟩ = some (.slice (some ⟨r, 0, none⟩) (m + 1) cp) := by
  have hc := (h.msgAt hv).2 m (by omega)
  have hms := h.ms
  rw [hv] at hms
  obtain ⟨cur, hk⟩ := ownsRow_kind hms (g := r) rfl
  refine ⟨hc.2.2.2.2, Lib.frozen_of_heap hk _, fun x => ?_⟩
  have hne : g.p ≠ r := kinds_ne h.pb hk (by decide)
  rw [World.cell?_of_block (w := w)]
  · exact flag_cell h hp hm hv
  · exact Below.heap_setCell _ _ _ _ (by rw [← hp]; exact hne)

/-- The flag of the last message is set. -/
theorem Core.flag {B : Nat} {w : World} {g : G} {tot r cp n : Nat} (h : Core B w g tot) (hm : g.m = n + 1) (hv : g.vm = .slice (some ⟨r, 0, none⟩) g.m cp) (x : Bool) :
    Core B (w.setCell ⟨r, n * 5 + 4, none⟩ (.bool x)) { g with br := upd g.br n x } tot ∧ Below B w (w.setCell ⟨r, n * 5 + 4, none⟩ (.bool x)) := by
  have hms := h.ms
  rw [hv] at hms
  obtain ⟨cur, hk⟩ := ownsRow_kind hms (g := r) rfl
  have f := Fr.setCell w ⟨r, n * 5 + 4, none⟩ (.bool x)
  have o := only_at hk
  have hB : B ≤ r := (hms.lt r rfl).1
  have hbel : Below B w (w.setCell ⟨r, n * 5 + 4, none⟩ (.bool x)) := (Below.refl B w).setCell (p := ⟨r, n * 5 + 4, none⟩) hB _
  refine ⟨{ B0 := Nat.le_trans h.B0 hbel.size, pB := h.pB, pb := f _ _ h.pb (o.ne h.pb (by decide)), ms := ?_, bs := row_keep h.bs f o (by decide), bl := fun k hk => BA_keep (h.bl k hk) f o (by decide) (by decide), ap := h.ap, tab := h.tab, kn := known_keep h.kn f o, ch := chunks_keep h.ch f o (by decide) (by decide), mB := h.mB, nB := h.nB, tB := h.tB, kB := h.kB, cB := h.cB, lB := h.lB }, hbel⟩
  show (w.setCell ⟨r, n * 5 + 4, none⟩ (.bool x)).ownsRow B 58 5 g.vm g.m (msgs g.bk g.st g.ck (upd g.br n x) g.m)
  have h1 := ownsRow_set hms (k := n * 5 + 4) (.bool x)
  rw [hm, msgs_br] at h1
  rw [hv, hm]
  exact h1

set_option maxHeartbeats 4000000 in
set_option maxRecDepth 100000 in
theorem keep_any {B : Nat} {w : World} {g : G} {tot : Nat} {t : ByteArray} {c : Int} (h : Core B w g tot) (ht : Msg B w g t) (htab : TabOk w) (hB : 0 < B) (hm : g.m < 4096) (hn : g.nb ≤ 4096) (hc : 0 ≤ c ∧ c ≤ 4) (htot : tot + t.size ≤ 1048576) (hl : 0 ≤ g.last ∧ g.last < g.m + 1) :
    Calls Tryd.prog 29 #[.pointer (some ⟨g.p, 0, none⟩), g.vt, .int .i64 (-1), .int .i32 c] w fun e w' => e = .returned (.tuple #[]) ∧ ∃ g', Core B w' g' (tot + t.size) ∧ Below B w w' ∧ Kept g g' t c := by
  have H : Hid (Core B w g tot) := h
  have HT : Hid (Msg B w g t) := ht
  have hnb := h.nB
  have c8 := h.pb.c8
  obtain ⟨ab, cb, hvb⟩ := row_val h.bs
  obtain ⟨mb, cap, hvt, _⟩ := ht.val
  rw [hvb] at c8
  rw [hvt]
  have HVT : Hid (g.vt = .slice (some ⟨mb, 0, none⟩) t.size cap) := hvt
  clear h ht
  go_enter Tryd.func29, Tryd.ntmps29
  go_wp2_with fail
  go_cut [40] (fun s40 wx => ∃ bb : Bool, s40 = .bool bb ∧ (bb = false → 0 < g.nb) ∧ Core B wx g tot ∧ Msg B wx g t ∧ Below B w wx)
  case first =>
    by_cases h0 : g.nb = 0
    · have d0 : decide ((g.nb : Int) - 1 < 0) = true := decide_eq_true (by omega)
      have d1 : (g.nb : Int) - 1 < 0 := by omega
      go_quiet (fail)
      go_wp2
      go_meet
      case rel => exact ⟨true, rfl, (fun h => by cases h), H.out.drewN _, HT.out.more (fr_drewN _ _ _), below_drewN (Below.refl _ _) _⟩
    · have d0 : decide ((g.nb : Int) - 1 < 0) = false := decide_eq_false (by omega)
      have d1 : ¬ (g.nb : Int) - 1 < 0 := by omega
      have d2 : (g.nb : Int) - 1 < (g.nb : Int) := by omega
      have d3 : 0 ≤ (g.nb : Int) - 1 := by omega
      have hk : g.nb - 1 < g.nb := by omega
      obtain ⟨rb, cb', hvb', _, c8', hbs⟩ := H.out.blk hk
      rw [hvb] at hvb'
      cases hvb'
      have b0 := hbs _ hk
      have HBA : Hid (BA B w (g.b (g.nb - 1)) (g.v (g.nb - 1)) (g.D (g.nb - 1))) := H.out.bl _ hk
      obtain ⟨aa, cc, hv⟩ := HBA.out.val
      rw [hv] at HBA
      clear hbs c8'
      go_quiet (first | (go_at_call 30; exact Calls.quiet_of_same (cap_at _ (HBA.out.more (fr_drewN _ _ _)))) | (go_at_call 31; exact Calls.quiet_of_same (len_any _ (HBA.out.more (fr_drewN _ _ _)))))
      go_wp2
      go_meet
      case rel => exact ⟨_, rfl, (fun _ => by omega), H.out.drewN _, HT.out.more (fr_drewN _ _ _), below_drewN (Below.refl _ _) _⟩
  case rest =>
    obtain ⟨bb, rfl, hbb, hcore, hmsg, hbel⟩ := hcut
    have H1 : Hid (Core B wc g tot ∧ Msg B wc g t ∧ Below B w wc ∧ (bb = false → 0 < g.nb)) := ⟨hcore, hmsg, hbel, hbb⟩
    clear hcore hmsg hbel hbb c8
    go_upto_if 40 with fail
    go_cut [8] (fun s8 wx => ∃ g1 : G, s8 = .int .i64 ((g1.nb : Int) - 1) ∧ 0 < g1.nb ∧ Core B wx g1 tot ∧ Msg B wx g1 t ∧ Below B w wx ∧ Same g g1)
    case first =>
      cases bb
      · have h0 := H1.out.2.2.2 rfl
        go_wp2
        go_meet
        case rel => exact ⟨g, rfl, h0, H1.out.1, H1.out.2.1, H1.out.2.2.1, Same.refl g⟩
      · obtain ⟨i67, hi, hz0, hz1, hz2⟩ := info_parts info67
        have c8 := H1.out.1.pb.c8
        rw [hvb] at c8
        have hpw := H1.out.1.pb.lt
        have HBS : Hid (wc.ownsRow B 67 1 (.slice ab g.nb cb) g.nb (ptrs g.b g.nb)) := by have := H1.out.1.bs; rw [hvb] at this; exact this
        have ht1 : t.size ≤ 2097152 := by omega
        by_cases h0 : g.nb = 0
        · have d0 : decide (0 ≤ (g.nb : Int) - 1) = false := decide_eq_false (by omega)
          have d1 : ¬ 0 ≤ (g.nb : Int) - 1 := by omega
          have H0 : Hid (g.nb = 0) := h0
          clear h0
          go_wp2_with fail
          go_region_law
            (first
              | (go_simp; go_at_call 32; refine (newBlock_nil t.size wc.drew ht1).mono ?_; rintro e w1 ⟨rfl, ⟨vn, hba⟩, hb1⟩; have HN : Hid (BA wc.heap.size w1 wc.heap.size vn [] ∧ Below wc.heap.size wc w1) := ⟨hba, below_drew hb1⟩; clear hba hb1; have n8 : w1.cell? ⟨g.p, 8, none⟩ = some (.slice ab g.nb cb) := (HN.out.2.cell hpw).trans c8; have hp1 : g.p < w1.heap.size := Nat.lt_of_lt_of_le hpw HN.out.2.size; have HR1 : Hid ((w1.alloc (.cells #[.pointer (some ⟨wc.heap.size, 0, none⟩)] 67)).ownsRow B 67 1 (.slice ab g.nb cb) g.nb (ptrs g.b g.nb)) := row_new HBS.out HN.out.2 _; have HB1 : Hid (B ≤ (w1.alloc (.cells #[.pointer (some ⟨wc.heap.size, 0, none⟩)] 67)).heap.size) := by have a1 := H1.out.1.B0; have a2 := HN.out.2.size; unfold Hid; simp; omega)
              | (refine step_append_own (P := Tryd.prog) (w1.alloc (.cells #[.pointer (some ⟨wc.heap.size, 0, none⟩)] 67)) (by rfl) (.tmp 54) (.tmp 59) 48 (by rfl) B 67 i67 (.pointer none) 1 8 Tryd.underlying48 hi hz0 hz1 hz2 (by rfl) (by decide) (.slice ab g.nb cb) g.nb (ptrs g.b g.nb) (by rfl) HR1.out ⟨w1.heap.size, 0, none⟩ 1 1 [.pointer (some ⟨wc.heap.size, 0, none⟩)] (by rfl) (by rfl) (cells_new w1 [.pointer (some ⟨wc.heap.size, 0, none⟩)] 67) (by simp [Value.oneCell']) (by unfold maxLen; omega) (by omega) HB1.out ?_; intro v3 w3 hown3 hgrow3; obtain ⟨a3, c3, rfl⟩ := row_val hown3; have hgr : (w1.alloc (.cells #[.pointer (some ⟨wc.heap.size, 0, none⟩)] 67)).grownBy w3 g.vb.ownBlock := (congrArg (fun x => World.grownBy (w1.alloc (.cells #[.pointer (some ⟨wc.heap.size, 0, none⟩)] 67)) w3 x.ownBlock) hvb).mpr hgrow3; have HX : Hid _ := H1.out.1.newBlk HN.out.2 HN.out.1 hn hown3 hgr; have y8 := HX.out.2.2.2.1; have yf := HX.out.2.2.2.2; clear hown3 hgrow3 hgr))
          all_goals (go_wp2; go_meet)
          all_goals (case rel => exact ⟨_, by simp, Nat.succ_pos _, HX.out.1, HX.out.2.2.1 t H1.out.2.1, H1.out.2.2.1.trans HX.out.2.1, ⟨rfl, rfl, rfl, rfl, rfl, rfl, rfl, rfl, rfl, rfl, rfl, Nat.le_refl _⟩⟩)
        · have d0 : decide (0 ≤ (g.nb : Int) - 1) = true := decide_eq_true (by omega)
          have d1 : 0 ≤ (g.nb : Int) - 1 := by omega
          have d2 : (g.nb : Int) - 1 < (g.nb : Int) := by omega
          have hk : g.nb - 1 < g.nb := by omega
          obtain ⟨rb, cb', hvb', _, _, hbs⟩ := H1.out.1.blk hk
          rw [hvb] at hvb'
          cases hvb'
          have b0 := hbs _ hk
          have HBA : Hid (BA B wc (g.b (g.nb - 1)) (g.v (g.nb - 1)) (g.D (g.nb - 1))) := H1.out.1.bl _ hk
          clear hbs
          go_wp2_with fail
          go_region_law
            (first
              | (go_simp; go_at_call 32; refine (newBlock_some t.size wc.drew (HBA.out.more (fun _ _ h _ => h)) ht1).mono ?_; rintro e w1 ⟨rfl, ⟨vn, hba⟩, hb1⟩; have HN : Hid (BA wc.heap.size w1 wc.heap.size vn [] ∧ Below wc.heap.size wc w1) := ⟨hba, below_drew hb1⟩; clear hba hb1; have n8 : w1.cell? ⟨g.p, 8, none⟩ = some (.slice (some ⟨rb, 0, none⟩) g.nb cb) := (HN.out.2.cell hpw).trans c8; have hp1 : g.p < w1.heap.size := Nat.lt_of_lt_of_le hpw HN.out.2.size; have HR1 : Hid ((w1.alloc (.cells #[.pointer (some ⟨wc.heap.size, 0, none⟩)] 67)).ownsRow B 67 1 (.slice (some ⟨rb, 0, none⟩) g.nb cb) g.nb (ptrs g.b g.nb)) := row_new HBS.out HN.out.2 _; have HB1 : Hid (B ≤ (w1.alloc (.cells #[.pointer (some ⟨wc.heap.size, 0, none⟩)] 67)).heap.size) := by have a1 := H1.out.1.B0; have a2 := HN.out.2.size; unfold Hid; simp; omega)
              | (refine step_append_own (P := Tryd.prog) (w1.alloc (.cells #[.pointer (some ⟨wc.heap.size, 0, none⟩)] 67)) (by rfl) (.tmp 54) (.tmp 59) 48 (by rfl) B 67 i67 (.pointer none) 1 8 Tryd.underlying48 hi hz0 hz1 hz2 (by rfl) (by decide) (.slice (some ⟨rb, 0, none⟩) g.nb cb) g.nb (ptrs g.b g.nb) (by rfl) HR1.out ⟨w1.heap.size, 0, none⟩ 1 1 [.pointer (some ⟨wc.heap.size, 0, none⟩)] (by rfl) (by rfl) (cells_new w1 [.pointer (some ⟨wc.heap.size, 0, none⟩)] 67) (by simp [Value.oneCell']) (by unfold maxLen; omega) (by omega) HB1.out ?_; intro v3 w3 hown3 hgrow3; obtain ⟨a3, c3, rfl⟩ := row_val hown3; have hgr : (w1.alloc (.cells #[.pointer (some ⟨wc.heap.size, 0, none⟩)] 67)).grownBy w3 g.vb.ownBlock := (congrArg (fun x => World.grownBy (w1.alloc (.cells #[.pointer (some ⟨wc.heap.size, 0, none⟩)] 67)) w3 x.ownBlock) hvb).mpr hgrow3; have HX : Hid _ := H1.out.1.newBlk HN.out.2 HN.out.1 hn hown3 hgr; have y8 := HX.out.2.2.2.1; have yf := HX.out.2.2.2.2; clear hown3 hgrow3 hgr))
          all_goals (go_wp2; go_meet)
          all_goals (case rel => exact ⟨_, by simp, Nat.succ_pos _, HX.out.1, HX.out.2.2.1 t H1.out.2.1, H1.out.2.2.1.trans HX.out.2.1, ⟨rfl, rfl, rfl, rfl, rfl, rfl, rfl, rfl, rfl, rfl, rfl, Nat.le_refl _⟩⟩)
    case rest =>
      obtain ⟨g1, rfl, h0, hcore, hmsg, hbel, hsame⟩ := hcut
      clear H1 hvb hvt HT H
      have hp := hsame.p
      have hm1 : g1.m < 4096 := by rw [hsame.m]; exact hm
      have H2 : Hid (Core B wc g1 tot ∧ Msg B wc g1 t ∧ Below B w wc ∧ Same g g1) := ⟨hcore, hmsg, hbel, hsame⟩
      have HL : Hid (0 ≤ g1.last ∧ g1.last < g1.m + 1) := by rw [hsame.last, hsame.m]; exact hl
      have hvt1 : g1.vt = .slice (some ⟨mb, 0, none⟩) t.size cap := by rw [hsame.vt]; exact HVT.out
      clear hsame hbel hmsg hl
      have hnb1 := hcore.nB
      have hpl := hcore.pb.lt
      obtain ⟨am, cm, hvm⟩ := row_val hcore.ms
      have HVM : Hid (g1.vm = .slice am g1.m cm) := hvm
      have hk : g1.nb - 1 < g1.nb := by omega
      have k0 : 0 ≤ (g1.nb : Int) - 1 := by omega
      have k2 : (1 : Int) ≤ (g1.nb : Int) := by omega
      have k1 : (g1.nb : Int) - 1 < (g1.nb : Int) := by omega
      obtain ⟨rb, cb1, hvb1, hrb, c8, hbs⟩ := hcore.blk hk
      have b0 := hbs _ hk
      have c1 := hcore.pb.c1
      rw [hvm] at c1
      rw [hp] at c8 c1 hpl
      have hdl : (g1.D (g1.nb - 1)).length ≤ 1048576 := Nat.le_trans (hcore.tab.len _ hk) hcore.tB
      have HBA : Hid (BA B wc (g1.b (g1.nb - 1)) (g1.v (g1.nb - 1)) (g1.D (g1.nb - 1))) := hcore.bl _ hk
      have HVB : Hid (g1.vb = .slice (some ⟨rb, 0, none⟩) g1.nb cb1) := hvb1
      clear hbs hvm hvb1 hcore
      obtain ⟨i58, hi, hz0, hz1, hz2⟩ := info_parts info58
      have hca : -2147483648 ≤ c ∧ c ≤ 2147483647 := by omega
      go_upto_region 8 with fail
      go_cut [] (fun wx => ∃ v2 : Value, Core B wx (pushed g1 v2 c) tot ∧ Msg B wx (pushed g1 v2 c) t ∧ Below B w wx)
      case first =>
        have HR1 : Hid ((wc.alloc (.cells #[.int .i32 ((g1.nb : Int) - 1), .int .i32 ((g1.D (g1.nb - 1)).length : Int), .int .i32 (-1), .int .i32 c, .bool false] 58)).drew.ownsRow B 58 5 (.slice am g1.m cm) g1.m (msgs g1.bk g1.st g1.ck g1.br g1.m)) := by have h1 := H2.out.1.ms; rw [HVM.out] at h1; exact h1.alloc _
        have HB1 : Hid (B ≤ (wc.alloc (.cells #[.int .i32 ((g1.nb : Int) - 1), .int .i32 ((g1.D (g1.nb - 1)).length : Int), .int .i32 (-1), .int .i32 c, .bool false] 58)).drew.heap.size) := by have a1 := H2.out.1.B0; show B ≤ (wc.alloc _).heap.size; simp; omega
        have HC1 : Hid (∀ (j : Nat) (u : Value), [.int .i32 ((g1.nb : Int) - 1), .int .i32 ((g1.D (g1.nb - 1)).length : Int), .int .i32 (-1), .int .i32 c, Value.bool false][j]? = some u → (wc.alloc (.cells #[.int .i32 ((g1.nb : Int) - 1), .int .i32 ((g1.D (g1.nb - 1)).length : Int), .int .i32 (-1), .int .i32 c, .bool false] 58)).drew.cell? ((⟨wc.heap.size, 0, none⟩ : Addr).add j) = some u) := cells_new wc [.int .i32 ((g1.nb : Int) - 1), .int .i32 ((g1.D (g1.nb - 1)).length : Int), .int .i32 (-1), .int .i32 c, .bool false] 58
        have hw1 : IntKind.i32.wrap ((g1.nb : Int) - 1) = (g1.nb : Int) - 1 := by rw [IntKind.wrap_i32]; omega
        have hw2 : IntKind.i32.wrap ((g1.D (g1.nb - 1)).length : Int) = ((g1.D (g1.nb - 1)).length : Int) := by rw [IntKind.wrap_i32]; omega
        have hw3 : IntKind.i32.wrap (-1) = -1 := by rw [IntKind.wrap_i32]; omega
        go_region_law
          (first
            | (go_simp; go_at_call 31; refine (len_any wc.drew (HBA.out.more (fun _ _ h _ => h))).mono ?_; rintro e wz ⟨rfl, hww⟩; obtain rfl := hww.symm; clear hww)
            | (refine step_append_own (P := Tryd.prog) (wc.alloc (.cells #[.int .i32 ((g1.nb : Int) - 1), .int .i32 ((g1.D (g1.nb - 1)).length : Int), .int .i32 (-1), .int .i32 c, .bool false] 58)).drew (by rfl) (.tmp 75) (.tmp 91) 45 (by rfl) B 58 i58 (.agg #[.int .i32 0, .int .i32 0, .int .i32 0, .int .i32 0, .bool false]) 5 20 Tryd.underlying45 hi hz0 hz1 hz2 (by rfl) (by decide) (.slice am g1.m cm) g1.m (msgs g1.bk g1.st g1.ck g1.br g1.m) (by rfl) HR1.out ⟨wc.heap.size, 0, none⟩ 1 1 [.int .i32 ((g1.nb : Int) - 1), .int .i32 ((g1.D (g1.nb - 1)).length : Int), .int .i32 (-1), .int .i32 c, .bool false] (by rfl) (by rfl) HC1.out (by simp [Value.oneCell']) (by unfold maxLen; omega) (by omega) HB1.out ?_; intro v3 w3 hown3 hgrow3; obtain ⟨a3, c3, rfl⟩ := row_val hown3; have HX : Hid _ := Core.push_at H2.out.1 h0 hm1 hc HVM.out hown3 (grown_drew hgrow3) HL.out; have y1 : w3.cell? ⟨g.p, 1, none⟩ = some g1.vm := hp ▸ HX.out.2.2.2.1; have yf : w3.frozen? ⟨g.p, 1, none⟩ = false := hp ▸ HX.out.2.2.2.2; clear hown3 hgrow3))
        all_goals (go_wp2; go_meet)
        all_goals (case rel => rw [← hp]; exact ⟨_, HX.out.1, HX.out.2.2.1 t H2.out.2.1, H2.out.2.2.1.trans HX.out.2.1⟩)
      case rest =>
        obtain ⟨v2, hcore, hmsg, hbel⟩ := hcut
        obtain ⟨mb', cap', hv', hcells⟩ := hmsg.val
        have hee : Value.slice (some ⟨mb, 0, none⟩) t.size cap = Value.slice (some ⟨mb', 0, none⟩) t.size cap' := hvt1.symm.trans hv'
        cases hee
        have hlen : t.data.toList.length = t.size := by rw [Array.length_toList]; rfl
        have H3 : Hid (Core B wc (pushed g1 v2 c) tot ∧ Below B w wc) := ⟨hcore, hbel⟩
        have HW : Hid (Calls Tryd.prog 33 #[.pointer (some ⟨g1.b (g1.nb - 1), 0, none⟩), .slice (some ⟨mb, 0, none⟩) t.size cap] wc fun e w' => ∃ v', BA B w' (g1.b (g1.nb - 1)) v' (g1.D (g1.nb - 1) ++ t.data.toList) ∧ Fr (fun j => j = g1.b (g1.nb - 1) ∨ (g1.v (g1.nb - 1)).ownBlock = some j) wc w' ∧ (∀ r, v'.ownBlock = some r → (g1.v (g1.nb - 1)).ownBlock = some r ∨ wc.heap.size ≤ r) ∧ Below B wc w' ∧ e = .returned (.tuple #[.int .i64 t.size, .nilIface])) := by
          have h1 := write_any (c := cap) wc (hcore.bl (g1.nb - 1) hk) hcore.B0 (by rw [hlen]; show (g1.D (g1.nb - 1)).length + t.size ≤ 2097152; omega) hcells
          rw [hlen] at h1
          exact h1
        have d8 : wc.cell? ⟨g.p, 8, none⟩ = some (.slice (some ⟨rb, 0, none⟩) g1.nb cb1) := hp ▸ (hcore.blkAt (r := rb) (c := cb1) HVB.out).1
        have db : wc.cell? ⟨rb, g1.nb - 1, none⟩ = some (.pointer (some ⟨g1.b (g1.nb - 1), 0, none⟩)) := (hcore.blkAt (r := rb) (c := cb1) HVB.out).2 _ hk
        have HKC : Hid (g1.kc ≤ g1.m) := H2.out.1.kB
        clear hcore hmsg hbel hcells hv' c8 b0 c1 hrb hpl HBA hlen
        go_wp2_with fail
        refine HW.out.mono ?_
        rintro e w2 ⟨v', hba, hfr, hvv, hb2, rfl⟩
        obtain ⟨g3, hg3⟩ : ∃ g3 : G, g3 = { pushed g1 v2 c with v := upd g1.v (g1.nb - 1) v', D := upd g1.D (g1.nb - 1) (g1.D (g1.nb - 1) ++ t.data.toList), tx := upd (pushed g1 v2 c).tx g1.m t } := ⟨_, rfl⟩
        have H4 : Hid (Core B w2 g3 (tot + t.size) ∧ Below B w w2) := by
          rw [hg3]
          exact ⟨H3.out.1.wrote (n := g1.m) rfl h0 (upd_same _ _ _) (upd_same _ _ _) htot HKC.out hba hfr hvv hb2.size, H3.out.2.trans hb2⟩
        have HG : Hid (g3.p = g.p ∧ g3.m = g1.m + 1 ∧ g3.tx g1.m = t ∧ Kept g { g3 with br := upd g3.br g1.m (brk t) } t c) := by
          have hS := H2.out.2.2.2
          rw [hg3]
          refine ⟨hp, rfl, upd_same _ _ _, ⟨hp, by show g1.m + 1 = _; rw [hS.m], ?_, ?_, ?_, hS.last, hS.kc, hS.np, hS.of, hS.ix, hS.nb⟩⟩
          · show upd (upd g1.tx g1.m _) g1.m t = _
            rw [upd_upd, hS.tx, hS.m]
          · show upd g1.ck g1.m c = _
            rw [hS.ck, hS.m]
          · show upd (upd g1.br g1.m _) g1.m _ = _
            rw [upd_upd, hS.br, hS.m]
        clear hg3 hba hfr hvv hb2 HW d8 db H3 H2 HVB HVM HKC
        have hg1 := HG.out.1
        have hg2 := HG.out.2.1
        obtain ⟨r, cp, hvm, hrl, e1, hcs, hfz⟩ := H4.out.1.msg (i := g1.m) (by omega)
        rw [hg1, hg2] at e1
        have HV3 : Hid (g3.vm = .slice (some ⟨r, 0, none⟩) g3.m cp) := hvm
        have HTX : Hid (Calls Tryd.prog 23 #[.pointer (some ⟨g.p, 0, none⟩), .int .i32 g1.m] w2.drew fun e w' => e = .returned (.string t) ∧ Core B w' g3 (tot + t.size) ∧ Below B w w') := by
          have h1 := text_any H4.out.1.drew g1.m (by omega)
          rw [hg1, HG.out.2.2.1] at h1
          exact h1.mono fun e w' ⟨a, b, c, _⟩ => ⟨a, b, H4.out.2.drew.trans c⟩
        have m1 : (g1.m : Int) < (g1.m : Int) + 1 := by omega
        clear hvm hcs hfz hrl hg1 hg2
        go_wp2_with fail
        go_region_held3 (fun w' => w'.cell? ⟨g.p, 1, none⟩ = some (.slice (some ⟨r, 0, none⟩) (g1.m + 1) cp))
          (first | with_reducible assumption | (rw [cell_drew]; with_reducible assumption) | exact kx _)
          (first
            | (go_at_call 23; refine HTX.out.mono ?_; rintro e w5 ⟨rfl, hc5, hb5⟩; have H5 : Hid (Core B w5 g3 (tot + t.size) ∧ Below B w w5) := ⟨hc5, hb5⟩; clear hc5 hb5; have e5 : w5.cell? ⟨g.p, 1, none⟩ = some (.slice (some ⟨r, 0, none⟩) (g1.m + 1) cp) := flag_cell H5.out.1 HG.out.1 HG.out.2.1 HV3.out)
            | (go_at_call 34; refine (one_any t w5 (htab.keep H5.out.2 hB)).mono ?_; rintro e w6 ⟨rfl, hb6⟩; have H6 : Hid (Core B w6 g3 (tot + t.size) ∧ Below B w w6) := ⟨H5.out.1.more (fr_below hb6) hb6.size, H5.out.2.trans (hb6.mono H5.out.1.B0)⟩; clear hb6; have e6 : w6.cell? ⟨g.p, 1, none⟩ = some (.slice (some ⟨r, 0, none⟩) (g1.m + 1) cp) := flag_cell H6.out.1 HG.out.1 HG.out.2.1 HV3.out; obtain ⟨q4, f4, kx⟩ := flag_store H6.out.1 HG.out.1 HG.out.2.1 HV3.out))
        go_end0
        have h1 := H6.out.1.flag HG.out.2.1 HV3.out (brk t)
        exact ⟨rfl, _, h1.1, H6.out.2.trans h1.2, HG.out.2.2.2⟩

end Go.Proofs.Qxb6604492aDoor
