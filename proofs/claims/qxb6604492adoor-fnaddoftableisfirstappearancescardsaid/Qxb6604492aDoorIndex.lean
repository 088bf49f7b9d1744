import Derived.Test.Qxb6604492aDoorKeep
import Derived.WalkSpells
namespace Go.Proofs.Qxb6604492aDoor
open Go.RowKit
attribute [local go_sem ↓] Go.wp_at_zero Go.wp_at_succ

theorem eq46 (w : World) (r : Option Nat) : (binOp .eql 46 (.map r) (.map none)).run Tryd.prog w = .ok (.bool r.isNone) w := run_eql_map_nil w 46 76 21 r Tryd.underlying46
attribute [local go_sem] eq46

theorem Tab.up {m : Nat} {bk st : Nat → Nat} {tx : Nat → ByteArray} {nb : Nat} {D : Nat → List UInt8} {tot tot' : Nat} (h : Tab m bk st tx nb D tot) (ht : tot ≤ tot') : Tab m bk st tx nb D tot' :=
  ⟨h.lo, h.mono, h.rng, h.sub, fun k hk => Nat.le_trans (h.len k hk) ht⟩
theorem Core.up {B : Nat} {w : World} {g : G} {tot tot' : Nat} (h : Core B w g tot) (ht : tot ≤ tot') (hb : tot' ≤ 1048576) : Core B w g tot' :=
  { B0 := h.B0, pB := h.pB, pb := h.pb, ms := h.ms, bs := h.bs, bl := h.bl, ap := h.ap, tab := h.tab.up ht, kn := h.kn, ch := h.ch, mB := h.mB, nB := h.nB, tB := hb, kB := h.kB, cB := h.cB, lB := h.lB }

/-- A kept text is no longer than a block. -/
theorem Core.txsize {B : Nat} {w : World} {g : G} {tot : Nat} (h : Core B w g tot) {i : Nat} (hi : i < g.m) : (g.tx i).size ≤ 1048576 := by
  rw [← h.tab.sub i hi]
  have h1 := h.tab.len _ (h.tab.lo i hi)
  have h2 := h.tB
  have h3 := (h.tab.rng i hi).2
  simp [ByteArray.size_extract]
  omega

theorem wf_small {c : Int} (h : 0 ≤ c ∧ c ≤ 4) : (Lit.int .i32 c).wf = true := by
  have : c = 0 ∨ c = 1 ∨ c = 2 ∨ c = 3 ∨ c = 4 := by omega
  rcases this with rfl | rfl | rfl | rfl | rfl <;> decide

/-- The map takes the next entry. -/
theorem Core.put {B : Nat} {w : World} {g : G} {tot kb : Nat} (h : Core B w g tot) (hv : g.vk = .map (some kb)) (hk : g.kc < g.m) (hn : ∀ i, i < g.kc → ¬ (g.tx i = g.tx g.kc ∧ g.ck i = g.ck g.kc)) :
    ∃ w', (Instr.mapUpdate 46 (.map (some kb)) (keyV (g.tx g.kc) (g.ck g.kc)) (.int .i32 g.kc)).run Tryd.prog w = .ok () w' ∧ Core B w' { g with kc := g.kc + 1 } tot ∧ Below B w w' ∧ w'.cell? ⟨g.p, 2, none⟩ = some (.map (some kb)) := by
  obtain ⟨kb', hv', hB, hm⟩ : ∃ kb', g.vk = .map (some kb') ∧ B ≤ kb' ∧ MapOf w kb' g.kc g.tx g.ck := by
    rcases h.kn with ⟨h0, _⟩ | h0
    · rw [hv] at h0; cases h0
    · exact h0
  rw [hv] at hv'
  cases hv'
  have hmax : ∀ i, i < g.m → (g.tx i).size ≤ maxLen := fun i hi => by have := h.txsize hi; unfold maxLen; omega
  obtain ⟨w', hr, hm', hg⟩ := hm.put (fun i hi => hmax i (by omega)) (fun i hi => wf_small (h.cB i (by omega))) (hmax _ hk) (wf_small (h.cB _ hk)) hn
  have f : Fr (fun j => some kb = some j) w w' := Fr.grown hg
  obtain ⟨es, clock, hkb, _⟩ := hm
  have hne : ∀ {j : Nat} {c : Array Value} {t : TypeId} {fz : Nat × Nat}, w.heap[j]? = some (.cells c t fz) → ¬ (some kb = some j) := by
    intro j c t fz hj e
    cases e
    rw [hkb] at hj
    cases hj
  have hrow : ∀ {e sz n : Nat} {v : Value} {xs : List Value}, w.ownsRow B e sz v n xs → w'.ownsRow B e sz v n xs := fun {e sz n v xs} hr => ownsRow_fr hr f (fun r hr' => by obtain ⟨cur, hk'⟩ := ownsRow_kind hr hr'; exact hne hk')
  have hp : PB w' g.p g.vc g.vm g.vk g.last g.vb g.vt g.vx := f _ _ h.pb (hne h.pb)
  refine ⟨w', hr, { B0 := Nat.le_trans h.B0 hg.size, pB := h.pB, pb := hp, ms := hrow h.ms, bs := hrow h.bs, bl := fun k hk' => ?_, ap := h.ap, tab := h.tab, kn := .inr ⟨kb, hv, hB, hm'⟩, ch := ?_, mB := h.mB, nB := h.nB, tB := h.tB, kB := hk, cB := h.cB, lB := h.lB }, below_grown hg h.B0 (fun k e => by cases e; exact hB), by rw [hp.c2, hv]⟩
  · have hb := h.bl k hk'
    exact hb.fr f (hne hb.bk) (fun r hr' => by obtain ⟨cur, fz, hk2⟩ := ownsRowF_kind hb.own hr'; exact hne hk2)
  · rcases h.ch with h0 | ⟨v1, h1, h2⟩
    · exact .inl h0
    · exact .inr ⟨v1, hrow h1, hrow h2⟩

/-- p.known = map[messageKey]int32{}. -/
theorem Core.mapped {B : Nat} {w : World} {g : G} {tot : Nat} (h : Core B w g tot) (hk : g.kc = 0) :
    Core B ((w.setCell ⟨g.p, 2, none⟩ (.map (some w.heap.size))).alloc (.map #[] 0)) { g with vk := .map (some w.heap.size) } tot ∧ Below B w ((w.setCell ⟨g.p, 2, none⟩ (.map (some w.heap.size))).alloc (.map #[] 0)) := by
  have p0 := h.pb.set2 (.map (some w.heap.size))
  have hs : (w.setCell ⟨g.p, 2, none⟩ (.map (some w.heap.size))).heap.size = w.heap.size := by simp [World.setCell]
  have f : Fr (fun j => j = g.p ∨ False) w ((w.setCell ⟨g.p, 2, none⟩ (.map (some w.heap.size))).alloc (.map #[] 0)) := (Fr.setCell w ⟨g.p, 2, none⟩ _).trans (Fr.alloc _ _)
  have o : Only [52] w (fun j => j = g.p ∨ False) := by
    intro j hj
    rcases hj with hj | hj
    · subst hj; exact ⟨_, _, _, h.pb, by simp⟩
    · exact hj.elim
  have hbel : Below B w ((w.setCell ⟨g.p, 2, none⟩ (.map (some w.heap.size))).alloc (.map #[] 0)) := ((Below.refl B w).setCell (p := ⟨g.p, 2, none⟩) h.pB _).alloc (by rw [hs]; exact h.B0) _
  refine ⟨{ B0 := Nat.le_trans h.B0 hbel.size, pB := h.pB, pb := Fr.alloc _ _ _ _ p0 (fun e => e), ms := row_keep h.ms f o (by decide), bs := row_keep h.bs f o (by decide), bl := fun k hk => BA_keep (h.bl k hk) f o (by decide) (by decide), ap := h.ap, tab := h.tab, kn := .inr ⟨w.heap.size, rfl, h.B0, ?_⟩, ch := chunks_keep h.ch f o (by decide) (by decide), mB := h.mB, nB := h.nB, tB := h.tB, kB := h.kB, cB := h.cB, lB := h.lB }, hbel⟩
  show MapOf _ w.heap.size g.kc g.tx g.ck
  have h1 := MapOf.made (w.setCell ⟨g.p, 2, none⟩ (.map (some w.heap.size))) g.tx g.ck
  rw [hs] at h1
  rw [hk]
  exact h1

/-- What stands ahead of the map's new entry. -/
structure Ahead (B : Nat) (w wk : World) (g g2 : G) (tot kb : Nat) (t : ByteArray) (c : Int) : Prop where
  core : Core B wk g2 tot
  bel : Below B w wk
  p : g2.p = g.p
  m : g2.m = g.m + 1
  tx : g2.tx = upd g.tx g.m t
  ck : g2.ck = upd g.ck g.m c
  kc : g2.kc = g.m
  vk : g2.vk = .map (some kb)
  no : ∀ i, i < g.m → ¬ (g.tx i = t ∧ g.ck i = c)

theorem Ahead.text {B : Nat} {w wk : World} {g g2 : G} {tot kb : Nat} {t : ByteArray} {c : Int} (h : Ahead B w wk g g2 tot kb t c) :
    Calls Tryd.prog 23 #[.pointer (some ⟨g.p, 0, none⟩), .int .i32 g.m] wk.drew fun e w' => e = .returned (.string t) ∧ Ahead B w w' g g2 tot kb t c := by
  have h1 := text_any h.core.drew g.m (by rw [h.m]; omega)
  rw [h.p, h.tx, upd_same] at h1
  exact h1.mono fun e w' ⟨a, b, d, _⟩ => ⟨a, { h with core := b, bel := h.bel.drew.trans d }⟩

theorem Ahead.c2 {B : Nat} {w wk : World} {g g2 : G} {tot kb : Nat} {t : ByteArray} {c : Int} (h : Ahead B w wk g g2 tot kb t c) : wk.cell? ⟨g.p, 2, none⟩ = some (.map (some kb)) := by
  have h1 := h.core.pb.c2
  rw [h.p, h.vk] at h1
  exact h1

theorem Ahead.put {B : Nat} {w wk : World} {g g2 : G} {tot kb : Nat} {t : ByteArray} {c : Int} (h : Ahead B w wk g g2 tot kb t c) :
    ∃ w', (Instr.mapUpdate 46 (.map (some kb)) (.agg #[.string t, .int .i32 (-1), .int .i32 c]) (.int .i32 (g.m : Nat))).run Tryd.prog wk = .ok () w' ∧ Core B w' { g2 with kc := g.m + 1 } tot ∧ Below B w w' ∧ w'.cell? ⟨g.p, 2, none⟩ = some (.map (some kb)) := by
  have hne : ∀ i, i < g.m → g2.tx i = g.tx i ∧ g2.ck i = g.ck i := fun i hi => by rw [h.tx, h.ck, upd_ne _ _ (by omega), upd_ne _ _ (by omega)]; exact ⟨rfl, rfl⟩
  have e1 : g2.tx g2.kc = t := by rw [h.kc, h.tx, upd_same]
  have e2 : g2.ck g2.kc = c := by rw [h.kc, h.ck, upd_same]
  obtain ⟨w', hr, hc, hb, hp⟩ := h.core.put h.vk (by rw [h.kc, h.m]; omega) (fun i hi => by
    rw [e1, e2]
    rw [h.kc] at hi
    rw [(hne i hi).1, (hne i hi).2]
    exact h.no i hi)
  rw [e1, e2, h.kc] at hr
  rw [h.kc] at hc
  rw [h.p] at hp
  exact ⟨w', hr, hc, h.bel.trans hb, hp⟩

/-- The message was known. -/
structure IdxOld (g g' : G) (t : ByteArray) (c : Int) (j : Nat) : Prop where
  h : g' = g
  h1 : j < g.kc
  h2 : g.tx j = t
  h3 : g.ck j = c

/-- The message is new. -/
structure IdxNew (g g' : G) (t : ByteArray) (c : Int) (j : Nat) : Prop where
  h1 : ∀ i, i < g.kc → ¬ (g.tx i = t ∧ g.ck i = c)
  h2 : j = g.m
  p : g'.p = g.p
  m : g'.m = g.m + 1
  tx : g'.tx = upd g.tx g.m t
  ck : g'.ck = upd g.ck g.m c
  br : g'.br = upd g.br g.m (brk t)
  last : g'.last = g.last
  kc : g'.kc = if g.kc < 1024 then g.kc + 1 else g.kc
  np : g'.np = g.np
  of : g'.of = g.of
  ix : g'.ix = g.ix
  nb : g'.nb ≤ g.nb + 1

/-- What 'index' leaves. -/
def Idx (g g' : G) (t : ByteArray) (c : Int) (j : Nat) : Prop := IdxOld g g' t c j ∨ IdxNew g g' t c j

theorem conv_back {B : Nat} {w : World} {g : G} {t : ByteArray} {mb cap : Nat} (hv : g.vt = .slice (some ⟨mb, 0, none⟩) t.size cap) (h : Msg B w g t) : (convert 40 9 (.slice (some ⟨mb, 0, none⟩) t.size cap)).run Tryd.prog w = .ok (.string t) w := by
  obtain ⟨mb', cap', hv', hc⟩ := h.val
  rw [hv] at hv'
  cases hv'
  have hl : t.data.toList.length = t.size := by rw [Array.length_toList]; rfl
  have h1 := run_convert_bytes_back (P := Tryd.prog) w 40 9 5 ⟨mb, 0, none⟩ cap t.data.toList Tryd.underlying40 Tryd.underlying5 Tryd.underlying9 (fun j hj => hc j _ (by rw [Lib.byteCells, List.getElem?_map, List.getElem?_eq_getElem hj]; rfl))
  rw [hl] at h1
  simpa using h1

theorem Core.look {B : Nat} {w : World} {g : G} {tot : Nat} {t : ByteArray} {c : Int} (h : Core B w g tot) (ht : t.size ≤ 1048576) (hc : 0 ≤ c ∧ c ≤ 4) :
    ((Instr.lookup 46 g.vk (.agg #[.string t, .int .i32 (-1), .int .i32 c]) true).run Tryd.prog w = .ok (.tuple #[.int .i32 0, .bool false]) w ∧ ∀ i, i < g.kc → ¬ (g.tx i = t ∧ g.ck i = c)) ∨
    ∃ j : Nat, j < g.kc ∧ g.tx j = t ∧ g.ck j = c ∧ (Instr.lookup 46 g.vk (.agg #[.string t, .int .i32 (-1), .int .i32 c]) true).run Tryd.prog w = .ok (.tuple #[.int .i32 j, .bool true]) w := by
  have h1 : t.size ≤ maxLen := by unfold maxLen; omega
  rcases h.kn with ⟨h0, hk⟩ | ⟨kb, hv, _, hm⟩
  · rw [h0]
    exact .inl ⟨look_nil46 w t c h1 (wf_small hc), fun i hi => by omega⟩
  · rw [hv]
    exact hm.look (fun i hi => by have := h.txsize (Nat.lt_of_lt_of_le hi h.kB); unfold maxLen; omega) (fun i hi => wf_small (h.cB i (Nat.lt_of_lt_of_le hi h.kB))) t c h1 (wf_small hc)

set_option maxHeartbeats 4000000 in
set_option maxRecDepth 100000 in
theorem index_any {B : Nat} {w : World} {g : G} {tot : Nat} {t : ByteArray} {c : Int} (h : Core B w g tot) (ht : Msg B w g t) (htab : TabOk w) (hB : 0 < B) (hm : g.m < 4096) (hn : g.nb ≤ 4096) (hc : 0 ≤ c ∧ c ≤ 4) (htot : tot + t.size ≤ 1048576) (hl : 0 ≤ g.last ∧ g.last < g.m + 1) (hkc : g.kc < 1024 → g.kc = g.m) :
    Calls Tryd.prog 27 #[.pointer (some ⟨g.p, 0, none⟩), .int .i64 (-1), .int .i32 c] w fun e w' => ∃ (j : Nat) (g' : G), e = .returned (.int .i32 j) ∧ Core B w' g' (tot + t.size) ∧ Below B w w' ∧ Idx g g' t c j := by
  have H : Hid (Core B w g tot ∧ Msg B w g t) := ⟨h, ht⟩
  have c2 := h.pb.c2
  have c9 := h.pb.c9
  obtain ⟨mb, cap, hvt, _⟩ := ht.val
  rw [hvt] at c9
  have hconv := conv_back hvt (ht.more (w' := w.drew) (fun _ _ h _ => h))
  have HVT : Hid (g.vt = .slice (some ⟨mb, 0, none⟩) t.size cap) := hvt
  have hw3 : IntKind.i32.wrap (-1) = -1 := by rw [IntKind.wrap_i32]; omega
  have hlk := h.drew.look (t := t) (c := c) (by omega) hc
  clear h ht hvt
  rcases hlk with ⟨hlook, hno⟩ | ⟨j, hj, htx, hck, hlook⟩
  · have HNO : Hid (∀ i, i < g.kc → ¬ (g.tx i = t ∧ g.ck i = c)) := hno
    clear hno
    go_enter Tryd.func27, Tryd.ntmps27
    go_wp2_with fail
    go_region_held3 (fun w' => w'.cell? ⟨g.p, 2, none⟩ = some g.vk ∧ w'.cell? ⟨g.p, 9, none⟩ = some (.slice (some ⟨mb, 0, none⟩) t.size cap) ∧ (convert 40 9 (.slice (some ⟨mb, 0, none⟩) t.size cap)).run Tryd.prog w' = .ok (.string t) w')
      (first | exact ⟨by first | with_reducible assumption | (rw [cell_drew]; with_reducible assumption), by first | with_reducible assumption | (rw [cell_drew]; with_reducible assumption), by with_reducible assumption⟩)
      (fail)
    clear hlook hconv
    rename_i hheld
    clear hheld
    have HK : Hid _ := keep_any (c := c) H.out.1.drew (H.out.2.more (w' := w.drew) (fun _ _ h _ => h)) (htab.keep (w' := w.drew) ((Below.refl _ _).drew) hB) hB hm hn hc htot hl
    rw [HVT.out] at HK
    obtain ⟨am, cm, hvm⟩ := row_val H.out.1.ms
    have c1 := H.out.1.pb.c1
    rw [hvm] at c1
    clear hvm
    go_wp2_with fail
    refine Calls.mono HK.out ?_
    rintro e w2 ⟨rfl, g1, hcore, hbel, hkept⟩
    have H1 : Hid (Core B w2 g1 (tot + t.size) ∧ Below B w w2 ∧ Kept g g1 t c) := ⟨hcore, below_drew hbel, hkept⟩
    have hp := hkept.p
    have d2 := hcore.pb.c2
    rw [hp] at d2
    have hk1 : g1.kc = g.kc := hkept.kc
    clear hcore hbel hkept HK c1 c2 c9
    have hb3 : g.m < 2147483648 := by omega
    by_cases hk : g.kc < 1024
    · have hkm := hkc hk
      have HKM : Hid (g.kc = g.m) := hkm
      have hm0 : g.m < 1024 := by omega
      rcases H1.out.1.kn with ⟨hv, hz⟩ | ⟨kb, hv, hBk, hmap⟩
      · rw [hv] at d2
        have hz0 : g1.kc = 0 := hz
        have hlen := len_nil46 w2
        have hmk := makeMap46
        have f2 : w2.frozen? ⟨g.p, 2, none⟩ = false := by rw [← hp]; exact H1.out.1.pb.fr 2
        have hpl2 : g.p < w2.heap.size := by rw [← hp]; exact H1.out.1.pb.lt
        clear hz hv
        go_wp2_with fail
        have HMP : Hid _ := H1.out.1.mapped hz0
        obtain ⟨wk, hwk⟩ : ∃ wk, wk = (w2.setCell ⟨g.p, 2, none⟩ (.map (some w2.heap.size))).alloc (.map #[] 0) := ⟨_, rfl⟩
        rw [hp, ← hwk] at HMP
        rw [← hwk]
        obtain ⟨kb, hkb⟩ : ∃ kb, kb = w2.heap.size := ⟨_, rfl⟩
        rw [← hkb] at HMP
        obtain ⟨g2, hg2⟩ : ∃ g2 : G, g2 = { g1 with p := g.p, vk := .map (some kb) } := ⟨_, rfl⟩
        rw [← hg2] at HMP
        have HA : Hid (Ahead B w wk g g2 (tot + t.size) kb t c) := by
          have hS := H1.out.2.2
          refine ⟨HMP.out.1, H1.out.2.1.trans HMP.out.2, ?_, ?_, ?_, ?_, ?_, ?_, fun i hi => HNO.out i (by omega)⟩
          · rw [hg2]
          · rw [hg2]; exact hS.m
          · rw [hg2]; exact hS.tx
          · rw [hg2]; exact hS.ck
          · rw [hg2]; show g1.kc = g.m; rw [hk1, hkm]
          · rw [hg2]
        have HG2 : Hid (g2 = { g1 with p := g.p, vk := .map (some kb) }) := hg2
        clear hg2 hwk hkb HMP d2 hlen hmk f2 hpl2 hz0 hkc hk1
        have x2 := HA.out.c2
        have HTX : Hid _ := HA.out.text
        go_region_held3 (fun w' => w'.cell? ⟨g.p, 2, none⟩ = some (.map (some kb)))
          (first | with_reducible assumption | (rw [cell_drew]; with_reducible assumption))
          ((go_at_call 23; refine Calls.mono HTX.out ?_; rintro e w5 ⟨rfl, ha5⟩; have HA5 : Hid (Ahead B w w5 g g2 (tot + t.size) kb t c) := ha5; clear ha5; have x5 := HA5.out.c2; obtain ⟨w6, hrun, hc6, hb6, x6⟩ := HA5.out.put; have H6 : Hid (Core B w6 { g2 with kc := g.m + 1 } (tot + t.size) ∧ Below B w w6) := ⟨hc6, hb6⟩; clear hc6 hb6))
        go_wp2
        go_ret
        have hS := H1.out.2.2
        rw [HG2.out] at H6
        exact ⟨g.m, _, rfl, H6.out.1, H6.out.2, .inr (.mk HNO.out rfl rfl hS.m hS.tx hS.ck hS.br hS.last (by rw [if_pos hk, hkm]) hS.np hS.of hS.ix hS.nb)⟩
      · rw [hv] at d2
        have hlen := hmap.len
        rw [hk1, hkm] at hlen
        have HA : Hid (Ahead B w w2 g g1 (tot + t.size) kb t c) := ⟨H1.out.1, H1.out.2.1, hp, H1.out.2.2.m, H1.out.2.2.tx, H1.out.2.2.ck, by rw [hk1, hkm], hv, fun i hi => HNO.out i (by omega)⟩
        have hm0' : (g.m : Int) < 1024 := by omega
        have HV : Hid (g1.vk = .map (some kb)) := hv
        clear hv hmap hBk hkc hk1
        go_wp2_with fail
        have x2 := HA.out.c2
        have HTX : Hid _ := HA.out.text
        go_region_held3 (fun w' => w'.cell? ⟨g.p, 2, none⟩ = some (.map (some kb)))
          (first | with_reducible assumption | (rw [cell_drew]; with_reducible assumption))
          ((go_at_call 23; refine Calls.mono HTX.out ?_; rintro e w5 ⟨rfl, ha5⟩; have HA5 : Hid (Ahead B w w5 g g1 (tot + t.size) kb t c) := ha5; clear ha5; have x5 := HA5.out.c2; obtain ⟨w6, hrun, hc6, hb6, x6⟩ := HA5.out.put; have H6 : Hid (Core B w6 { g1 with kc := g.m + 1 } (tot + t.size) ∧ Below B w w6) := ⟨hc6, hb6⟩; clear hc6 hb6))
        go_wp2
        go_ret
        have hS := H1.out.2.2
        exact ⟨g.m, _, rfl, H6.out.1, H6.out.2, .inr (.mk HNO.out rfl hS.p hS.m hS.tx hS.ck hS.br hS.last (by rw [if_pos hk, hkm]) hS.np hS.of hS.ix hS.nb)⟩
    · have hlen : (Builtin.len_ #[46] 3 #[g1.vk]).run Tryd.prog w2 = .ok (.int .i64 g.kc) w2 := by
        rcases H1.out.1.kn with ⟨hv, hz⟩ | ⟨kb, hv, _, hmap⟩
        · omega
        · rw [hv, ← hk1]
          exact hmap.len
      have hk' : ¬ (g.kc : Int) < 1024 := by omega
      have HK2 : Hid (¬ g.kc < 1024 ∧ g1.kc = g.kc) := ⟨hk, hk1⟩
      clear hk hk1 hkc
      go_wp2
      go_ret
      have hS := H1.out.2.2
      exact ⟨g.m, g1, rfl, H1.out.1, H1.out.2.1, .inr (.mk HNO.out rfl hS.p hS.m hS.tx hS.ck hS.br hS.last (by rw [if_neg HK2.out.1]; exact HK2.out.2) hS.np hS.of hS.ix hS.nb)⟩
  · have HJ : Hid (j < g.kc ∧ g.tx j = t ∧ g.ck j = c) := ⟨hj, htx, hck⟩
    clear hj htx hck
    go_enter Tryd.func27, Tryd.ntmps27
    go_wp2_with fail
    go_region_held3 (fun w' => w'.cell? ⟨g.p, 2, none⟩ = some g.vk ∧ w'.cell? ⟨g.p, 9, none⟩ = some (.slice (some ⟨mb, 0, none⟩) t.size cap) ∧ (convert 40 9 (.slice (some ⟨mb, 0, none⟩) t.size cap)).run Tryd.prog w' = .ok (.string t) w')
      (first | exact ⟨by first | with_reducible assumption | (rw [cell_drew]; with_reducible assumption), by first | with_reducible assumption | (rw [cell_drew]; with_reducible assumption), by with_reducible assumption⟩)
      (fail)
    go_wp2
    go_ret
    exact ⟨j, g, rfl, (H.out.1.drew.up (Nat.le_add_right _ _) htot), (Below.refl _ _).drew, .inl (.mk rfl HJ.out.1 HJ.out.2.1 HJ.out.2.2)⟩

end Go.Proofs.Qxb6604492aDoor
