import Derived.Test.Qxb6604492aDoorTurn
import Derived.Deep.DeepCutAuto
import Derived.Deep.RegionLaw
import Derived.Deep.AppendLies
namespace Go.Proofs.Qxb6604492aDoor
open Go.RowKit
attribute [local go_sem ↓] Go.wp_at_zero Go.wp_at_succ

theorem info53 : (Tryd.prog.info? 53).map (fun i => (i.zero, i.size, i.bytes)) = some (some (.slice none 0 0), 1, 24) := by kernel_rfl
theorem info55 : (Tryd.prog.info? 55).map (fun i => (i.zero, i.size, i.bytes)) = some (some (.agg #[.int .i64 0, .int .i32 0, .int .i32 0]), 3, 16) := by kernel_rfl

/-- 'append' at a step of a region that draws its order. -/
theorem step_app {P : Program} (w : World) {ops : Array Oper} {o : Oper} {a : Act} {K : Act → World → Prop} {Q : Exit → Act → World → Prop} {E : Prop} (hgd : o.guard = none) (s x : Operand) (t : TypeId)
    (ho : o.op = .call { callee := .builtin .append, args := #[s, x], argTypes := #[t, t] })
    (base : Nat) (e : TypeId) (i : TypeInfo) (z : Value) (size bytes : Nat) (ht : P.underlying t = some (.slice e)) (hi : P.info? e = some i) (hz : i.zero = some z)
    (hsize : i.size = size) (hby : i.bytes = bytes) (hzs : z.cells.size = size) (hsz : 0 < size)
    (v : Value) (n : Nat) (xs : List Value) (hs : a.eval s = v) (hown : w.ownsRow base e size v n xs)
    (ad : Addr) (m c : Nat) (news : List Value) (hx : a.eval x = .slice (some ad) m c) (hl : news.length = m * size) (hnews : ∀ j u, news[j]? = some u → w.cell? (ad.add j) = some u) (h1 : ∀ u ∈ news, u.oneCell' = true)
    (h63 : n + m ≤ maxLen) (hbytes : (n + m) * bytes ≤ 140737488355328) (hbase : base ≤ w.heap.size)
    (h : ∀ v' w', w'.ownsRow base e size v' (n + m) (xs ++ news) → w.grownBy w' v.ownBlock → K (a.put o.dst v') w') :
    if Region.wanted o (yielded ops a.tmps) = true then Oper.wp P o a w K Q else E := by
  have hw : Region.wanted o (yielded ops a.tmps) = true := by simp [Region.wanted, hgd]
  rw [if_pos hw]
  obtain ⟨v', w', hr, h2, h3, _, _⟩ := run_append_own_at (P := P) w base t o.type e i z size bytes ht hi hz hsize hby hzs hsz v n xs hown ad m c news hl hnews h1 h63 hbytes hbase
  unfold Oper.wp execOp
  simp only [ho, resolve, invoke, builtin, Sem.run_bind, Sem.run_pure, Result.andThen_ok, List.map_toArray, List.map_cons, List.map_nil, hs, hx, hr]
  exact h v' w' h2 h3

theorem new_cells (w : World) (o : List Value) (e : TypeId) : ∀ j u, o[j]? = some u → (w.alloc (.cells o.toArray e)).cell? ((⟨w.heap.size, 0, none⟩ : Addr).add j) = some u := by
  intro j u hu
  have hadd : (⟨w.heap.size, 0, none⟩ : Addr).add j = ⟨w.heap.size, j, none⟩ := by unfold Addr.add; split <;> simp_all
  rw [hadd, cell_of_row _ w.heap.size j o.toArray e (0, 0) (heap_alloc_new w _)]
  simpa using hu

theorem ownsRow_one {w : World} {B e r cp : Nat} {x : Value} (h : w.ownsRow B e 1 (.slice (some ⟨r, 0, none⟩) 1 cp) 1 [x]) (y : Value) : (w.setCell ⟨r, 0, none⟩ y).ownsRow B e 1 (.slice (some ⟨r, 0, none⟩) 1 cp) 1 [y] := by
  refine ⟨rfl, ?_⟩
  rcases h.2 with ⟨hv, _⟩ | ⟨g, cap, cur, hv, hb, hg, h1, h2, h3, h4⟩
  · cases hv
  · cases hv
    refine .inr ⟨r, cp, cur.set! 0 y, rfl, hb, ?_, h1, h2, by simp [h3], ?_⟩
    · simp [World.setCell, Array.getElem?_modify, hg]
    · simp only [Array.set!_eq_setIfInBounds, Array.toList_setIfInBounds]
      rw [List.take_set, h4]
      rfl

/-- A problem has been appended. -/
def probed (g : G) (vc : Value) (x : Int) (i : Nat) : G := { g with vc := vc, np := g.np + 1, of := upd g.of g.np x, ix := upd g.ix g.np i }

/-- The state with another 'chunks'. -/
theorem Core.chunked {B : Nat} {w w' : World} {g : G} {tot : Nat} {S : Nat → Prop} {T : List Nat} {vc : Value} {np : Nat} {of : Nat → Int} {ix : Nat → Nat} (h : Core B w g tot) (f : Fr S w w') (o : Only T w S) (hsz : w.heap.size ≤ w'.heap.size) (hT : ∀ t ∈ T, t = 52 ∨ t = 53 ∨ t = 55)
    (hp : PB w' g.p vc g.vm g.vk g.last g.vb g.vt g.vx) (hch : Chunks B w' vc np of ix) : Core B w' { g with vc := vc, np := np, of := of, ix := ix } tot := by
  have hn : ∀ t : Nat, t ≠ 52 → t ≠ 53 → t ≠ 55 → t ∉ T := fun t h1 h2 h3 hm => by rcases hT t hm with e | e | e <;> omega
  exact { B0 := Nat.le_trans h.B0 hsz, pB := h.pB, pb := hp, ms := row_keep h.ms f o (hn _ (by decide) (by decide) (by decide)), bs := row_keep h.bs f o (hn _ (by decide) (by decide) (by decide)), bl := fun k hk => BA_keep (h.bl k hk) f o (hn _ (by decide) (by decide) (by decide)) (hn _ (by decide) (by decide) (by decide)), ap := h.ap, tab := h.tab, kn := known_keep h.kn f o, ch := hch, mB := h.mB, nB := h.nB, tB := h.tB, kB := h.kB, cB := h.cB, lB := h.lB }

/-- What stands ahead of the last append: one chunk v1, in the row r. -/
structure Mid (B : Nat) (w wx : World) (g : G) (tot bx r cp : Nat) (v1 : Value) (x : Int) (i : Nat) : Prop where
  core : Core B wx { g with vc := .slice (some ⟨r, 0, none⟩) 1 cp } tot
  row : wx.ownsRow B 53 1 (.slice (some ⟨r, 0, none⟩) 1 cp) 1 [v1]
  chunk : wx.ownsRow B 55 3 v1 g.np (probs g.of g.ix g.np)
  box : wx.heap[bx]? = some (.cells #[.int .i64 x, .int .i32 (i : Nat), .int .i32 0] 55 (0, 0))
  bel : Below B w wx

theorem Mid.done {B : Nat} {w wx w3 : World} {g : G} {tot bx r cp : Nat} {v1 v3 : Value} {x : Int} {i : Nat} {o : Obj} (h : Mid B w wx g tot bx r cp v1 x i)
    (hown : w3.ownsRow B 55 3 v3 (g.np + 1) (probs g.of g.ix g.np ++ [.int .i64 x, .int .i32 (i : Nat), .int .i32 0])) (hgrow : (wx.alloc o).grownBy w3 v1.ownBlock) :
    Core B (w3.setCell ⟨r, 0, none⟩ v3) (probed g (.slice (some ⟨r, 0, none⟩) 1 cp) x i) tot ∧ Below B w (w3.setCell ⟨r, 0, none⟩ v3) ∧ w3.cell? ⟨r, 0, none⟩ = some v1 ∧ w3.frozen? ⟨r, 0, none⟩ = false := by
  have f3 : Fr (fun j => v1.ownBlock = some j) wx w3 := ((Fr.alloc wx o).trans (Fr.grown hgrow)).mono (fun j hj => by rcases hj with hj | hj; exact hj.elim; exact hj)
  have o3 := only_row h.chunk
  obtain ⟨cur, hk⟩ := ownsRow_kind h.row (g := r) rfl
  have r3 := row_keep h.row f3 o3 (by decide)
  have hk3 := f3 _ _ hk (o3.ne hk (by decide))
  have f4 : Fr (fun j => v1.ownBlock = some j ∨ j = r) wx (w3.setCell ⟨r, 0, none⟩ v3) := f3.trans (Fr.setCell w3 ⟨r, 0, none⟩ v3)
  have o4 : Only [55, 53] wx (fun j => v1.ownBlock = some j ∨ j = r) := o3.or (only_at hk)
  have hs : wx.heap.size ≤ (w3.setCell ⟨r, 0, none⟩ v3).heap.size := by
    have := hgrow.size
    simp [World.setCell] at this ⊢
    omega
  have hB : B ≤ r := (h.row.lt r rfl).1
  have hbel : Below B wx (w3.setCell ⟨r, 0, none⟩ v3) := (((Below.refl B wx).alloc h.core.B0 o).grown hgrow (Nat.le_trans h.core.B0 (by simp)) (fun k hk => (h.chunk.lt k hk).1)).setCell (p := ⟨r, 0, none⟩) hB _
  have e : probs (upd g.of g.np x) (upd g.ix g.np i) (g.np + 1) = probs g.of g.ix g.np ++ [.int .i64 x, .int .i32 (i : Nat), .int .i32 0] := by
    rw [probs_succ, upd_same, upd_same]
    congr 1
    exact flat_congr _ _ _ (fun k hk => by rw [upd_ne _ _ (by omega), upd_ne _ _ (by omega)])
  have hc := (row_at r3 (by decide)).choose_spec.choose_spec
  refine ⟨h.core.chunked f4 o4 hs (fun t ht => by simp at ht; omega) (f4 _ _ h.core.pb (o4.ne h.core.pb (by decide))) (.inr ⟨v3, ownsRow_one r3 v3, ?_⟩), h.bel.trans hbel, ?_, Lib.frozen_of_heap hk3 0⟩
  · rw [e]
    exact row_keep hown (Fr.setCell w3 ⟨r, 0, none⟩ v3) (only_at hk3) (by decide)
  · obtain ⟨r', c', hv, _, _, hcell, _⟩ := row_at r3 (by decide)
    cases hv
    exact hcell 0 v1 rfl

theorem Mid.p0 {B : Nat} {w wx w3 : World} {g : G} {tot bx r cp : Nat} {v1 : Value} {x : Int} {i : Nat} {o : Obj} (h : Mid B w wx g tot bx r cp v1 x i) (hgrow : (wx.alloc o).drew.grownBy w3 v1.ownBlock) : w3.cell? ⟨g.p, 0, none⟩ = some (.slice (some ⟨r, 0, none⟩) 1 cp) := by
  have g2 : (wx.alloc o).grownBy w3 v1.ownBlock := ⟨hgrow.os, hgrow.tape, hgrow.output, hgrow.size, hgrow.block⟩
  have f3 : Fr (fun j => v1.ownBlock = some j) wx w3 := ((Fr.alloc wx o).trans (Fr.grown g2)).mono (fun j hj => by rcases hj with hj | hj; exact hj.elim; exact hj)
  have p3 : PB w3 g.p _ g.vm g.vk g.last g.vb g.vt g.vx := f3 _ _ h.core.pb ((only_row h.chunk).ne h.core.pb (by decide))
  exact p3.c0

theorem Mid.first {B : Nat} {w w3 : World} {g : G} {tot r cp : Nat} {x : Int} {i : Nat} {o : Obj} (h : Core B w g tot) (hn : g.np = 0)
    (hown : w3.ownsRow B 53 1 (.slice (some ⟨r, 0, none⟩) 1 cp) 1 [.slice none 0 0]) (hgrow : ((w.alloc (.cells #[.int .i64 x, .int .i32 (i : Nat), .int .i32 0] 55)).alloc o).grownBy w3 none) :
    Mid B w (w3.setCell ⟨g.p, 0, none⟩ (.slice (some ⟨r, 0, none⟩) 1 cp)) g tot w.heap.size r cp (.slice none 0 0) x i ∧ w3.cell? ⟨g.p, 0, none⟩ = some g.vc ∧ w3.frozen? ⟨g.p, 0, none⟩ = false := by
  have fb : Fr (fun _ => False) (w.alloc (.cells #[.int .i64 x, .int .i32 (i : Nat), .int .i32 0] 55)) w3 := ((Fr.alloc _ o).trans (Fr.grown hgrow)).mono (fun j hj => by rcases hj with hj | hj; exact hj; cases hj)
  have f3 : Fr (fun _ => False) w w3 := ((Fr.alloc w _).trans fb).mono (fun j hj => by rcases hj with hj | hj; exact hj; exact hj)
  have p3 : PB w3 g.p g.vc g.vm g.vk g.last g.vb g.vt g.vx := f3 _ _ h.pb (fun e => e)
  have f4 : Fr (fun j => False ∨ j = g.p) w (w3.setCell ⟨g.p, 0, none⟩ (.slice (some ⟨r, 0, none⟩) 1 cp)) := f3.trans (Fr.setCell w3 ⟨g.p, 0, none⟩ _)
  have o4 : Only [52] w (fun j => False ∨ j = g.p) := by
    intro j hj
    rcases hj with hj | hj
    · exact hj.elim
    · subst hj; exact ⟨_, _, _, h.pb, by simp⟩
  have hbel : Below B w (w3.setCell ⟨g.p, 0, none⟩ (.slice (some ⟨r, 0, none⟩) 1 cp)) :=
    ((((Below.refl B w).alloc h.B0 _).alloc (Nat.le_trans h.B0 (by simp)) o).grown hgrow (Nat.le_trans h.B0 (by simp; omega)) (fun _ e => by cases e)).setCell (p := ⟨g.p, 0, none⟩) h.pB _
  have hr4 := row_keep hown (Fr.setCell w3 ⟨g.p, 0, none⟩ (.slice (some ⟨r, 0, none⟩) 1 cp)) (only_at p3) (by decide)
  have hch : (w3.setCell ⟨g.p, 0, none⟩ (.slice (some ⟨r, 0, none⟩) 1 cp)).ownsRow B 55 3 (.slice none 0 0) g.np (probs g.of g.ix g.np) := by
    rw [hn]
    exact World.ownsRow_nil _ _ _ _
  refine ⟨⟨h.chunked f4 o4 hbel.size (fun t ht => by simp at ht; omega) (p3.set0 _) (.inr ⟨.slice none 0 0, hr4, hch⟩), hr4, hch, ?_, hbel⟩, p3.c0, p3.fr 0⟩
  rw [Below.heap_setCell _ _ _ _ (by have := h.pb.lt; show w.heap.size ≠ g.p; omega)]
  exact fb _ _ (heap_alloc_new w _) (fun e => e)

set_option maxHeartbeats 4000000 in
set_option maxRecDepth 100000 in
theorem append_any {B : Nat} {w : World} {g : G} {tot : Nat} (x : Int) (i : Nat) (h : Core B w g tot) (hn : g.np < 4096) :
    Calls Tryd.prog 28 #[.pointer (some ⟨g.p, 0, none⟩), .agg #[.int .i64 x, .int .i32 i, .int .i32 0]] w fun e w' => e = .returned (.tuple #[]) ∧ ∃ vc, Core B w' (probed g vc x i) tot ∧ Below B w w' := by
  have H : Hid (Core B w g tot) := h
  obtain ⟨i53, hi, hz0, hz1, hz2⟩ := info_parts info53
  obtain ⟨i55, hj, hy0, hy1, hy2⟩ := info_parts info55
  have hpl := h.pb.lt
  have f0 := h.pb.fr 0
  have c0 := h.pb.c0
  obtain ⟨av, nv, cv, hvc, hV⟩ : ∃ av nv cv, g.vc = .slice av nv cv ∧ ((av = none ∧ nv = 0 ∧ cv = 0 ∧ g.np = 0) ∨ ∃ r v1, av = some ⟨r, 0, none⟩ ∧ nv = 1 ∧ w.ownsRow B 53 1 (.slice (some ⟨r, 0, none⟩) 1 cv) 1 [v1] ∧ w.ownsRow B 55 3 v1 g.np (probs g.of g.ix g.np)) := by
    rcases h.ch with h0 | ⟨v1, h1, h2⟩
    · exact ⟨none, 0, 0, h0.1, .inl ⟨rfl, rfl, rfl, h0.2⟩⟩
    · obtain ⟨r, cp, hv, _⟩ := row_at h1 (by decide)
      rw [hv] at h1
      exact ⟨some ⟨r, 0, none⟩, 1, cp, hv, .inr ⟨r, v1, rfl, rfl, h1, h2⟩⟩
  rw [hvc] at c0
  have HV : Hid _ := hV
  have HVC : Hid (g.vc = .slice av nv cv) := hvc
  have hnv : nv ≤ 1 := by rcases hV with ⟨_, h, _⟩ | ⟨_, _, _, h, _⟩ <;> omega
  clear h hV hvc
  go_enter Tryd.func28, Tryd.ntmps28
  go_upto_region 2 with fail
  go_cut [24] (fun s24 wx => s24 = .bool (decide (nv = 0)) ∧ wx = w.alloc (.cells #[.int .i64 x, .int .i32 (i : Nat), .int .i32 0] 55))
  case first =>
    rcases HV with ⟨rfl, rfl, rfl, h4⟩ | ⟨r, v1, rfl, rfl, h3, h4⟩
    · clear h4
      go_wp2
      go_meet
      case rel => exact ⟨rfl, rfl⟩
    · obtain ⟨a1, c1, hv1⟩ := row_val h4
      obtain ⟨r', c', hv', _, _, hcell, _⟩ := row_at h3 (by decide)
      cases hv'
      have q0 := hcell 0 v1 rfl
      rw [hv1] at q0
      have hrl := (h3.lt r rfl).2
      have e0 : ((g.np : Int) == 4096) = false := beq_eq_false_iff_ne.2 (by omega)
      clear h3 h4 hcell
      go_wp2
      go_meet
      case rel => exact ⟨rfl, rfl⟩
  case rest =>
  obtain ⟨rfl, rfl⟩ := hcut
  go_upto_if 24 with fail
  go_cut [4] (fun s4 wx => s4 = .int .i64 0 ∧ ∃ r cp v1, Mid B w wx g tot w.heap.size r cp v1 x i)
  case first =>
    rcases HV with ⟨rfl, rfl, rfl, h4⟩ | ⟨r, v1, rfl, rfl, h3, h4⟩
    · have HN : Hid (g.np = 0) := h4
      clear h4
      go_wp2_with (at_builtin; refine wpList_append_own _ rfl _ _ 44 rfl B 53 i53 (.slice none 0 0) 1 24 Tryd.underlying44 hi hz0 hz1 hz2 rfl (by decide) (.slice none 0 0) 0 [] rfl (World.ownsRow_nil _ _ _ _) ⟨w.heap.size + 1, 0, none⟩ 1 1 [.slice none 0 0] rfl rfl (by have h1 := new_cells (w.alloc (.cells #[.int .i64 x, .int .i32 (i : Nat), .int .i32 0] 55)) [.slice none 0 0] 53; simpa using h1) (by simp [Value.oneCell']) (by unfold maxLen; omega) (by omega) (by have h1 := H.out.B0; simp; omega) ?_; intro v3 w3 hown3 hgrow3 _; obtain ⟨r, cp, rfl, _⟩ := row_at hown3 (by decide); have HX : Hid _ := Mid.first H.out HN.out hown3 hgrow3; have y0 := HX.out.2.1; have yf := HX.out.2.2; clear hown3 hgrow3)
      go_meet
      case rel => exact ⟨rfl, r, cp, _, HX.out.1⟩
    · have HR : Hid (w.ownsRow B 53 1 (.slice (some ⟨r, 0, none⟩) 1 cv) 1 [v1] ∧ w.ownsRow B 55 3 v1 g.np (probs g.of g.ix g.np)) := ⟨h3, h4⟩
      obtain ⟨a1, c1, hv1⟩ := row_val h4
      obtain ⟨r', c', hv', _, _, hcell, _⟩ := row_at h3 (by decide)
      cases hv'
      have q0 := hcell 0 v1 rfl
      rw [hv1] at q0
      have hrl := (h3.lt r rfl).2
      have e0 : ((g.np : Int) == 4096) = false := beq_eq_false_iff_ne.2 (by omega)
      clear h3 h4 hcell
      go_wp2
      go_meet
      case rel =>
        have f := Fr.alloc w (.cells #[.int .i64 x, .int .i32 (i : Nat), .int .i32 0] 55)
        have hbel : Below B w (w.alloc (.cells #[.int .i64 x, .int .i32 (i : Nat), .int .i32 0] 55)) := (Below.refl B w).alloc H.out.B0 _
        have hc := H.out.alloc (.cells #[.int .i64 x, .int .i32 (i : Nat), .int .i32 0] 55)
        refine ⟨rfl, r, cv, v1, ⟨?_, HR.out.1.alloc _, HR.out.2.alloc _, heap_alloc_new w _, hbel⟩⟩
        rw [← HVC.out]
        exact hc
  case rest =>
    obtain ⟨rfl, r, cp, v1, hmid⟩ := hcut
    have HM : Hid (Mid B w wc g tot w.heap.size r cp v1 x i) := hmid
    obtain ⟨bx, hbx⟩ : ∃ bx, bx = w.heap.size := ⟨_, rfl⟩
    rw [← hbx] at HM ⊢
    obtain ⟨a1, c1, rfl⟩ := row_val hmid.chunk
    obtain ⟨r', c', hv', _, _, hcell, _⟩ := row_at hmid.row (by decide)
    cases hv'
    have q0 := hcell 0 _ rfl
    have p0 : wc.cell? ⟨g.p, 0, none⟩ = some (.slice (some ⟨r, 0, none⟩) 1 cp) := hmid.core.pb.c0
    have b0 : wc.cell? ⟨bx, 0, none⟩ = some (.int .i64 x) := by rw [Lib.cell_of_heap HM.out.box]; rfl
    have b1 : wc.cell? ⟨bx, 1, none⟩ = some (.int .i32 (i : Nat)) := by rw [Lib.cell_of_heap HM.out.box]; rfl
    have b2 : wc.cell? ⟨bx, 2, none⟩ = some (.int .i32 0) := by rw [Lib.cell_of_heap HM.out.box]; rfl
    have l0 : g.p < wc.heap.size := hmid.core.pb.lt
    have l1 : r < wc.heap.size := (hmid.row.lt r rfl).2
    have l2 : bx < wc.heap.size := (Array.getElem?_eq_some_iff.1 HM.out.box).1
    clear hmid hcell hbx H HV HVC
    have HR1 : Hid ((wc.alloc (.cells #[.int .i64 x, .int .i32 (i : Nat), .int .i32 0] 55)).drew.ownsRow B 55 3 (.slice a1 g.np c1) g.np (probs g.of g.ix g.np)) := HM.out.chunk.alloc _
    have HB1 : Hid (B ≤ (wc.alloc (.cells #[.int .i64 x, .int .i32 (i : Nat), .int .i32 0] 55)).drew.heap.size) := by have a1 := HM.out.core.B0; show B ≤ (wc.alloc _).heap.size; simp; omega
    have HC1 : Hid (∀ (j : Nat) (u : Value), [.int .i64 x, .int .i32 (i : Nat), Value.int .i32 0][j]? = some u → (wc.alloc (.cells #[.int .i64 x, .int .i32 (i : Nat), .int .i32 0] 55)).drew.cell? ((⟨wc.heap.size, 0, none⟩ : Addr).add j) = some u) := new_cells wc [.int .i64 x, .int .i32 (i : Nat), .int .i32 0] 55
    go_wp2_with fail
    go_region_law
      (first
        | (refine step_app (P := Tryd.prog) (wc.alloc (.cells #[.int .i64 x, .int .i32 (i : Nat), .int .i32 0] 55)).drew (by rfl) (.tmp 51) (.tmp 53) 53 (by rfl) B 55 i55 (.agg #[.int .i64 0, .int .i32 0, .int .i32 0]) 3 16 Tryd.underlying53 hj hy0 hy1 hy2 (by rfl) (by decide) (.slice a1 g.np c1) g.np (probs g.of g.ix g.np) (by rfl) HR1.out ⟨wc.heap.size, 0, none⟩ 1 1 [.int .i64 x, .int .i32 (i : Nat), .int .i32 0] (by rfl) (by rfl) HC1.out (by simp [Value.oneCell']) (by unfold maxLen; omega) (by omega) HB1.out ?_; intro v3 w3 hown3 hgrow3; obtain ⟨a3, c3, rfl⟩ := row_val hown3; have HX : Hid _ := Mid.done HM.out hown3 ⟨hgrow3.os, hgrow3.tape, hgrow3.output, hgrow3.size, hgrow3.block⟩; have y1 := HX.out.2.2.1; have yf := HX.out.2.2.2; have pz : w3.cell? ⟨g.p, 0, none⟩ = some (.slice (some ⟨r, 0, none⟩) 1 cp) := Mid.p0 HM.out hgrow3; clear hown3 hgrow3))
    all_goals (go_end0; exact ⟨rfl, _, HX.out.1, HX.out.2.1⟩)

end Go.Proofs.Qxb6604492aDoor
