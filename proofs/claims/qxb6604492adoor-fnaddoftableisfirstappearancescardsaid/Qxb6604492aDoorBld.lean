import Derived.Test.Qxb6604492aDoorBase
import Derived.Maps.AppendAt
import Derived.Lib.Builder
import Derived.Test.Qxb6604492aDoorShelf
namespace Go.Proofs.Qxb6604492aDoor
open Go.RowKit

theorem infoByte : (Tryd.prog.info? 5).map (fun i => (i.zero, i.size, i.bytes)) = some (some (.int .u8 0), 1, 1) := by kernel_rfl
theorem sizeBuilder : (Tryd.prog.info? 73).map (·.size) = some 2 := by kernel_rfl
theorem cellsByte : Tryd.prog.cellsOf 5 = 1 := by kernel_rfl

theorem froze_row {B g cap : Nat} {w : World} {l : List UInt8} (h : w.ownsRowF B 5 1 (.slice (some ⟨g, 0, none⟩) l.length cap) l.length (Lib.byteCells l)) : (w.freeze ⟨g, 0, none⟩ l.length).ownsRowF B 5 1 (.slice (some ⟨g, 0, none⟩) l.length cap) l.length (Lib.byteCells l) ∧ w.grownBy (w.freeze ⟨g, 0, none⟩ l.length) (some g) := by
  refine ⟨⟨h.1, ?_⟩, ?_⟩
  · rcases h.2 with ⟨hv, _⟩ | ⟨g', cap', cur, fz, hv, hbg, hg, hfz, rest⟩
    · cases hv
    · cases hv
      unfold World.freeze
      split
      · exact .inr ⟨g, cap, cur, fz, rfl, hbg, hg, hfz, rest⟩
      · obtain ⟨lo, hi⟩ := fz
        refine .inr ⟨g, cap, cur, (if lo == hi then (0, 0 + l.length) else (min lo 0, max hi (0 + l.length))), rfl, hbg, ?_, ?_, rest⟩
        · simp [Array.getElem?_modify, hg]
        · simp only at hfz
          split <;> simp <;> omega
  · unfold World.freeze
    split
    · exact ⟨rfl, rfl, rfl, Nat.le_refl _, fun _ _ _ => rfl⟩
    · exact ⟨rfl, rfl, rfl, by simp, fun k hk hne => by
        simp only [Array.getElem?_modify]
        rw [if_neg (fun e => hne (by rw [← e]))]⟩

/-- The builtin that the i-th operation of (*strings.Builder).String's one statement calls. -/
def calledAt (f : Func) (i : Nat) : Option Builtin :=
  match f.body with
  | some (.seq _ (.seq (.region _ ops _) _)) =>
    match ops[i]? with
    | some o =>
      match o.op with
      | .call c =>
        match c.callee with
        | .builtin b => some b
        | _ => none
      | _ => none
    | none => none
  | _ => none

/-- A builtin's own run, named by the program's text. -/
theorem run_called {P : Program} {w : World} {F : Option Builtin} {b : Builtin} (_hb : F = some b) {ats : Array TypeId} {ty : TypeId} {cs : Array Bool} {args : Array Value} {X : Sem Value} (_hX : builtin b ats ty cs args = (do pure (.value (← X)))) {r : Result Value} (hr : X.run P w = r) : X.run P w = r := hr

section
variable {P : Program} (w : World)

/-- Over a slice with no room: a look whether a view stands there, then the new view. -/
theorem data_zero {X : Sem Value} {ty e : TypeId} (hp : P.underlying ty = some (.pointer e)) {a : Addr} {sh : TypeId × Nat} (hsh : w.shape? a.block = some sh) {R : Option (Addr × TypeId) → Sem Value} {S : TypeId → Sem Value}
    (h1 : X = viewAt a.block >>= R) (h2 : R none = elemOf ty >>= S) (h3 : (S e).run P w = .ok (.pointer (some ⟨w.heap.size, 0, none⟩)) (w.alloc (.view a e))) :
    X.run P w = .ok (.pointer (some ⟨w.heap.size, 0, none⟩)) (w.alloc (.view a e)) := by
  rw [h1]
  simp [viewAt, hsh, h2, elemOf, run_underlying hp, h3]

/-- Over the head of a row of bytes: the tests, the look at the row, the bytes, the mark. -/
theorem text_row {X : Sem Value} {pt e : TypeId} (hp : P.underlying pt = some (.pointer e)) (hc : P.cellsOf e = 1) {g cells : Nat} (hsh : w.shape? g = some (e, cells)) {l : List UInt8} (h0 : l ≠ []) (hn : l.length ≤ cells) (h63 : l.length ≤ 9223372036854775807)
    (hcell : ∀ j x, l[j]? = some x → w.cell? ((⟨g, 0, none⟩ : Addr).add j) = some (.int .u8 x.toNat)) {R : Int → Sem Value} {A B C : Sem Value} {T : TypeId → Sem Value} {V : Bool → Sem Value} {Z : ByteArray → Sem Value}
    (h1 : X = asInt (.int .i64 (l.length : Int)) >>= R) (h2 : R (l.length : Int) = if (l.length : Int) < 0 then A else if (l.length : Int) > IntKind.i64.max then B else if (l.length : Int) = 0 then C else elemOf pt >>= T)
    (h3 : T e = variablesAt ⟨g, 0, none⟩ e l.length >>= V) (h4 : V true = loadBytes ⟨g, 0, none⟩ .empty l.length >>= Z) (h5 : ∀ s, (Z s).run P w = .ok (.string s) (w.freeze ⟨g, 0, none⟩ l.length)) :
    X.run P w = .ok (.string ⟨l.toArray⟩) (w.freeze ⟨g, 0, none⟩ l.length) := by
  have hlb := Lib.run_loadBytes (P := P) w l ⟨g, 0, none⟩ .empty hcell
  have hlies := Lib.liesAt_bytes (P := P) hc (cells / P.cellsOf e) l.length (by rw [hc]; simpa using hn)
  have hz : ¬ (l.length : Int) = 0 := by simpa using h0
  have hmax : IntKind.i64.max = 9223372036854775807 := rfl
  rw [if_neg (by omega), if_neg (by rw [hmax]; omega), if_neg hz] at h2
  rw [h1]
  simp [asInt, asIntOf, h2, elemOf, run_underlying hp, h3, variablesAt, hsh, hlies, h4, hlb, h5]
end

set_option maxHeartbeats 1000000 in
theorem string_full {B b g cap : Nat} {l : List UInt8} (w : World) (h0 : l ≠ []) (h : BA B w b (.slice (some ⟨g, 0, none⟩) l.length cap) l) :
    Calls Tryd.prog 26 #[.pointer (some ⟨b, 0, none⟩)] w fun e w' => e = .returned (.string ⟨l.toArray⟩) ∧ w' = w.drew.freeze ⟨g, 0, none⟩ l.length := by
  have hown := h.own
  have hl0 : l.length ≠ 0 := by simpa using h0
  obtain ⟨cur, fz, hg, hfz, hnc, hcm, hcs, htake⟩ : ∃ cur fz, w.heap[g]? = some (.cells cur 5 fz) ∧ fz.2 ≤ l.length * 1 ∧ l.length ≤ cap ∧ cap ≤ maxLen ∧ cur.size = cap * 1 ∧ cur.toList.take (l.length * 1) = Lib.byteCells l := by
    rcases hown.2 with ⟨_, hz⟩ | ⟨g', cap', cur, fz, hv, r⟩
    · exact absurd hz hl0
    · cases hv
      exact ⟨cur, fz, r.2⟩
  have c1 : w.drew.cell? ⟨b, 1, none⟩ = some (.slice (some ⟨g, 0, none⟩) l.length cap) := h.c1
  have hSD := run_called (P := Tryd.prog) (w := w.drew) (rfl : calledAt Tryd.f26 4 = some _) (ats := #[40]) (ty := 71) (cs := #[]) (args := #[.slice (some ⟨g, 0, none⟩) l.length cap]) rfl (r := .ok (.pointer (some ⟨g, 0, none⟩)) w.drew) (by cases cap with | zero => omega | succ k => rfl)
  have hUS := run_called (P := Tryd.prog) (w := w.drew) (rfl : calledAt Tryd.f26 10 = some _) (ats := #[71, 3]) (ty := 9) (cs := #[]) (args := #[.pointer (some ⟨g, 0, none⟩), .int .i64 l.length]) rfl (text_row (l := l) (cells := cur.size) _ Tryd.underlying71 cellsByte (by have hg' : w.drew.heap[g]? = some (.cells cur 5 fz) := hg; simp [World.shape?, hg']) h0 (by omega) (by unfold maxLen at hcm; omega) (by
    intro j x hx
    have := hown.cells (g := g) rfl j (.int .u8 x.toNat) (by simp [Lib.byteCells, hx])
    exact this) rfl rfl rfl rfl (fun _ => rfl))
  clear h hown hg hfz hnc hcm hcs htake
  go_enter Tryd.func26, Tryd.ntmps26
  go_wp2
  go_region
  all_goals (go_wp2; go_ret; exact ⟨rfl, rfl⟩)

theorem string_nil {b : Nat} (w : World) (c1 : w.drew.cell? ⟨b, 1, none⟩ = some (.slice none 0 0)) :
    Calls Tryd.prog 26 #[.pointer (some ⟨b, 0, none⟩)] w fun e w' => e = .returned (.string ⟨#[]⟩) ∧ w' = w.drew := by
  have hUS := fun (W : World) (q : Option Addr) => run_called (P := Tryd.prog) (w := W) (rfl : calledAt Tryd.f26 10 = some _) (ats := #[71, 3]) (ty := 9) (cs := #[]) (args := #[.pointer q, .int .i64 0]) rfl (r := .ok (.string .empty) W) (by cases q <;> rfl)
  have hSD := run_called (P := Tryd.prog) (w := w.drew) (rfl : calledAt Tryd.f26 4 = some _) (ats := #[40]) (ty := 71) (cs := #[]) (args := #[.slice none 0 0]) rfl (r := .ok (.pointer none) w.drew) rfl
  go_enter Tryd.func26, Tryd.ntmps26
  go_wp2
  go_region
  all_goals (go_wp2; go_ret; exact ⟨rfl, rfl⟩)

theorem string_room {b g cap : Nat} (w : World) (hc0 : cap ≠ 0) (c1 : w.drew.cell? ⟨b, 1, none⟩ = some (.slice (some ⟨g, 0, none⟩) 0 cap)) :
    Calls Tryd.prog 26 #[.pointer (some ⟨b, 0, none⟩)] w fun e w' => e = .returned (.string ⟨#[]⟩) ∧ w' = w.drew := by
  have hUS := fun (W : World) (q : Option Addr) => run_called (P := Tryd.prog) (w := W) (rfl : calledAt Tryd.f26 10 = some _) (ats := #[71, 3]) (ty := 9) (cs := #[]) (args := #[.pointer q, .int .i64 0]) rfl (r := .ok (.string .empty) W) (by cases q <;> rfl)
  have hSD := run_called (P := Tryd.prog) (w := w.drew) (rfl : calledAt Tryd.f26 4 = some _) (ats := #[40]) (ty := 71) (cs := #[]) (args := #[.slice (some ⟨g, 0, none⟩) 0 cap]) rfl (r := .ok (.pointer (some ⟨g, 0, none⟩)) w.drew) (by cases cap with | zero => exact absurd rfl hc0 | succ k => rfl)
  clear hc0
  go_enter Tryd.func26, Tryd.ntmps26
  go_wp2
  go_region
  all_goals (go_wp2; go_ret; exact ⟨rfl, rfl⟩)

theorem string_zero {b g : Nat} {cur : Array Value} {fz : Nat × Nat} (w : World) (hlt : b < w.heap.size) (hg : w.heap[g]? = some (.cells cur 5 fz)) (c1 : w.drew.cell? ⟨b, 1, none⟩ = some (.slice (some ⟨g, 0, none⟩) 0 0)) :
    Calls Tryd.prog 26 #[.pointer (some ⟨b, 0, none⟩)] w fun e w' => e = .returned (.string ⟨#[]⟩) ∧ w' = w.drew.alloc (.view ⟨g, 0, none⟩ 5) := by
  have hUS := fun (W : World) (q : Option Addr) => run_called (P := Tryd.prog) (w := W) (rfl : calledAt Tryd.f26 10 = some _) (ats := #[71, 3]) (ty := 9) (cs := #[]) (args := #[.pointer q, .int .i64 0]) rfl (r := .ok (.string .empty) W) (by cases q <;> rfl)
  have hSD := run_called (P := Tryd.prog) (w := w.drew) (rfl : calledAt Tryd.f26 4 = some _) (ats := #[40]) (ty := 71) (cs := #[]) (args := #[.slice (some ⟨g, 0, none⟩) 0 0]) rfl (data_zero (ty := 71) _ Tryd.underlying71 (sh := (5, cur.size)) (by have hg' : w.drew.heap[g]? = some (.cells cur 5 fz) := hg; simp [World.shape?, hg']) rfl rfl rfl)
  have c2 : (w.drew.alloc (.view ⟨g, 0, none⟩ 5)).cell? ⟨b, 1, none⟩ = some (.slice (some ⟨g, 0, none⟩) 0 0) := by
    rw [World.cell?_of_block (w := w.drew) (Lib.alloc_old w.drew _ b hlt)]; exact c1
  have c3 : (w.alloc (.view ⟨g, 0, none⟩ 5)).drew.cell? ⟨b, 1, none⟩ = some (.slice (some ⟨g, 0, none⟩) 0 0) := c2
  have c0 : w.cell? ⟨b, 1, none⟩ = some (.slice (some ⟨g, 0, none⟩) 0 0) := c1
  go_enter Tryd.func26, Tryd.ntmps26
  go_wp2
  go_region
  all_goals (go_wp2; go_ret; exact ⟨rfl, rfl⟩)

theorem below_grown {B : Nat} {w w' : World} {row : Option Nat} (h : w.grownBy w' row) (hB : B ≤ w.heap.size) (hr : ∀ k, row = some k → B ≤ k) : Below B w w' := (Below.refl _ _).grown h hB hr

/-- (*strings.Builder).String: the bytes; only the buffer's row may have turned (its frozen mark). -/
theorem string_any {B b : Nat} {v : Value} {l : List UInt8} (w : World) (h : BA B w b v l) :
    Calls Tryd.prog 26 #[.pointer (some ⟨b, 0, none⟩)] w fun e w' => e = .returned (.string ⟨l.toArray⟩) ∧ BA B w' b v l ∧ w.grownBy w' v.ownBlock := by
  have hb := h.bk
  have c1 := h.c1
  rcases h.own.2 with ⟨rfl, h0⟩ | ⟨g, cap, cur, fz, rfl, hBg, hg, rest⟩
  · obtain rfl : l = [] := by simpa using h0
    refine (string_nil w c1).mono ?_
    rintro e w' ⟨rfl, rfl⟩
    exact ⟨rfl, ⟨h.le, hb, h.own⟩, ⟨rfl, rfl, rfl, Nat.le_refl _, fun _ _ _ => rfl⟩⟩
  · by_cases h0 : l = []
    · subst h0
      by_cases hc : cap = 0
      · subst hc
        refine (string_zero w h.lt hg c1).mono ?_
        rintro e w' ⟨rfl, rfl⟩
        have f : Fr (fun _ => False) w (w.drew.alloc (.view ⟨g, 0, none⟩ 5)) := Fr.alloc w.drew _
        exact ⟨rfl, h.fr f (by simp) (by simp), have k := World.grownBy_alloc w.drew (.view ⟨g, 0, none⟩ 5) (some g); ⟨k.os, k.tape, k.output, k.size, k.block⟩⟩
      · refine (string_room w hc c1).mono ?_
        rintro e w' ⟨rfl, rfl⟩
        exact ⟨rfl, ⟨h.le, hb, h.own⟩, ⟨rfl, rfl, rfl, Nat.le_refl _, fun _ _ _ => rfl⟩⟩
    · refine (string_full w h0 h).mono ?_
      rintro e w' ⟨rfl, rfl⟩
      have hf := froze_row (w := w.drew) h.own
      have hgb : b ≠ g := kinds_ne hb hg (by decide)
      refine ⟨rfl, ⟨h.le, ?_, hf.1⟩, ⟨hf.2.os, hf.2.tape, hf.2.output, hf.2.size, hf.2.block⟩⟩
      rw [hf.2.block b h.lt (fun e => hgb (Option.some.inj e))]
      exact hb

set_option maxRecDepth 100000 in
theorem copyCheck_used {b : Nat} (w : World) (c0 : w.cell? ⟨b, 0, none⟩ = some (.pointer (some ⟨b, 0, none⟩))) :
    Calls Tryd.prog 36 #[.pointer (some ⟨b, 0, none⟩)] w fun e w' => e = .returned (.tuple #[]) ∧ w' = w := by
  go_enter Tryd.func36, Tryd.ntmps36
  obtain ⟨j, hj, _⟩ := Option.map_eq_some_iff.1 sizeBuilder
  go_wp2
  rw [Lib.run_neq_ptr_same w _ Tryd.underlying67 hj]
  go_wp2
  go_end0
  exact ⟨rfl, rfl⟩

theorem byteCells_one (l : List UInt8) : ∀ v ∈ Lib.byteCells l, v.oneCell' = true := by
  intro v hv
  simp only [Lib.byteCells, List.mem_map] at hv
  obtain ⟨x, _, rfl⟩ := hv
  rfl

theorem run_append_ownF_at {P : Program} (w : World) (base : Nat) (t ty e : TypeId) (i : TypeInfo) (z : Value) (size bytes : Nat) (ht : P.underlying t = some (.slice e)) (hi : P.info? e = some i) (hz : i.zero = some z)
    (hsize : i.size = size) (hby : i.bytes = bytes) (hzs : z.cells.size = size) (hsz : 0 < size)
    (v : Value) (n : Nat) (xs : List Value) (hown : w.ownsRowF base e size v n xs)
    (a : Addr) (m c : Nat) (news : List Value) (hl : news.length = m * size) (hnews : ∀ j u, news[j]? = some u → w.cell? (a.add j) = some u) (h1 : ∀ u ∈ news, u.oneCell' = true)
    (h63 : n + m ≤ maxLen) (hbytes : (n + m) * bytes ≤ 140737488355328) (hbase : base ≤ w.heap.size) :
    ∃ v' w', (Builtin.append_ #[t, t] ty #[v, .slice (some a) m c]).run P w = .ok v' w' ∧ w'.ownsRowF base e size v' (n + m) (xs ++ news) ∧ w.grownBy w' v.ownBlock ∧ (v'.ownBlock = v.ownBlock ∨ v'.ownBlock = some w.heap.size) := by
  obtain ⟨v', w', hr, h2, h3, _⟩ := run_append_ownF (P := P) w base t ty e i z size bytes ht hi hz hsize hby hzs hsz v n xs hown a m c news hl hnews h1 h63 hbytes hbase
  refine ⟨v', w', hr, h2, h3, ?_⟩
  rcases hown.2 with ⟨rfl, rfl⟩ | ⟨g, cap, cur, fz, rfl, hbg, hg, hfz, hnc, hcm, hcs, htake⟩
  · obtain ⟨v2, w2, r1, _, _, _, r5⟩ := run_append_own_at (P := P) w base t ty e i z size bytes ht hi hz hsize hby hzs hsz (.slice none 0 0) 0 xs ⟨hown.1, .inl ⟨rfl, rfl⟩⟩ a m c news hl hnews h1 h63 hbytes hbase
    rw [hr] at r1
    cases r1
    exact r5
  · subst hsize
    subst hby
    by_cases hroom : n + m ≤ cap
    · have hfit : n * i.size + news.length ≤ cur.size := by rw [hl, hcs, ← Nat.add_mul]; exact Nat.mul_le_mul_right _ hroom
      have hr2 := run_append_roomF (P := P) w t ty e i ht hi g n cap cur fz hg hfz a m c news hl hnews h1 hroom hfit
      rw [hr] at hr2
      cases hr2
      exact .inl rfl
    · have holds : ∀ j u, xs[j]? = some u → w.cell? ((⟨g, 0, none⟩ : Addr).add j) = some u := hown.cells (g := g) rfl
      have hr2 := run_append_grow (P := P) w t ty e i z ht hi hz ⟨g, 0, none⟩ n cap xs hown.1 holds a m c news hl hnews (by omega) (by unfold maxLen at h63; omega) (growslice_fits (by omega) hbytes)
      rw [hr] at hr2
      cases hr2
      exact .inr rfl

theorem wpList_append_ownF_at {P : Program} (w : World) {ops : Array Oper} {rest : List Oper} {o : Oper} {a : Act} {Q : Exit → Act → World → Prop} (hgd : o.guard = none) (s x : Operand) (t : TypeId)
    (ho : o.op = .call { callee := .builtin .append, args := #[s, x], argTypes := #[t, t] })
    (base : Nat) (e : TypeId) (i : TypeInfo) (z : Value) (size bytes : Nat) (ht : P.underlying t = some (.slice e)) (hi : P.info? e = some i) (hz : i.zero = some z)
    (hsize : i.size = size) (hby : i.bytes = bytes) (hzs : z.cells.size = size) (hsz : 0 < size)
    (v : Value) (n : Nat) (xs : List Value) (hs : a.eval s = v) (hown : w.ownsRowF base e size v n xs)
    (ad : Addr) (m c : Nat) (news : List Value) (hx : a.eval x = .slice (some ad) m c) (hl : news.length = m * size) (hnews : ∀ j u, news[j]? = some u → w.cell? (ad.add j) = some u) (h1 : ∀ u ∈ news, u.oneCell' = true)
    (h63 : n + m ≤ maxLen) (hbytes : (n + m) * bytes ≤ 140737488355328) (hbase : base ≤ w.heap.size)
    (h : ∀ v' w', w'.ownsRowF base e size v' (n + m) (xs ++ news) → w.grownBy w' v.ownBlock → (v'.ownBlock = v.ownBlock ∨ v'.ownBlock = some w.heap.size) → wpList P ops Q rest (a.put o.dst v') w') : wpList P ops Q (o :: rest) a w := by
  refine wpList_plain hgd fun K hK => ?_
  obtain ⟨v', w', hr, h2, h3, h4⟩ := run_append_ownF_at (P := P) w base t o.type e i z size bytes ht hi hz hsize hby hzs hsz v n xs hown ad m c news hl hnews h1 h63 hbytes hbase
  unfold Oper.wp execOp
  simp only [ho, resolve, invoke, builtin, Sem.run_bind, Sem.run_pure, Result.andThen_ok, List.map_toArray, List.map_cons, List.map_nil, hs, hx, hr]
  exact hK _ _ (h v' w' h2 h3 h4)

theorem owned_val {w : World} {B n : Nat} {v : Value} {xs : List Value} (h : w.ownsRowF B 5 1 v n xs) : ∃ a c, v = .slice a n c := by
  rcases h.2 with ⟨rfl, h0⟩ | ⟨g, cap, cur, fz, rfl, _⟩
  · exact ⟨none, 0, by rw [h0]⟩
  · exact ⟨_, cap, rfl⟩

theorem write_mid {B b : Nat} {v v' : Value} {l t : List UInt8} {w w2 : World} (h : BA B w b v l) (hB : B ≤ w.heap.size) (hown : w2.ownsRowF B 5 1 v' (l.length + t.length) (Lib.byteCells l ++ Lib.byteCells t)) (hgrow : w.grownBy w2 v.ownBlock) (hat : v'.ownBlock = v.ownBlock ∨ v'.ownBlock = some w.heap.size) :
    w2.heap[b]? = some (.cells #[.pointer (some ⟨b, 0, none⟩), v] 73 (0, 0)) ∧ w2.cell? ⟨b, 1, none⟩ = some v ∧ w2.frozen? ⟨b, 1, none⟩ = false ∧
    BA B (w2.setCell ⟨b, 1, none⟩ v') b v' (l ++ t) ∧ Fr (fun j => j = b ∨ v.ownBlock = some j) w (w2.setCell ⟨b, 1, none⟩ v') ∧ (∀ g, v'.ownBlock = some g → v.ownBlock = some g ∨ w.heap.size ≤ g) ∧ Below B w (w2.setCell ⟨b, 1, none⟩ v') := by
  have hb := h.bk
  have hne : v.ownBlock ≠ some b := by
    intro e
    obtain ⟨cur, fz, hk⟩ := ownsRowF_kind h.own e
    exact kinds_ne hb hk (by decide) rfl
  have hb2 : w2.heap[b]? = some (.cells #[.pointer (some ⟨b, 0, none⟩), v] 73 (0, 0)) := by
    rw [hgrow.block b h.lt (fun e => hne e.symm)]; exact hb
  have hne' : v'.ownBlock ≠ some b := by
    intro e
    obtain ⟨cur, fz, hk⟩ := ownsRowF_kind hown e
    exact kinds_ne hb2 hk (by decide) rfl
  have hbel : Below B w w2 := below_grown hgrow hB (fun k hk => (h.own.lt k hk).1)
  refine ⟨hb2, by rw [Lib.cell_of_heap hb2]; rfl, Lib.frozen_of_heap hb2 1, ⟨h.le, ?_, ?_⟩, ?_, ?_, hbel.setCell (p := ⟨b, 1, none⟩) h.le _⟩
  · simp [World.setCell, Array.getElem?_modify, hb2]
  · have h1 := ownsRowF_fr hown (Fr.setCell w2 ⟨b, 1, none⟩ v') (fun g hg e => hne' (by rw [hg, e]))
    rw [List.length_append, Lib.byteCells_append]
    exact h1
  · exact ((Fr.grown hgrow).trans (Fr.setCell w2 ⟨b, 1, none⟩ v')).mono (fun j hj => hj.elim .inr .inl)
  · intro g hg
    rcases hat with e | e
    · exact .inl (by rw [← e]; exact hg)
    · right
      rw [e] at hg
      exact Nat.le_of_eq (Option.some.inj hg)

set_option maxHeartbeats 1000000 in
set_option maxRecDepth 100000 in
/-- (*strings.Builder).Write. -/
theorem write_any {B b mb c : Nat} {v : Value} {l t : List UInt8} (w : World) (h : BA B w b v l) (hB : B ≤ w.heap.size) (hl : l.length + t.length ≤ 2097152)
    (ht : ∀ j u, (Lib.byteCells t)[j]? = some u → w.cell? ((⟨mb, 0, none⟩ : Addr).add j) = some u) :
    Calls Tryd.prog 33 #[.pointer (some ⟨b, 0, none⟩), .slice (some ⟨mb, 0, none⟩) t.length c] w fun e w' => ∃ v', BA B w' b v' (l ++ t) ∧ Fr (fun j => j = b ∨ v.ownBlock = some j) w w' ∧ (∀ g, v'.ownBlock = some g → v.ownBlock = some g ∨ w.heap.size ≤ g) ∧ Below B w w' ∧ e = .returned (.tuple #[.int .i64 t.length, .nilIface]) := by
  obtain ⟨i5, hi, hz0, hz1, hz2⟩ := info_parts infoByte
  have c0 := h.c0
  have c1 := h.c1
  have H : Hid (BA B w b v l) := h
  have HT : Hid (∀ j u, (Lib.byteCells t)[j]? = some u → w.cell? ((⟨mb, 0, none⟩ : Addr).add j) = some u) := ht
  clear h ht
  go_enter Tryd.func33, Tryd.ntmps33
  go_wp2_with (first
    | (go_at_call 36; refine (copyCheck_used _ c0).mono ?_; rintro e wz ⟨rfl, hww⟩; obtain rfl := hww.symm; clear hww)
    | (at_builtin; refine wpList_append_ownF_at _ rfl _ _ 40 rfl B 5 i5 (.int .u8 0) 1 1 Tryd.underlying40 hi hz0 hz1 hz2 rfl (by decide) v l.length (Lib.byteCells l) rfl H.out.own ⟨mb, 0, none⟩ t.length c (Lib.byteCells t) rfl (by simp [Lib.byteCells_length]) HT.out (byteCells_one t) (by unfold maxLen; omega) (by omega) hB ?_; intro v' w2 hown' hgrow hat; obtain ⟨a', cap', rfl⟩ : ∃ a' cap', v' = .slice a' (l.length + t.length) cap' := owned_val hown'; have HX : Hid _ := write_mid H.out hB hown' hgrow hat; have d1 := HX.out.2.1; have f1 := HX.out.2.2.1; clear hown' hgrow hat))
  refine bodyPost_ret (v := .tuple #[.int .i64 t.length, .nilIface]) (by simp [results, Tryd.results33, go_sem]) rfl ⟨_, HX.out.2.2.2.1, HX.out.2.2.2.2.1, HX.out.2.2.2.2.2.1, HX.out.2.2.2.2.2.2, rfl⟩

theorem BA_of_at {B b : Nat} {w : World} (h : Lib.BuilderAt 73 5 B b (.pointer (some ⟨b, 0, none⟩)) [] w) : ∃ v, BA B w b v [] := by
  obtain ⟨hB, v, hb, hown, _⟩ := h
  exact ⟨v, hB, hb, World.ownsRowF_of hown⟩

/-- newBlock: a new, empty builder. -/
theorem newBlock_nil (n : Nat) (w : World) (hn : n ≤ 2097152) :
    Calls Tryd.prog 32 #[.pointer none, .int .i64 n] w fun e w' => e = .returned (.pointer (some ⟨w.heap.size, 0, none⟩)) ∧ (∃ v, BA w.heap.size w' w.heap.size v []) ∧ Below w.heap.size w w' := by
  go_enter Tryd.func32, Tryd.ntmps32
  go_wp2_with fail
  refine (Tryd.Builder_Grow_fresh w.heap.size w.heap.size n (w.alloc (.cells #[.pointer none, .slice none 0 0] 73)) (Nat.le_refl _) (heap_alloc_new w _) (by simp) (by omega)).mono ?_
  rintro e w1 ⟨rfl, hb, hbel⟩
  have HE : Hid ((∃ v, BA w.heap.size w1 w.heap.size v []) ∧ Below w.heap.size w w1) := ⟨BA_of_at hb, ((Below.refl _ _).alloc (Nat.le_refl _) _).trans hbel⟩
  clear hb hbel
  go_wp2
  go_ret
  exact ⟨rfl, HE.out⟩

theorem newBlock_some {B b : Nat} {v : Value} {l : List UInt8} (n : Nat) (w : World) (h : BA B w b v l) (hn : n ≤ 2097152) :
    Calls Tryd.prog 32 #[.pointer (some ⟨b, 0, none⟩), .int .i64 n] w fun e w' => e = .returned (.pointer (some ⟨w.heap.size, 0, none⟩)) ∧ (∃ v, BA w.heap.size w' w.heap.size v []) ∧ Below w.heap.size w w' := by
  have H : Hid (BA B w b v l) := h
  have HG : Hid (∀ k : Int, 0 ≤ k → k ≤ 281474976710656 → Calls Tryd.prog 35 #[.pointer (some ⟨w.heap.size, 0, none⟩), .int .i64 k] (w.alloc (.cells #[.pointer none, .slice none 0 0] 73)) fun e w' => e = .returned (.tuple #[]) ∧ (Lib.BuilderAt 73 5 w.heap.size w.heap.size (.pointer (some ⟨w.heap.size, 0, none⟩)) [] w' ∧ Below w.heap.size (w.alloc (.cells #[.pointer none, .slice none 0 0] 73)) w')) := by
    intro k h0 h1
    obtain ⟨j, rfl⟩ : ∃ j : Nat, k = j := ⟨k.toNat, by omega⟩
    exact Tryd.Builder_Grow_fresh w.heap.size w.heap.size j (w.alloc (.cells #[.pointer none, .slice none 0 0] 73)) (Nat.le_refl _) (heap_alloc_new w _) (by simp) (by omega)
  clear h
  go_enter Tryd.func32, Tryd.ntmps32
  go_wp2_with fail
  refine (cap_any w H.out).mono ?_
  rintro e wz ⟨⟨c, rfl⟩, hww⟩
  obtain rfl := hww.symm
  clear hww
  go_wp2_with fail
  refine (HG.out _ ?_ ?_).mono ?_
  · omega
  · omega
  rintro e w1 ⟨rfl, hb, hbel⟩
  have HE : Hid ((∃ v, BA w.heap.size w1 w.heap.size v []) ∧ Below w.heap.size w w1) := ⟨BA_of_at hb, ((Below.refl _ _).alloc (Nat.le_refl _) _).trans hbel⟩
  clear hb hbel HG
  go_wp2
  go_ret
  exact ⟨rfl, HE.out⟩

end Go.Proofs.Qxb6604492aDoor
