import Derived.Test.Qxb6602571aFold
import Derived.Laws.BytesString
import Derived.Laws.Cells
import Derived.Deep.RegionHeld3
import Derived.Deep.AppendLies
namespace Go.Proofs.Qxb6602571a
open Go.RowKit

/-- 'append' at a step of a region that draws its order, whatever is appended (nothing too). -/
theorem step_append_own {P : Program} (w : World) {ops : Array Oper} {o : Oper} {a : Act} {K : Act → World → Prop} {Q : Exit → Act → World → Prop} {E : Prop} (hgd : o.guard = none) (s x : Operand) (t : TypeId)
    (ho : o.op = .call { callee := .builtin .append, args := #[s, x], argTypes := #[t, t] })
    (base : Nat) (e : TypeId) (i : TypeInfo) (z : Value) (size bytes : Nat) (ht : P.underlying t = some (.slice e)) (hi : P.info? e = some i) (hz : i.zero = some z)
    (hsize : i.size = size) (hby : i.bytes = bytes) (hzs : z.cells.size = size) (hsz : 0 < size)
    (v : Value) (n : Nat) (xs : List Value) (hs : a.eval s = v) (hown : w.ownsRow base e size v n xs)
    (ad : Addr) (m c : Nat) (news : List Value) (hx : a.eval x = .slice (some ad) m c) (hl : news.length = m * size) (hnews : ∀ j u, news[j]? = some u → w.cell? (ad.add j) = some u) (h1 : ∀ u ∈ news, u.oneCell' = true)
    (h63 : n + m ≤ maxLen) (hbytes : (n + m) * bytes ≤ 140737488355328) (hbase : base ≤ w.heap.size)
    (h : ∀ v' w', w'.ownsRow base e size v' (n + m) (xs ++ news) → w.grownBy w' v.ownBlock → K (a.put o.dst v') w') :
    if Region.wanted o (yielded ops a.tmps) = true then Oper.wp P o a w K Q else E := by
  have hw : Region.wanted o (yielded ops a.tmps) = true := by simp [Region.wanted, hgd]
  rw [if_pos hw]
  obtain ⟨v', w', hr, h2, h3, _, _⟩ := run_append_own_at (P := P) w base t o.type e i z size bytes ht hi hz hsize hby hzs hsz v n xs hown ad m c news hl hnews h1 h63 hbytes hbase
  unfold Oper.wp execOp
  simp only [ho, resolve, invoke, builtin, Sem.run_bind, Sem.run_pure, Result.andThen_ok, List.map_toArray, List.map_cons, List.map_nil, hs, hx, hr]
  exact h v' w' h2 h3

/-- The string of these bytes. -/
def strOf (t : List Int) : ByteArray := t.foldl (fun r n => r.push (UInt8.ofNat n.toNat)) ByteArray.empty

theorem conv_some (w : World) (a : Addr) (m c : Nat) (t : List Int) (hm : m = t.length) (h : ∀ j v, (t.map (Value.int .u8))[j]? = some v → w.cell? (a.add j) = some v) :
    (convert 22 9 (.slice (some a) m c)).run Try.prog w = .ok (.string (strOf t)) w := by
  rw [run_convert_bytes_string w 22 9 5 _ _ _ Try.underlying22 Try.underlying5 Try.underlying9]
  have h1 := run_loadCells_list (P := Try.prog) w a (t.map (Value.int .u8)) h
  rw [List.length_map, ← hm] at h1
  exact run_bytesToString w a m c t h1

theorem conv_none (w : World) (c : Nat) : (convert 22 9 (.slice none 0 c)).run Try.prog w = .ok (.string (strOf [])) w := by
  rw [run_convert_bytes_string w 22 9 5 _ _ _ Try.underlying22 Try.underlying5 Try.underlying9]
  rfl

theorem conv_own {w : World} {B : Nat} {v : Value} {t : List Int} (h : Own w B v t) : (convert 22 9 v).run Try.prog w = .ok (.string (strOf t)) w := by
  have hc := h
  rcases h.2 with ⟨rfl, h0⟩ | ⟨g, cap, cur, rfl, _⟩
  · obtain rfl : t = [] := List.eq_nil_of_length_eq_zero h0
    exact conv_none w 0
  · exact conv_some w _ _ _ t rfl (World.ownsRow.cells hc rfl)

/-- .. of a part of the data. -/
theorem conv_by {w : World} {g : Nat} {ad : Option Addr} {n : Nat} {d : Nat → Int} (h : By w g ad n d 0) (p q : Nat) (hpq : p ≤ q) (hq : q ≤ n) :
    (convert 22 9 (.slice (if n = p then ad else ad.map (·.add (p * 1))) (q - p) (n - p))).run Try.prog w = .ok (.string (strOf (seg d p q))) w := by
  by_cases e : p = q
  · subst e
    rw [Nat.sub_self, seg_self]
    cases hx : (if n = p then ad else ad.map (·.add (p * 1))) with
    | none => exact conv_none w _
    | some x => exact conv_some w x 0 _ [] rfl (fun j v hv => by simp at hv)
  · obtain ⟨b, off, rfl, _, _⟩ := h p (by omega)
    rw [if_neg (by omega)]
    have h1 := h.news p q hq
    rw [Nat.zero_add, Nat.zero_add] at h1
    rw [Nat.mul_one, Option.map_some, add_none]
    exact conv_some w _ _ _ _ (by rw [seg_length]) h1

theorem Own.but {w w' : World} {g B : Nat} {v : Value} {t : List Int} (h : Own w B v t) (hb : But g w w') (hg : g < B) : Own w' B v t := by
  obtain ⟨h1, h2⟩ := h
  refine ⟨h1, ?_⟩
  rcases h2 with h2 | ⟨k, cap, cur, hv, hk, hh, r⟩
  · exact .inl h2
  · exact .inr ⟨k, cap, cur, hv, hk, by rw [hb.block k (by omega)]; exact hh, r⟩

theorem Rd.below {w w' : World} {g : Nat} {ad : Option Addr} {n : Nat} {p l dep : Int} (h : Rd w g ad n p l dep) {B : Nat} (hb : Below B w w') (hg : g < B) : Rd w' g ad n p l dep := by
  unfold Rd at *
  rw [hb.block g hg]; exact h

theorem cell_alloc_lt {w : World} {o : Obj} {a : Addr} {v : Value} (h : w.cell? a = some v) : (w.alloc o).cell? a = some v := by
  have hlt : a.block < w.heap.size := by
    unfold World.cell? at h
    cases hh : w.heap[a.block]? with
    | none => simp [hh] at h
    | some o => exact (Array.getElem?_eq_some_iff.1 hh).1
  rw [World.cell?_of_block (w := w) (Below.heap_alloc _ _ _ hlt)]
  exact h

/-- What an append to a row of the call's own leaves of the reader. -/
theorem Rd.far {Y w4 : World} {B g : Nat} {v : Value} {t : List Int} {ad : Option Addr} {n : Nat} {p l dep : Int} (h : Rd Y g ad n p l dep) (ho : Own Y B v t) (hgB : g < B) (hgrow : Y.grownBy w4 v.ownBlock) : Rd w4 g ad n p l dep := by
  have hlt := h.lt
  unfold Rd at *
  rw [hgrow.block g hlt (fun e => by have := (World.ownsRow.lt ho g e.symm).1; omega)]
  exact h

theorem Below.far {w Y w4 : World} {B g : Nat} {v : Value} {t : List Int} (hb : Below g w Y) (hg : g < Y.heap.size) (ho : Own Y B v t) (hgB : g < B) (hgrow : Y.grownBy w4 v.ownBlock) : Below g w w4 :=
  hb.grown hgrow (by omega) (fun k e => by have := (World.ownsRow.lt ho k e).1; omega)

theorem By.cut {w : World} {g : Nat} {b off : Nat} {n : Nat} {d : Nat → Int} (h : By w g (some ⟨b, off, none⟩) n d 0) (p q : Nat) (hq : q ≤ n) :
    ∀ i u, ((seg d p q).map (Value.int .u8))[i]? = some u → w.cell? ((⟨b, off + p, none⟩ : Addr).add i) = some u := by
  have := h.news p q hq
  rw [Nat.zero_add, Nat.zero_add] at this
  exact this

/-- The state behind an append: the reader stands, the text has grown. -/
def St (w : World) (g : Nat) (ad : Option Addr) (n : Nat) (dep : Int) (d : Nat → Int) (Y : World) (v : Value) (t : List Int) (q : Nat) (l : Int) : Prop :=
  Own Y w.heap.size v t ∧ Rd Y g ad n q l dep ∧ Below g w Y ∧ By Y g ad n d 0

theorem St.far {w : World} {g : Nat} {ad : Option Addr} {n : Nat} {dep : Int} {d : Nat → Int} {Y w4 : World} {v v' : Value} {t t2 : List Int} {q : Nat} {l : Int} {m : Nat} (h : St w g ad n dep d Y v t q l) (hgB : g < w.heap.size) (hm : m = t2.length)
    (ho : w4.ownsRow w.heap.size 5 1 v' (t.length + m) (t.map (Value.int .u8) ++ t2.map (Value.int .u8))) (hgrow : Y.grownBy w4 v.ownBlock) : St w g ad n dep d w4 v' (t ++ t2) q l := by
  obtain ⟨h1, h2, h3, h4⟩ := h
  have hB := Below.far (Below.refl g Y) h2.lt h1 hgB hgrow
  exact ⟨Own.of_append hm ho, h2.far h1 hgB hgrow, h3.trans hB, h4.below hB⟩

theorem St.drewN {w : World} {g : Nat} {ad : Option Addr} {n : Nat} {dep : Int} {d : Nat → Int} {Y : World} {v : Value} {t : List Int} {q : Nat} {l : Int} (h : St w g ad n dep d Y v t q l) (m : Nat) : St w g ad n dep d (Y.drewN m) v t q l :=
  ⟨h.1, h.2.1, h.2.2.1.trans ((But.refl g Y).drewN m).below, h.2.2.2.below ((But.refl g Y).drewN m).below⟩

theorem St.but {w : World} {g : Nat} {ad : Option Addr} {n : Nat} {dep : Int} {d : Nat → Int} {Y Y' : World} {v : Value} {t : List Int} {q r : Nat} {l l2 : Int} (h : St w g ad n dep d Y v t q l) (hgB : g < w.heap.size) (hb : But g Y Y') (hr : Rd Y' g ad n r l2 dep) : St w g ad n dep d Y' v t r l2 :=
  ⟨h.1.but hb hgB, hr, h.2.2.1.trans hb.below, h.2.2.2.below hb.below⟩

theorem St.base {w : World} {g : Nat} {ad : Option Addr} {n : Nat} {dep : Int} {d : Nat → Int} {Y : World} {v : Value} {t : List Int} {q : Nat} {l : Int} (h : St w g ad n dep d Y v t q l) : w.heap.size ≤ Y.heap.size := h.2.2.1.size

theorem St.alloc {w : World} {g : Nat} {ad : Option Addr} {n : Nat} {dep : Int} {d : Nat → Int} {Y : World} {v : Value} {t : List Int} {q : Nat} {l : Int} (h : St w g ad n dep d Y v t q l) (hgB : g < w.heap.size) (o : Obj) : St w g ad n dep d (Y.alloc o) v t q l := by
  have hs := h.base
  have hB : Below Y.heap.size Y (Y.alloc o) := (Below.refl _ _).alloc (Nat.le_refl _) o
  exact ⟨World.ownsRow.alloc h.1 _, h.2.1.below hB h.2.1.lt, h.2.2.1.trans (hB.mono (by omega)), h.2.2.2.below (hB.mono (by omega))⟩

theorem St.drew {w : World} {g : Nat} {ad : Option Addr} {n : Nat} {dep : Int} {d : Nat → Int} {Y : World} {v : Value} {t : List Int} {q : Nat} {l : Int} (h : St w g ad n dep d Y v t q l) : St w g ad n dep d Y.drew v t q l :=
  ⟨h.1, h.2.1, h.2.2.1.trans ((But.refl g Y).drew).below, h.2.2.2.below ((But.refl g Y).drew).below⟩

theorem cell_drew {W : World} (a : Addr) : W.drew.cell? a = W.cell? a := rfl

end Go.Proofs.Qxb6602571a
