import Derived.Test.Qxb6604472aClone
import Derived.Maps.OwnOps
import Derived.Maps.OwnSet
import Derived.Maps.StringElems
namespace Go.Proofs.Qxb6604472a
open Go.RowKit Go.Maps Go.ChangeMaps Go.WideMaps

theorem law9 : Keyed Try.prog 9 := string_keyed Try.underlying9
theorem zero9 (w : World) : (zeroValue 9).run Try.prog w = .ok (.string ⟨#[]⟩) w := by kernel_rfl
theorem makeMap31 (w : World) (n : Int) : (Instr.makeMap 31 (some (.int .i64 n))).run Try.prog w = .ok (.map (some w.heap.size)) (w.alloc (.map #[] 0)) := by
  simp [Instr.makeMap, run_underlying Try.underlying31, asInt, newObj, go_sem]
  rfl

/-- A map of strings to strings, nil or of the call's own making. -/
def MapIs (w : World) (r : Option Nat) : Prop := r = none ∨ ∃ b n, ∃ D : DataW Unit, r = some b ∧ w.ownsMap Try.prog 9 (plainElem Try.prog 9) b n D

theorem ownsMap_below {w w' : World} {B b n : Nat} {D : DataW Unit} (h : w.ownsMap Try.prog 9 (plainElem Try.prog 9) b n D) (hb : Below B w w') (hB : b < B) : w'.ownsMap Try.prog 9 (plainElem Try.prog 9) b n D := by
  obtain ⟨es, clock, hh, F, hs, hD⟩ := h
  exact ⟨es, clock, (hb.block b hB).trans hh, F, hs, hD⟩

theorem MapIs.below {w w' : World} {r : Option Nat} (h : MapIs w r) (hb : Below w.heap.size w w') : MapIs w' r := by
  rcases h with h | ⟨b, n, D, rfl, h⟩
  · exact .inl h
  · exact .inr ⟨b, n, D, rfl, ownsMap_below h hb h.lt⟩

theorem MapIs.len {w : World} {r : Option Nat} (h : MapIs w r) : ∃ z : Int, (Builtin.len_ #[31] 3 #[.map r]).run Try.prog w = .ok (.int .i64 z) w := by
  rcases h with rfl | ⟨b, n, D, rfl, h⟩
  · exact ⟨0, Maps.len_nil (w := w) Try.underlying31 3⟩
  · exact ⟨_, h.len Try.underlying31 3⟩

theorem MapIs.look {w : World} {r : Option Nat} (h : MapIs w r) (s : ByteArray) (hs : s.size ≤ maxLen) : ∃ (v : ByteArray) (b : Bool), (Instr.lookup 31 (.map r) (.string s) true).run Try.prog w = .ok (.tuple #[.string v, .bool b]) w := by
  rcases h with rfl | ⟨b, n, D, rfl, h⟩
  · exact ⟨⟨#[]⟩, false, Maps.look_nil (w := w) true law9 Try.underlying31 (zero9 w) (keyOf_string_mk Try.underlying9 hs)⟩
  · obtain ⟨v, ps, hrun, hv⟩ := h.look_ok law9 Try.underlying31 (zero9 w) (plainElem_string Try.underlying9 (by decide)) (keyOf_string_mk Try.underlying9 hs)
    obtain ⟨x, rfl, _⟩ := plainElem_string_inv Try.underlying9 hv
    exact ⟨x, _, hrun⟩

attribute [local go_sem] eq22

theorem map_nil (n1 c1 : Nat) (a1 : Option Addr) (w : World) : Calls Try.prog 24 #[.slice none 0 0, .slice a1 n1 c1] w fun e w' => e = .returned (.map none) ∧ w' = w := by
  go_enter Try.func24, Try.ntmps24
  go_wp2
  go_ret
  exact ⟨rfl, rfl⟩

set_option maxHeartbeats 400000 in
theorem map_some (a : Addr) (n c : Nat) (S : Nat → ByteArray) (a1 : Option Addr) (n1 c1 : Nat) (S1 : Nat → ByteArray) (w : World) (hn : n * 16 ≤ 140737488351232) (h : StrsAt w (some a) n S) (h1 : StrsAt w a1 n1 S1)
    (hs : ∀ i, (S i).size ≤ maxLen) (hs1 : ∀ i, (S1 i).size ≤ maxLen) :
    Calls Try.prog 24 #[.slice (some a) n c, .slice a1 n1 c1] w fun e w' => e = .returned (.map (some w.heap.size)) ∧ MapIs w' (some w.heap.size) ∧ Below w.heap.size w w' := by
  have H : Hid (StrsAt w (some a) n S) := h
  have H1 : Hid (StrsAt w a1 n1 S1) := h1
  have HS : Hid (∀ i, (S i).size ≤ maxLen) := hs
  have HS1 : Hid (∀ i, (S1 i).size ≤ maxLen) := hs1
  clear h h1 hs hs1
  have hmm := makeMap31
  go_enter Try.func24, Try.ntmps24
  go_wp2
  go_loopw [6] (fun i wr => ∃ (k : Nat) (D : DataW Unit), k ≤ n ∧ i = .int .i64 k ∧ wr.ownsMap Try.prog 9 (plainElem Try.prog 9) w.heap.size k D ∧ Below w.heap.size w wr) (fun i _ => n - (intOf i).toNat)
  case atStart => exact ⟨0, .map [], Nat.zero_le _, rfl, World.ownsMap_made _ _ _ _, (Below.refl _ _).alloc (Nat.le_refl _) _⟩
  case round =>
    obtain ⟨k, D, hk, rfl, hown, hbel⟩ := hrel
    clear hmm
    by_cases hlt : k < n
    · obtain ⟨b, off, e, hc⟩ := H.out k hlt
      cases e
      have hcr : wr.cell? ⟨b, off + k, none⟩ = some (.string (S k)) := by rw [hbel.cell (lt_of_cell hc)]; exact hc
      have HO : Hid (wr.ownsMap Try.prog 9 (plainElem Try.prog 9) w.heap.size k D ∧ Below w.heap.size w wr) := ⟨hown, hbel⟩
      by_cases hl1 : k < n1
      · obtain ⟨b1, off1, e1, hc1⟩ := H1.out k hl1
        subst e1
        have hcr1 : wr.cell? ⟨b1, off1 + k, none⟩ = some (.string (S1 k)) := by rw [hbel.cell (lt_of_cell hc1)]; exact hc1
        clear hown hbel hc hc1
        go_wp2_with (at_mapUpdate; refine wpList_mapUpdate_own _ rfl _ _ _ 31 rfl 9 9 law9 Try.underlying31 _ w.heap.size k D rfl HO.out.1 (by unfold maxLen; omega) _ _ _ rfl rfl (keyOf_string_mk Try.underlying9 (HS.out k)) _ [] (plainElem_string Try.underlying9 (HS1.out k)) ?_; intro w2 hown2 hgrow2)
        have HO2 : Hid (w2.ownsMap Try.prog 9 (plainElem Try.prog 9) w.heap.size (k + 1) (D.put (.string (S k).data.toList) (.lit (.string (S1 k).data.toList))) ∧ Below w.heap.size w w2) := ⟨hown2, HO.out.2.grown hgrow2 HO.out.2.size (fun j hj => by cases hj; exact Nat.le_refl _)⟩
        clear hown2 hgrow2 hcr hcr1
        go_wp2
        go_roundw
        case rel => exact ⟨k + 1, _, by omega, by go_num, HO2.out⟩
        case measure => simp [intOf]; omega
      · clear hown hbel hc
        go_wp2_with (at_mapUpdate; refine wpList_mapUpdate_own _ rfl _ _ _ 31 rfl 9 9 law9 Try.underlying31 _ w.heap.size k D rfl HO.out.1 (by unfold maxLen; omega) _ _ _ rfl rfl (keyOf_string_mk Try.underlying9 (HS.out k)) _ [] (plainElem_string Try.underlying9 (s := ⟨#[]⟩) (by decide)) ?_; intro w2 hown2 hgrow2)
        have HO2 : Hid (w2.ownsMap Try.prog 9 (plainElem Try.prog 9) w.heap.size (k + 1) (D.put (.string (S k).data.toList) (.lit (.string (⟨#[]⟩ : ByteArray).data.toList))) ∧ Below w.heap.size w w2) := ⟨hown2, HO.out.2.grown hgrow2 HO.out.2.size (fun j hj => by cases hj; exact Nat.le_refl _)⟩
        clear hown2 hgrow2 hcr
        go_wp2
        go_roundw
        case rel => exact ⟨k + 1, _, by omega, by go_num, HO2.out⟩
        case measure => simp [intOf]; omega
    · have R : Hid (MapIs wr (some w.heap.size) ∧ Below w.heap.size w wr) := ⟨.inr ⟨_, k, D, rfl, hown⟩, hbel⟩
      clear hown hbel
      go_wp2
      go_ret
      exact ⟨rfl, R.out⟩

/-- b1Map: a new map, or nil where there are no keys. -/
theorem map_any (a : Option Addr) (n c : Nat) (S : Nat → ByteArray) (a1 : Option Addr) (n1 c1 : Nat) (S1 : Nat → ByteArray) (w : World) (hn : n * 16 ≤ 140737488351232) (hnil : a = none → n = 0 ∧ c = 0) (h : StrsAt w a n S) (h1 : StrsAt w a1 n1 S1)
    (hs : ∀ i, (S i).size ≤ maxLen) (hs1 : ∀ i, (S1 i).size ≤ maxLen) :
    Calls Try.prog 24 #[.slice a n c, .slice a1 n1 c1] w fun e w' => ∃ r, e = .returned (.map r) ∧ MapIs w' r ∧ Below w.heap.size w w' := by
  cases a with
  | none =>
    obtain ⟨rfl, rfl⟩ := hnil rfl
    refine (map_nil n1 c1 a1 w).mono ?_
    rintro e w' ⟨rfl, rfl⟩
    exact ⟨none, rfl, .inl rfl, Below.refl _ _⟩
  | some a =>
    refine (map_some a n c S a1 n1 c1 S1 w hn h h1 hs hs1).mono ?_
    rintro e w' ⟨rfl, h2, h3⟩
    exact ⟨_, rfl, h2, h3⟩

end Go.Proofs.Qxb6604472a
