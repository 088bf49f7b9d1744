import Derived.Test.Qxb6604492aDoorBase
import Derived.Maps.Keyed
import Derived.DeepKeys4
import Derived.Maps.OwnSet
namespace Go.Proofs.Qxb6604492aDoor
open Go.RowKit Go.Maps Go.ChangeMaps Go.WideMaps

theorem laidOut : laidOutB Tryd.prog = true := by kernel_rfl
theorem row76 : (76 : TypeId) < Tryd.prog.types.size := of_decide_eq_true (by kernel_rfl)
theorem deep76 : Tryd.prog.keyTypeAt (Tryd.prog.types.size + 1) 76 = true := by kernel_rfl
theorem cells76 : Tryd.prog.cellsOf 76 = 3 := by kernel_rfl
theorem cells9 : Tryd.prog.cellsOf 9 = 1 := by kernel_rfl
theorem cells21 : Tryd.prog.cellsOf 21 = 1 := by kernel_rfl
theorem wide76 : (match Tryd.prog.underlying 76 with | some (.array _ _) | some (.struct _) => true | _ => false) = true := by rw [Tryd.underlying76]
theorem keyed76 : Keyed Tryd.prog 76 := Keyed.of_law (deep_law_laid laidOut (m := 2) (by omega) row76 (by kernel_rfl) wide76)
theorem size76 : ∃ n, Tryd.prog.types.size = n + 1 := ⟨_, (Nat.sub_add_cancel (Nat.lt_of_le_of_lt (Nat.zero_le _) row76)).symm⟩

/-- A message's key. -/
def keyV (t : ByteArray) (c : Int) : Value := .agg #[.string t, .int .i32 (-1), .int .i32 c]

theorem keyOf_mk (t : ByteArray) (c : Int) (ht : t.size ≤ maxLen) (hc : (Lit.int .i32 c).wf = true) : ∃ l, keyOf Tryd.prog 76 (keyV t c) = some l := by
  obtain ⟨n, hn⟩ := size76
  have h1 : (Lit.int .i32 (-1)).wf = true := by decide
  refine ⟨.string (keyBytes [.string t.data.toList, .int .i32 (-1), .int .i32 c]), ?_⟩
  have hd : Tryd.prog.keyType 76 = true := deep76
  have hf : (keyV t c).formed Tryd.prog 76 = true := by simp [keyV, Value.formed, Tryd.underlying76, cells76]
  unfold keyOf
  rw [Tryd.underlying76]
  simp only [hd, hf, Bool.and_self, if_true]
  rw [hn]
  simp [keyV, Value.cells, Program.keyLits, Tryd.underlying76, Tryd.underlying9, Tryd.underlying21, cells76, cells9, cells21, ht, h1, hc]

theorem zero21 (w : World) : (zeroValue 21).run Tryd.prog w = .ok (.int .i32 0) w := by kernel_rfl

/-- The map of block kb holds i at the key of text tx i and check ck i, for each i < kc, and no more. -/
def MapOf (w : World) (kb kc : Nat) (tx : Nat → ByteArray) (ck : Nat → Int) : Prop :=
  ∃ (es : Array MapEntry) (clock : Nat), w.heap[kb]? = some (.map es clock) ∧ es.size = kc ∧ ∀ i x, es.toList[i]? = some x → x.key = keyV (tx i) (ck i) ∧ x.val = .int .i32 i

theorem makeMap46 (w : World) : (Instr.makeMap 46 none).run Tryd.prog w = .ok (.map (some w.heap.size)) (w.alloc (.map #[] 0)) := by
  simp [Instr.makeMap, newObj, go_sem]
  rfl

theorem MapOf.made (w : World) (tx : Nat → ByteArray) (ck : Nat → Int) : MapOf (w.alloc (.map #[] 0)) w.heap.size 0 tx ck :=
  ⟨#[], 0, heap_alloc_new w _, rfl, fun i x hx => by simp at hx⟩

section
variable {w : World} {kb kc : Nat} {tx : Nat → ByteArray} {ck : Nat → Int}

theorem MapOf.keys {es : Array MapEntry} (hs : es.size = kc) (he : ∀ i x, es.toList[i]? = some x → x.key = keyV (tx i) (ck i) ∧ x.val = .int .i32 i) (ht : ∀ i, i < kc → (tx i).size ≤ maxLen) (hc : ∀ i, i < kc → (Lit.int .i32 (ck i)).wf = true) : ∀ e ∈ es.toList, ∃ l, keyOf Tryd.prog 76 e.key = some l := by
  intro e hm
  obtain ⟨i, hi⟩ := List.getElem?_of_mem hm
  have hlt : i < kc := by
    have := (List.getElem?_eq_some_iff.1 hi).1
    simpa [hs] using this
  rw [(he i e hi).1]
  exact keyOf_mk _ _ (ht i hlt) (hc i hlt)

theorem MapOf.look (h : MapOf w kb kc tx ck) (ht : ∀ i, i < kc → (tx i).size ≤ maxLen) (hc : ∀ i, i < kc → (Lit.int .i32 (ck i)).wf = true) (t : ByteArray) (c : Int) (h1 : t.size ≤ maxLen) (h2 : (Lit.int .i32 c).wf = true) :
    ((Instr.lookup 46 (.map (some kb)) (keyV t c) true).run Tryd.prog w = .ok (.tuple #[.int .i32 0, .bool false]) w ∧ ∀ i, i < kc → ¬ (tx i = t ∧ ck i = c)) ∨
    ∃ i, i < kc ∧ tx i = t ∧ ck i = c ∧ (Instr.lookup 46 (.map (some kb)) (keyV t c) true).run Tryd.prog w = .ok (.tuple #[.int .i32 i, .bool true]) w := by
  obtain ⟨es, clock, hb, hs, he⟩ := h
  obtain ⟨kl, hkey⟩ := keyOf_mk t c h1 h2
  have hz := zero21 w
  rcases keyed76.find w hkey es.toList (MapOf.keys hs he ht hc) with ⟨r1, r2⟩ | ⟨j, e0, r1, r2, r3⟩
  · left
    refine ⟨by simp [Instr.lookup, run_underlying Tryd.underlying46, MapKept.run_getObj_map hb, keyed76.check w _ hkey, r1, hz, Result.andThen], fun i hi ⟨e1, e2⟩ => ?_⟩
    have hx : es.toList[i]? = some es[i] := by simp
    refine r2 es[i] (List.mem_of_getElem? hx) ?_
    rw [(he i _ hx).1, e1, e2]
  · right
    have hj : j < kc := by
      have := (List.getElem?_eq_some_iff.1 r2).1
      simpa [hs] using this
    obtain ⟨k1, k2⟩ := he j e0 r2
    rw [k1] at r3
    have r4 : tx j = t ∧ ck j = c := by
      simp only [keyV, Value.agg.injEq] at r3
      simpa using r3
    refine ⟨j, hj, r4.1, r4.2, ?_⟩
    simp [Instr.lookup, run_underlying Tryd.underlying46, MapKept.run_getObj_map hb, keyed76.check w _ hkey, r1, k2, Result.andThen]

theorem MapOf.len (h : MapOf w kb kc tx ck) : (Builtin.len_ #[46] 3 #[.map (some kb)]).run Tryd.prog w = .ok (.int .i64 kc) w := by
  obtain ⟨es, clock, hb, hs, he⟩ := h
  subst hs
  simp [Builtin.len_, run_underlying Tryd.underlying46, MapKept.run_getObj_map hb, goInt, Result.andThen]

theorem MapOf.put (h : MapOf w kb kc tx ck) (ht : ∀ i, i < kc → (tx i).size ≤ maxLen) (hc : ∀ i, i < kc → (Lit.int .i32 (ck i)).wf = true) (h1 : (tx kc).size ≤ maxLen) (h2 : (Lit.int .i32 (ck kc)).wf = true) (hn : ∀ i, i < kc → ¬ (tx i = tx kc ∧ ck i = ck kc)) :
    ∃ w', (Instr.mapUpdate 46 (.map (some kb)) (keyV (tx kc) (ck kc)) (.int .i32 kc)).run Tryd.prog w = .ok () w' ∧ MapOf w' kb (kc + 1) tx ck ∧ w.grownBy w' (some kb) := by
  obtain ⟨es, clock, hb, hs, he⟩ := h
  obtain ⟨kl, hkey⟩ := keyOf_mk (tx kc) (ck kc) h1 h2
  rcases keyed76.find w hkey es.toList (MapOf.keys hs he ht hc) with ⟨r1, r2⟩ | ⟨j, e0, r1, r2, r3⟩
  · refine ⟨setBlock w kb (.map (es.push ⟨keyV (tx kc) (ck kc), .int .i32 kc, clock⟩) (clock + 1)), ?_, ⟨es.push ⟨keyV (tx kc) (ck kc), .int .i32 kc, clock⟩, clock + 1, ?_, by simp [hs], ?_⟩, ?_⟩
    · simp [Instr.mapUpdate, run_underlying Tryd.underlying46, MapKept.run_getObj_map hb, keyed76.check w false hkey, r1, MapKept.run_setObj_map _ hb, Result.andThen, setBlock]
    · exact heap_setBlock_same hb _
    · intro i x hx
      rw [Array.toList_push, List.getElem?_append] at hx
      split at hx
      · exact he i x hx
      · rename_i hge
        rw [List.getElem?_singleton] at hx
        split at hx
        · rename_i h0
          cases hx
          have : i = kc := by
            have e1 : es.toList.length = kc := by simp [hs]
            rw [e1] at hge h0
            omega
          subst this
          exact ⟨rfl, rfl⟩
        · cases hx
    · exact ⟨rfl, rfl, rfl, by simp [setBlock], fun k hk hne => heap_setBlock_other hb _ (fun e => hne (by rw [e]))⟩
  · exfalso
    have hj : j < kc := by
      have := (List.getElem?_eq_some_iff.1 r2).1
      simpa [hs] using this
    obtain ⟨k1, k2⟩ := he j e0 r2
    rw [k1] at r3
    have r4 : tx j = tx kc ∧ ck j = ck kc := by
      simp only [keyV, Value.agg.injEq] at r3
      simpa using r3
    exact hn j hj r4
end

theorem look_nil46 (w : World) (t : ByteArray) (c : Int) (h1 : t.size ≤ maxLen) (h2 : (Lit.int .i32 c).wf = true) : (Instr.lookup 46 (.map none) (keyV t c) true).run Tryd.prog w = .ok (.tuple #[.int .i32 0, .bool false]) w := by
  obtain ⟨kl, hkey⟩ := keyOf_mk t c h1 h2
  exact Maps.look_nil true keyed76 Tryd.underlying46 (zero21 w) hkey

theorem len_nil46 (w : World) : (Builtin.len_ #[46] 3 #[.map none]).run Tryd.prog w = .ok (.int .i64 0) w := by
  exact Maps.len_nil Tryd.underlying46 3

end Go.Proofs.Qxb6604492aDoor
