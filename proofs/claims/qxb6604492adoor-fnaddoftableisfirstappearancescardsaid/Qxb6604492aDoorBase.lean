import Derived.Test.Qxb6604492aDoorChecked
import Derived.WalkKit
import Derived.Below
import Derived.Lib.FrozenHead2
import Derived.Lib.UnsafeStr
import Derived.Laws.IdiomStrings
namespace Go.Proofs.Qxb6604492aDoor
open Go.RowKit

/-- Every block that stood and that S does not name stands as it stood. -/
def Fr (S : Nat → Prop) (w w' : World) : Prop := ∀ j o, w.heap[j]? = some o → ¬ S j → w'.heap[j]? = some o

theorem Fr.refl (S : Nat → Prop) (w : World) : Fr S w w := fun _ _ h _ => h
theorem Fr.trans {S T : Nat → Prop} {a b c : World} (h : Fr S a b) (k : Fr T b c) : Fr (fun j => S j ∨ T j) a c :=
  fun j o hj hn => k j o (h j o hj (fun e => hn (.inl e))) (fun e => hn (.inr e))
theorem Fr.mono {S T : Nat → Prop} {a b : World} (h : Fr S a b) (hs : ∀ j, S j → T j) : Fr T a b := fun j o hj hn => h j o hj (fun e => hn (hs j e))
theorem Fr.drew {S : Nat → Prop} {a b : World} (h : Fr S a b) : Fr S a b.drew := h
theorem Fr.grown {w w' : World} {row : Option Nat} (h : w.grownBy w' row) : Fr (fun j => row = some j) w w' := by
  intro j o hj hn
  rw [h.block j (Array.getElem?_eq_some_iff.1 hj).1 (fun e => hn e.symm)]
  exact hj
theorem Fr.alloc (w : World) (o : Obj) : Fr (fun _ => False) w (w.alloc o) := by
  intro j x hj _
  rw [Lib.alloc_old w o j (Array.getElem?_eq_some_iff.1 hj).1]
  exact hj
theorem Fr.setCell (w : World) (a : Addr) (v : Value) : Fr (fun j => j = a.block) w (w.setCell a v) := by
  intro j x hj hn
  rw [Below.heap_setCell _ _ _ _ hn]
  exact hj

theorem ownsRow_fr {w w' : World} {S : Nat → Prop} {B e sz n : Nat} {v : Value} {xs : List Value} (h : w.ownsRow B e sz v n xs) (f : Fr S w w') (hS : ∀ g, v.ownBlock = some g → ¬ S g) : w'.ownsRow B e sz v n xs := by
  refine ⟨h.1, ?_⟩
  rcases h.2 with hn | ⟨g, cap, cur, rfl, hb, hg, rest⟩
  · exact .inl hn
  · exact .inr ⟨g, cap, cur, rfl, hb, f g _ hg (hS g rfl), rest⟩

theorem ownsRowF_fr {w w' : World} {S : Nat → Prop} {B e sz n : Nat} {v : Value} {xs : List Value} (h : w.ownsRowF B e sz v n xs) (f : Fr S w w') (hS : ∀ g, v.ownBlock = some g → ¬ S g) : w'.ownsRowF B e sz v n xs := by
  refine ⟨h.1, ?_⟩
  rcases h.2 with hn | ⟨g, cap, cur, fz, rfl, hb, hg, rest⟩
  · exact .inl hn
  · exact .inr ⟨g, cap, cur, fz, rfl, hb, f g _ hg (hS g rfl), rest⟩

theorem ownsRow_kind {w : World} {B e sz n : Nat} {v : Value} {xs : List Value} (h : w.ownsRow B e sz v n xs) {g : Nat} (hg : v.ownBlock = some g) : ∃ cur, w.heap[g]? = some (.cells cur e (0, 0)) := by
  rcases h.2 with ⟨rfl, _⟩ | ⟨g', cap, cur, rfl, hb, hh, rest⟩
  · simp [Value.ownBlock] at hg
  · simp [Value.ownBlock] at hg
    subst hg
    exact ⟨cur, hh⟩

theorem ownsRowF_kind {w : World} {B e sz n : Nat} {v : Value} {xs : List Value} (h : w.ownsRowF B e sz v n xs) {g : Nat} (hg : v.ownBlock = some g) : ∃ cur fz, w.heap[g]? = some (.cells cur e fz) := by
  rcases h.2 with ⟨rfl, _⟩ | ⟨g', cap, cur, fz, rfl, hb, hh, rest⟩
  · simp [Value.ownBlock] at hg
  · simp [Value.ownBlock] at hg
    subst hg
    exact ⟨cur, fz, hh⟩

theorem kinds_ne {w : World} {j k : Nat} {c1 c2 : Array Value} {t1 t2 : TypeId} {f1 f2 : Nat × Nat} (h : w.heap[j]? = some (.cells c1 t1 f1)) (h' : w.heap[k]? = some (.cells c2 t2 f2)) (ht : t1 ≠ t2) : j ≠ k := by
  intro e
  subst e
  rw [h] at h'
  cases h'
  exact ht rfl

/-- The Problems at block p. -/
def PB (w : World) (p : Nat) (vc vm vk : Value) (last : Int) (vb vt vx : Value) : Prop :=
  w.heap[p]? = some (.cells #[vc, vm, vk, .int .i32 last, .slice none 0 0, .int .i64 0, .int .i64 0, .bool false, vb, vt, .slice none 0 0, vx, .int .i64 0] 52 (0, 0))

section
variable {w : World} {p : Nat} {vc vm vk : Value} {last : Int} {vb vt vx : Value}
theorem PB.c0 (h : PB w p vc vm vk last vb vt vx) : w.cell? ⟨p, 0, none⟩ = some vc := by unfold PB at h; simp [World.cell?, h]
theorem PB.c1 (h : PB w p vc vm vk last vb vt vx) : w.cell? ⟨p, 1, none⟩ = some vm := by unfold PB at h; simp [World.cell?, h]
theorem PB.c2 (h : PB w p vc vm vk last vb vt vx) : w.cell? ⟨p, 2, none⟩ = some vk := by unfold PB at h; simp [World.cell?, h]
theorem PB.c3 (h : PB w p vc vm vk last vb vt vx) : w.cell? ⟨p, 3, none⟩ = some (.int .i32 last) := by unfold PB at h; simp [World.cell?, h]
theorem PB.c8 (h : PB w p vc vm vk last vb vt vx) : w.cell? ⟨p, 8, none⟩ = some vb := by unfold PB at h; simp [World.cell?, h]
theorem PB.c9 (h : PB w p vc vm vk last vb vt vx) : w.cell? ⟨p, 9, none⟩ = some vt := by unfold PB at h; simp [World.cell?, h]
theorem PB.fr (h : PB w p vc vm vk last vb vt vx) (j : Nat) : w.frozen? ⟨p, j, none⟩ = false := by unfold PB at h; simp [World.frozen?, h]
theorem PB.lt (h : PB w p vc vm vk last vb vt vx) : p < w.heap.size := (Array.getElem?_eq_some_iff.1 h).1
theorem PB.set0 (h : PB w p vc vm vk last vb vt vx) (x : Value) : PB (w.setCell ⟨p, 0, none⟩ x) p x vm vk last vb vt vx := by
  unfold PB at *; simp [World.setCell, Array.getElem?_modify, h]
theorem PB.set1 (h : PB w p vc vm vk last vb vt vx) (x : Value) : PB (w.setCell ⟨p, 1, none⟩ x) p vc x vk last vb vt vx := by
  unfold PB at *; simp [World.setCell, Array.getElem?_modify, h]
theorem PB.set2 (h : PB w p vc vm vk last vb vt vx) (x : Value) : PB (w.setCell ⟨p, 2, none⟩ x) p vc vm x last vb vt vx := by
  unfold PB at *; simp [World.setCell, Array.getElem?_modify, h]
theorem PB.set3 (h : PB w p vc vm vk last vb vt vx) (x : Int) : PB (w.setCell ⟨p, 3, none⟩ (.int .i32 x)) p vc vm vk x vb vt vx := by
  unfold PB at *; simp [World.setCell, Array.getElem?_modify, h]
theorem PB.set8 (h : PB w p vc vm vk last vb vt vx) (x : Value) : PB (w.setCell ⟨p, 8, none⟩ x) p vc vm vk last x vt vx := by
  unfold PB at *; simp [World.setCell, Array.getElem?_modify, h]
theorem PB.set9 (h : PB w p vc vm vk last vb vt vx) (x : Value) : PB (w.setCell ⟨p, 9, none⟩ x) p vc vm vk last vb x vx := by
  unfold PB at *; simp [World.setCell, Array.getElem?_modify, h]
end

/-- A builder at block b: its buffer v holds the bytes l. -/
structure BA (B : Nat) (w : World) (b : Nat) (v : Value) (l : List UInt8) : Prop where
  le : B ≤ b
  bk : w.heap[b]? = some (.cells #[.pointer (some ⟨b, 0, none⟩), v] 73 (0, 0))
  own : w.ownsRowF B 5 1 v l.length (Lib.byteCells l)

theorem BA.fr {B : Nat} {w w' : World} {b : Nat} {v : Value} {l : List UInt8} {S : Nat → Prop} (h : BA B w b v l) (f : Fr S w w') (h1 : ¬ S b) (h2 : ∀ g, v.ownBlock = some g → ¬ S g) : BA B w' b v l := by
  exact ⟨h.le, f b _ h.bk h1, ownsRowF_fr h.own f h2⟩

theorem BA.val {B : Nat} {w : World} {b : Nat} {v : Value} {l : List UInt8} (h : BA B w b v l) : ∃ a cap, v = .slice a l.length cap := by
  rcases h.own.2 with ⟨rfl, h0⟩ | ⟨g, cap, cur, fz, rfl, _⟩
  · exact ⟨none, 0, by rw [h0]⟩
  · exact ⟨_, cap, rfl⟩

theorem BA.c1 {B : Nat} {w : World} {b : Nat} {v : Value} {l : List UInt8} (h : BA B w b v l) : w.cell? ⟨b, 1, none⟩ = some v := by
  rw [Lib.cell_of_heap h.bk]; rfl

theorem BA.c0 {B : Nat} {w : World} {b : Nat} {v : Value} {l : List UInt8} (h : BA B w b v l) : w.cell? ⟨b, 0, none⟩ = some (.pointer (some ⟨b, 0, none⟩)) := by
  rw [Lib.cell_of_heap h.bk]; rfl

theorem BA.f1 {B : Nat} {w : World} {b : Nat} {v : Value} {l : List UInt8} (h : BA B w b v l) : w.frozen? ⟨b, 1, none⟩ = false := Lib.frozen_of_heap h.bk 1

theorem BA.lt {B : Nat} {w : World} {b : Nat} {v : Value} {l : List UInt8} (h : BA B w b v l) : b < w.heap.size := by
  exact (Array.getElem?_eq_some_iff.1 h.bk).1

theorem BA.down {B B' : Nat} {w : World} {b : Nat} {v : Value} {l : List UInt8} (h : BA B w b v l) (hB : B' ≤ B) : BA B' w b v l := by
  refine ⟨Nat.le_trans hB h.le, h.bk, h.own.1, ?_⟩
  rcases h.own.2 with h0 | ⟨g, cap, cur, fz, r1, r2, r3⟩
  · exact .inl h0
  · exact .inr ⟨g, cap, cur, fz, r1, Nat.le_trans hB r2, r3⟩

theorem cap_any {B : Nat} {b : Nat} {v : Value} {l : List UInt8} (w : World) (h : BA B w b v l) :
    Calls Tryd.prog 30 #[.pointer (some ⟨b, 0, none⟩)] w fun e w' => (∃ c : Nat, e = .returned (.int .i64 c)) ∧ w' = w := by
  have c1 := h.c1
  obtain ⟨a, cap, rfl⟩ := h.val
  clear h
  go_enter Tryd.func30, Tryd.ntmps30
  go_wp2
  go_ret
  exact ⟨⟨cap, rfl⟩, rfl⟩

theorem len_any {B : Nat} {b : Nat} {v : Value} {l : List UInt8} (w : World) (h : BA B w b v l) :
    Calls Tryd.prog 31 #[.pointer (some ⟨b, 0, none⟩)] w fun e w' => e = .returned (.int .i64 l.length) ∧ w' = w := by
  have c1 := h.c1
  obtain ⟨a, cap, rfl⟩ := h.val
  clear h
  go_enter Tryd.func31, Tryd.ntmps31
  go_wp2
  go_ret
  exact ⟨rfl, rfl⟩

end Go.Proofs.Qxb6604492aDoor
