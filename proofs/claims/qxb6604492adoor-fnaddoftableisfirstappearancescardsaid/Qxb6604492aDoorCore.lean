import Derived.Test.Qxb6604492aDoorBld
import Derived.Test.Qxb6604492aDoorMap
namespace Go.Proofs.Qxb6604492aDoor
open Go.RowKit

/-- What the Problems hold: plain data and addresses. -/
structure G where
  p : Nat
  vc : Value
  vm : Value
  vk : Value
  last : Int
  vb : Value
  vt : Value
  vx : Value
  m : Nat
  bk : Nat → Nat
  st : Nat → Nat
  tx : Nat → ByteArray
  ck : Nat → Int
  br : Nat → Bool
  nb : Nat
  b : Nat → Nat
  v : Nat → Value
  D : Nat → List UInt8
  kc : Nat
  np : Nat
  of : Nat → Int
  ix : Nat → Nat

def five (bk st : Nat → Nat) (ck : Nat → Int) (br : Nat → Bool) (i : Nat) : List Value := [.int .i32 (bk i : Nat), .int .i32 (st i : Nat), .int .i32 (-1), .int .i32 (ck i), .bool (br i)]
def msgs (bk st : Nat → Nat) (ck : Nat → Int) (br : Nat → Bool) (m : Nat) : List Value := (List.range m).flatMap (five bk st ck br)
def ptrs (b : Nat → Nat) (n : Nat) : List Value := (List.range n).map fun k => .pointer (some ⟨b k, 0, none⟩)
def probs (of : Nat → Int) (ix : Nat → Nat) (n : Nat) : List Value := (List.range n).flatMap fun i => [.int .i64 (of i), .int .i32 (ix i : Nat), .int .i32 0]

theorem flat_len {α : Type} (f : Nat → List α) (k : Nat) (hf : ∀ i, (f i).length = k) : ∀ n, ((List.range n).flatMap f).length = n * k
  | 0 => by simp
  | n + 1 => by rw [List.range_succ, List.flatMap_append, List.length_append, flat_len f k hf n]; simp [hf, Nat.add_mul]

theorem flat_get {α : Type} (f : Nat → List α) (k : Nat) (hf : ∀ i, (f i).length = k) (i j : Nat) (hj : j < k) : ∀ n, i < n → ((List.range n).flatMap f)[i * k + j]? = (f i)[j]?
  | 0, h => absurd h (by omega)
  | n + 1, h => by
    rw [List.range_succ, List.flatMap_append]
    by_cases e : i = n
    · subst e
      rw [List.getElem?_append_right (by rw [flat_len f k hf]; omega), flat_len f k hf]
      simp
    · have h1 : i < n := by omega
      rw [List.getElem?_append_left (by rw [flat_len f k hf]; have : (i + 1) * k ≤ n * k := Nat.mul_le_mul_right _ h1; rw [Nat.add_mul] at this; omega)]
      exact flat_get f k hf i j hj n h1

theorem flat_congr {α : Type} (f f' : Nat → List α) (n : Nat) (h : ∀ i, i < n → f i = f' i) : (List.range n).flatMap f = (List.range n).flatMap f' := by
  induction n with
  | zero => rfl
  | succ n ih =>
    rw [List.range_succ, List.flatMap_append, List.flatMap_append, ih (fun i hi => h i (by omega))]
    simp [h n (by omega)]

theorem ptrs_get (b : Nat → Nat) (n k : Nat) (h : k < n) : (ptrs b n)[k]? = some (.pointer (some ⟨b k, 0, none⟩)) := by simp [ptrs, h]
theorem ptrs_succ (b : Nat → Nat) (n : Nat) : ptrs b (n + 1) = ptrs b n ++ [.pointer (some ⟨b n, 0, none⟩)] := by simp [ptrs, List.range_succ]
theorem ptrs_congr (b b' : Nat → Nat) (n : Nat) (h : ∀ i, i < n → b i = b' i) : ptrs b n = ptrs b' n := by
  unfold ptrs
  apply List.map_congr_left
  intro k hk
  rw [h k (by simpa using hk)]
theorem msgs_succ (bk st : Nat → Nat) (ck : Nat → Int) (br : Nat → Bool) (m : Nat) : msgs bk st ck br (m + 1) = msgs bk st ck br m ++ five bk st ck br m := by simp [msgs, List.range_succ]
theorem probs_succ (of : Nat → Int) (ix : Nat → Nat) (n : Nat) : probs of ix (n + 1) = probs of ix n ++ [.int .i64 (of n), .int .i32 (ix n : Nat), .int .i32 0] := by simp [probs, List.range_succ]

/-- Where message i ends in its block. -/
def en (m : Nat) (bk st : Nat → Nat) (D : Nat → List UInt8) (i : Nat) : Nat := if i + 1 < m ∧ bk (i + 1) = bk i then st (i + 1) else (D (bk i)).length

structure Tab (m : Nat) (bk st : Nat → Nat) (tx : Nat → ByteArray) (nb : Nat) (D : Nat → List UInt8) (tot : Nat) : Prop where
  lo : ∀ i, i < m → bk i < nb
  mono : ∀ i, i + 1 < m → bk i ≤ bk (i + 1)
  rng : ∀ i, i < m → st i ≤ en m bk st D i ∧ en m bk st D i ≤ (D (bk i)).length
  sub : ∀ i, i < m → (⟨(D (bk i)).toArray⟩ : ByteArray).extract (st i) (en m bk st D i) = tx i
  len : ∀ k, k < nb → (D k).length ≤ tot

def Known (B : Nat) (w : World) (vk : Value) (kc : Nat) (tx : Nat → ByteArray) (ck : Nat → Int) : Prop :=
  (vk = .map none ∧ kc = 0) ∨ ∃ kb, vk = .map (some kb) ∧ B ≤ kb ∧ MapOf w kb kc tx ck

def Chunks (B : Nat) (w : World) (vc : Value) (np : Nat) (of : Nat → Int) (ix : Nat → Nat) : Prop :=
  (vc = .slice none 0 0 ∧ np = 0) ∨ ∃ v1, w.ownsRow B 53 1 vc 1 [v1] ∧ w.ownsRow B 55 3 v1 np (probs of ix np)

structure Core (B : Nat) (w : World) (g : G) (tot : Nat) : Prop where
  B0 : B ≤ w.heap.size
  pB : B ≤ g.p
  pb : PB w g.p g.vc g.vm g.vk g.last g.vb g.vt g.vx
  ms : w.ownsRow B 58 5 g.vm g.m (msgs g.bk g.st g.ck g.br g.m)
  bs : w.ownsRow B 67 1 g.vb g.nb (ptrs g.b g.nb)
  bl : ∀ k, k < g.nb → BA B w (g.b k) (g.v k) (g.D k)
  ap : ∀ j k, j < g.nb → k < g.nb → j ≠ k → g.b j ≠ g.b k ∧ ∀ r, (g.v j).ownBlock = some r → (g.v k).ownBlock ≠ some r
  tab : Tab g.m g.bk g.st g.tx g.nb g.D tot
  kn : Known B w g.vk g.kc g.tx g.ck
  ch : Chunks B w g.vc g.np g.of g.ix
  mB : g.m ≤ 4096
  nB : g.nb ≤ 4097
  tB : tot ≤ 1048576
  kB : g.kc ≤ g.m
  cB : ∀ i, i < g.m → 0 ≤ g.ck i ∧ g.ck i ≤ 4
  lB : 0 ≤ g.last ∧ (0 < g.m → g.last < g.m)

/-- The message being made: the bytes of t, in a row of their own. -/
def Msg (B : Nat) (w : World) (g : G) (t : ByteArray) : Prop :=
  ∃ (mb cap : Nat) (cur : Array Value) (fz : Nat × Nat), g.vt = .slice (some ⟨mb, 0, none⟩) t.size cap ∧ B ≤ mb ∧ w.heap[mb]? = some (.cells cur 5 fz) ∧ (∀ (j : Nat) (u : Value), (Lib.byteCells t.data.toList)[j]? = some u → cur[j]? = some u) ∧ ∀ k, k < g.nb → (g.v k).ownBlock ≠ some mb

theorem Msg.val {B : Nat} {w : World} {g : G} {t : ByteArray} (h : Msg B w g t) : ∃ mb cap, g.vt = .slice (some ⟨mb, 0, none⟩) t.size cap ∧ ∀ j u, (Lib.byteCells t.data.toList)[j]? = some u → w.cell? ((⟨mb, 0, none⟩ : Addr).add j) = some u := by
  obtain ⟨mb, cap, cur, fz, h1, _, h3, h4, _⟩ := h
  refine ⟨mb, cap, h1, fun j u hu => ?_⟩
  have hadd : (⟨mb, 0, none⟩ : Addr).add j = ⟨mb, j, none⟩ := by unfold Addr.add; split <;> simp_all
  rw [hadd, cell_of_row w mb j cur 5 fz h3]
  exact h4 j u hu

theorem Msg.fr {B : Nat} {w w' : World} {g : G} {t : ByteArray} {S : Nat → Prop} (h : Msg B w g t) (f : Fr S w w') (hS : ∀ mb cur fz, w.heap[mb]? = some (.cells cur 5 fz) → (∀ k, k < g.nb → (g.v k).ownBlock ≠ some mb) → ¬ S mb) : Msg B w' g t := by
  obtain ⟨mb, cap, cur, fz, h1, h2, h3, h4, h5⟩ := h
  exact ⟨mb, cap, cur, fz, h1, h2, f mb _ h3 (hS mb cur fz h3 h5), h4, h5⟩

theorem MapOf.fr {w w' : World} {kb kc : Nat} {tx : Nat → ByteArray} {ck : Nat → Int} {S : Nat → Prop} (h : MapOf w kb kc tx ck) (f : Fr S w w') (hS : ¬ S kb) : MapOf w' kb kc tx ck := by
  obtain ⟨es, clock, hb, r⟩ := h
  exact ⟨es, clock, f kb _ hb hS, r⟩

/-- Only blocks of builders' bytes have turned: what else there is stands. S: only rows of kind 5 (bytes). -/
theorem Core.fr5 {B : Nat} {w w' : World} {g : G} {tot : Nat} {S : Nat → Prop} (h : Core B w g tot) (f : Fr S w w') (hsz : w.heap.size ≤ w'.heap.size) (hS : ∀ j, S j → ∃ cur fz, w.heap[j]? = some (.cells cur 5 fz))
    (hbl : ∀ k, k < g.nb → BA B w' (g.b k) (g.v k) (g.D k)) : Core B w' g tot := by
  have hne : ∀ {j : Nat} {c : Array Value} {t : TypeId} {fz : Nat × Nat}, w.heap[j]? = some (.cells c t fz) → t ≠ 5 → ¬ S j := by
    intro j c t fz hj ht hs
    obtain ⟨cur, fz', hk⟩ := hS j hs
    rw [hj] at hk
    cases hk
    exact ht rfl
  have hrow : ∀ {e sz n : Nat} {v : Value} {xs : List Value}, w.ownsRow B e sz v n xs → e ≠ 5 → w'.ownsRow B e sz v n xs := by
    intro e sz n v xs hr he
    refine ownsRow_fr hr f (fun r hr' => ?_)
    obtain ⟨cur, hk⟩ := ownsRow_kind hr hr'
    exact hne hk he
  refine { B0 := Nat.le_trans h.B0 hsz, pB := h.pB, pb := f _ _ h.pb (hne h.pb (by decide)), ms := hrow h.ms (by decide), bs := hrow h.bs (by decide), bl := hbl, ap := h.ap, tab := h.tab, kn := ?_, ch := ?_, mB := h.mB, nB := h.nB, tB := h.tB, kB := h.kB, cB := h.cB, lB := h.lB }
  · rcases h.kn with h0 | ⟨kb, h1, h2, h3⟩
    · exact .inl h0
    · refine .inr ⟨kb, h1, h2, h3.fr f (fun hs => ?_)⟩
      obtain ⟨es, clock, hb, _⟩ := h3
      obtain ⟨cur, fz', hk⟩ := hS kb hs
      rw [hb] at hk
      cases hk
  · rcases h.ch with h0 | ⟨v1, h1, h2⟩
    · exact .inl h0
    · exact .inr ⟨v1, hrow h1 (by decide), hrow h2 (by decide)⟩

/-- Nothing that stood has turned. -/
theorem Core.more {B : Nat} {w w' : World} {g : G} {tot : Nat} (h : Core B w g tot) (f : Fr (fun _ => False) w w') (hsz : w.heap.size ≤ w'.heap.size) : Core B w' g tot :=
  h.fr5 f hsz (fun _ hs => hs.elim) (fun k hk => (h.bl k hk).fr f (fun e => e) (fun _ _ e => e))

theorem row_val {w : World} {B e sz n : Nat} {v : Value} {xs : List Value} (h : w.ownsRow B e sz v n xs) : ∃ a c, v = .slice a n c := by
  rcases h.2 with ⟨rfl, h0⟩ | ⟨g, cap, cur, rfl, _⟩
  · exact ⟨none, 0, by rw [h0]⟩
  · exact ⟨_, cap, rfl⟩

theorem row_at {w : World} {B e sz n : Nat} {v : Value} {xs : List Value} (h : w.ownsRow B e sz v n xs) (hn : 0 < n) : ∃ r c, v = .slice (some ⟨r, 0, none⟩) n c ∧ n ≤ c ∧ B ≤ r ∧ (∀ k x, xs[k]? = some x → w.cell? ⟨r, k, none⟩ = some x) ∧ ∀ k, w.frozen? ⟨r, k, none⟩ = false := by
  rcases h.2 with ⟨rfl, h0⟩ | ⟨g, cap, cur, rfl, hb, hg, h1, _⟩
  · omega
  · refine ⟨g, cap, rfl, h1, hb, fun k x hx => ?_, fun k => Lib.frozen_of_heap hg k⟩
    have h2 := h.cells (g := g) rfl k x hx
    have hadd : (⟨g, 0, none⟩ : Addr).add k = ⟨g, k, none⟩ := by unfold Addr.add; split <;> simp_all
    rwa [hadd] at h2

end Go.Proofs.Qxb6604492aDoor
