import Derived.Test.Qxb6604492aDoorText
namespace Go.Proofs.Qxb6604492aDoor
open Go.RowKit

/-- The blocks that S names are of kinds in T. -/
def Only (T : List Nat) (w : World) (S : Nat → Prop) : Prop := ∀ j, S j → ∃ cur t fz, w.heap[j]? = some (.cells cur t fz) ∧ t ∈ T

section
variable {T : List Nat} {w w' : World} {S : Nat → Prop} {B : Nat}

theorem Only.ne (o : Only T w S) {j : Nat} {c : Array Value} {t : TypeId} {fz : Nat × Nat} (h : w.heap[j]? = some (.cells c t fz)) (ht : t ∉ T) : ¬ S j := by
  intro hs
  obtain ⟨cur, t', fz', hk, hm⟩ := o j hs
  rw [h] at hk
  cases hk
  exact ht hm

theorem Only.neMap (o : Only T w S) {j : Nat} {es : Array MapEntry} {c : Nat} (h : w.heap[j]? = some (.map es c)) : ¬ S j := by
  intro hs
  obtain ⟨cur, t', fz', hk, hm⟩ := o j hs
  rw [h] at hk
  cases hk

theorem Only.or {S' : Nat → Prop} {T' : List Nat} (o : Only T w S) (o' : Only T' w S') : Only (T ++ T') w (fun j => S j ∨ S' j) := by
  intro j hj
  rcases hj with hj | hj
  · obtain ⟨c, t, f, h1, h2⟩ := o j hj; exact ⟨c, t, f, h1, by simp [h2]⟩
  · obtain ⟨c, t, f, h1, h2⟩ := o' j hj; exact ⟨c, t, f, h1, by simp [h2]⟩

theorem only_row {e sz n : Nat} {v : Value} {xs : List Value} (h : w.ownsRow B e sz v n xs) : Only [e] w (fun j => v.ownBlock = some j) := by
  intro j hj
  obtain ⟨cur, hk⟩ := ownsRow_kind h hj
  exact ⟨cur, e, _, hk, by simp⟩

theorem only_at {j : Nat} {c : Array Value} {t : TypeId} {fz : Nat × Nat} (h : w.heap[j]? = some (.cells c t fz)) : Only [t] w (fun k => k = j) := by
  intro k hk
  subst hk
  exact ⟨c, t, fz, h, by simp⟩

theorem row_keep {e sz n : Nat} {v : Value} {xs : List Value} (h : w.ownsRow B e sz v n xs) (f : Fr S w w') (o : Only T w S) (he : e ∉ T) : w'.ownsRow B e sz v n xs := by
  refine ownsRow_fr h f (fun r hr => ?_)
  obtain ⟨cur, hk⟩ := ownsRow_kind h hr
  exact o.ne hk he

theorem rowF_keep {e sz n : Nat} {v : Value} {xs : List Value} (h : w.ownsRowF B e sz v n xs) (f : Fr S w w') (o : Only T w S) (he : e ∉ T) : w'.ownsRowF B e sz v n xs := by
  refine ownsRowF_fr h f (fun r hr => ?_)
  obtain ⟨cur, fz, hk⟩ := ownsRowF_kind h hr
  exact o.ne hk he

theorem BA_keep {b : Nat} {v : Value} {l : List UInt8} (h : BA B w b v l) (f : Fr S w w') (o : Only T w S) (h1 : 73 ∉ T) (h2 : 5 ∉ T) : BA B w' b v l :=
  ⟨h.le, f _ _ h.bk (o.ne h.bk h1), rowF_keep h.own f o h2⟩

theorem known_keep {vk : Value} {kc : Nat} {tx : Nat → ByteArray} {ck : Nat → Int} (h : Known B w vk kc tx ck) (f : Fr S w w') (o : Only T w S) : Known B w' vk kc tx ck := by
  rcases h with h0 | ⟨kb, h1, h2, h3⟩
  · exact .inl h0
  · refine .inr ⟨kb, h1, h2, h3.fr f ?_⟩
    obtain ⟨es, clock, hb, _⟩ := h3
    exact o.neMap hb

theorem chunks_keep {vc : Value} {np : Nat} {of : Nat → Int} {ix : Nat → Nat} (h : Chunks B w vc np of ix) (f : Fr S w w') (o : Only T w S) (h1 : 53 ∉ T) (h2 : 55 ∉ T) : Chunks B w' vc np of ix := by
  rcases h with h0 | ⟨v1, k1, k2⟩
  · exact .inl h0
  · exact .inr ⟨v1, row_keep k1 f o h1, row_keep k2 f o h2⟩

theorem msg_keep {g : G} {t : ByteArray} (h : Msg B w g t) (f : Fr S w w') (o : Only T w S) (h1 : 5 ∉ T) : Msg B w' g t :=
  h.fr f (fun _ _ _ hk _ => o.ne hk h1)

theorem MapOf.congr {kb kc : Nat} {tx tx' : Nat → ByteArray} {ck ck' : Nat → Int} (h : MapOf w kb kc tx ck) (h1 : ∀ i, i < kc → tx i = tx' i) (h2 : ∀ i, i < kc → ck i = ck' i) : MapOf w kb kc tx' ck' := by
  obtain ⟨es, clock, hb, hs, he⟩ := h
  refine ⟨es, clock, hb, hs, fun i x hx => ?_⟩
  have hi : i < kc := by
    have := (List.getElem?_eq_some_iff.1 hx).1
    simpa [hs] using this
  rw [← h1 i hi, ← h2 i hi]
  exact he i x hx

theorem Known.congr {vk : Value} {kc : Nat} {tx tx' : Nat → ByteArray} {ck ck' : Nat → Int} (h : Known B w vk kc tx ck) (h1 : ∀ i, i < kc → tx i = tx' i) (h2 : ∀ i, i < kc → ck i = ck' i) : Known B w vk kc tx' ck' := by
  rcases h with h0 | ⟨kb, k1, k2, k3⟩
  · exact .inl h0
  · exact .inr ⟨kb, k1, k2, k3.congr h1 h2⟩
end

def upd {α : Type} (f : Nat → α) (n : Nat) (x : α) : Nat → α := fun k => if k = n then x else f k
theorem upd_same {α : Type} (f : Nat → α) (n : Nat) (x : α) : upd f n x n = x := by simp [upd]
theorem upd_ne {α : Type} (f : Nat → α) {n k : Nat} (x : α) (h : k ≠ n) : upd f n x k = f k := by simp [upd, h]

/-! ### The plain table -/
theorem extract_list (l : List UInt8) (a b : Nat) : ((⟨l.toArray⟩ : ByteArray).extract a b).data.toList = (l.drop a).take (b - a) := by
  simp [ByteArray.data_extract]

section
variable {m : Nat} {bk st : Nat → Nat} {tx : Nat → ByteArray} {nb : Nat} {D : Nat → List UInt8} {tot : Nat}

theorem en_congr {D' : Nat → List UInt8} {i : Nat} (h : D (bk i) = D' (bk i)) : en m bk st D i = en m bk st D' i := by unfold en; rw [h]

/-- A new, empty block. -/
theorem Tab.block (h : Tab m bk st tx nb D tot) : Tab m bk st tx (nb + 1) (upd D nb []) tot := by
  have hD : ∀ i, i < m → upd D nb [] (bk i) = D (bk i) := fun i hi => upd_ne _ _ (by have := h.lo i hi; omega)
  have hE : ∀ i, i < m → en m bk st (upd D nb []) i = en m bk st D i := fun i hi => en_congr (hD i hi)
  refine ⟨fun i hi => Nat.lt_succ_of_lt (h.lo i hi), h.mono, fun i hi => ?_, fun i hi => ?_, fun k hk => ?_⟩
  · rw [hE i hi, hD i hi]; exact h.rng i hi
  · rw [hE i hi, hD i hi]; exact h.sub i hi
  · by_cases e : k = nb
    · subst e; rw [upd_same]; simp
    · rw [upd_ne _ _ e]; exact h.len k (by omega)

/-- A new message at the last block's end, with no text yet. -/
theorem Tab.push (h : Tab m bk st tx nb D tot) (hn : 0 < nb) (hlast : ∀ i, i < m → bk i ≤ nb - 1) : Tab (m + 1) (upd bk m (nb - 1)) (upd st m (D (nb - 1)).length) (upd tx m ⟨#[]⟩) nb D tot := by
  have hb : ∀ i, i < m → upd bk m (nb - 1) i = bk i := fun i hi => upd_ne _ _ (by omega)
  have hE : ∀ i, i < m → en (m + 1) (upd bk m (nb - 1)) (upd st m (D (nb - 1)).length) D i = en m bk st D i := by
    intro i hi
    unfold en
    rw [hb i hi]
    by_cases e : i + 1 < m
    · rw [hb (i + 1) e, upd_ne _ _ (by omega : i + 1 ≠ m)]
      by_cases q : bk (i + 1) = bk i
      · rw [if_pos ⟨by omega, q⟩, if_pos ⟨e, q⟩]
      · rw [if_neg (fun h => q h.2), if_neg (fun h => q h.2)]
    · have e1 : i + 1 = m := by omega
      have hno : ¬ (m < m ∧ bk m = bk i) := fun h => absurd h.1 (Nat.lt_irrefl _)
      rw [e1, upd_same, upd_same, if_neg hno]
      by_cases q : nb - 1 = bk i
      · rw [if_pos ⟨by omega, q⟩, q]
      · rw [if_neg (fun h => q h.2)]
  have hEm : en (m + 1) (upd bk m (nb - 1)) (upd st m (D (nb - 1)).length) D m = (D (nb - 1)).length := by
    unfold en
    rw [if_neg (fun h => absurd h.1 (by omega)), upd_same]
  refine ⟨fun i hi => ?_, fun i hi => ?_, fun i hi => ?_, fun i hi => ?_, h.len⟩
  · by_cases e : i = m
    · subst e; rw [upd_same]; omega
    · rw [upd_ne _ _ e]; exact h.lo i (by omega)
  · by_cases e : i + 1 = m
    · rw [e, upd_same, hb i (by omega)]; exact hlast i (by omega)
    · rw [hb i (by omega), hb (i + 1) (by omega)]; exact h.mono i (by omega)
  · by_cases e : i = m
    · subst e; rw [hEm, upd_same, upd_same]; exact ⟨Nat.le_refl _, Nat.le_refl _⟩
    · rw [hE i (by omega), hb i (by omega), upd_ne _ _ e]; exact h.rng i (by omega)
  · by_cases e : i = m
    · subst e
      rw [hEm, upd_same, upd_same, upd_same]
      apply ByteArray.ext
      apply Array.toList_inj.1
      rw [extract_list, Nat.sub_self]
      simp
    · rw [hE i (by omega), hb i (by omega), upd_ne _ _ e, upd_ne _ _ e]; exact h.sub i (by omega)

theorem extract_app (l x : List UInt8) (a b : Nat) (h : b ≤ l.length) : (⟨(l ++ x).toArray⟩ : ByteArray).extract a b = (⟨l.toArray⟩ : ByteArray).extract a b := by
  apply ByteArray.ext
  apply Array.toList_inj.1
  rw [extract_list, extract_list]
  by_cases e : a ≤ l.length
  · rw [List.drop_append_of_le_length e, List.take_append_of_le_length (by rw [List.length_drop]; omega)]
  · rw [show b - a = 0 by omega]
    simp

theorem extract_new (l : List UInt8) (t : ByteArray) : (⟨(l ++ t.data.toList).toArray⟩ : ByteArray).extract l.length (l.length + t.size) = t := by
  apply ByteArray.ext
  apply Array.toList_inj.1
  rw [extract_list, List.drop_left, Nat.add_sub_cancel_left]
  exact List.take_of_length_le (Nat.le_of_eq (by rw [Array.length_toList]; rfl))

/-- The last message's text is written. -/
theorem Tab.write (h : Tab (m + 1) bk st tx nb D tot) (hb : bk m = nb - 1) (hs : st m = (D (nb - 1)).length) (t : ByteArray) : Tab (m + 1) bk st (upd tx m t) nb (upd D (nb - 1) (D (nb - 1) ++ t.data.toList)) (tot + t.size) := by
  have hsz : t.data.toList.length = t.size := by rw [Array.length_toList]; rfl
  have hEm : en (m + 1) bk st (upd D (nb - 1) (D (nb - 1) ++ t.data.toList)) m = (D (nb - 1)).length + t.size := by
    unfold en
    rw [if_neg (fun h => absurd h.1 (by omega)), hb, upd_same, List.length_append, hsz]
  have hE : ∀ i, i < m → en (m + 1) bk st (upd D (nb - 1) (D (nb - 1) ++ t.data.toList)) i = en (m + 1) bk st D i := by
    intro i hi
    by_cases e : bk i = nb - 1
    · have : bk (i + 1) = bk i := by
        have h1 : ∀ j, i + 1 ≤ j → j ≤ m → bk (i + 1) ≤ bk j := by
          intro j
          induction j with
          | zero => intro a _; omega
          | succ j ih =>
            intro a b
            by_cases e2 : i + 1 = j + 1
            · rw [e2]; exact Nat.le_refl _
            · exact Nat.le_trans (ih (by omega) (by omega)) (h.mono j (by omega))
        have h2 := h1 m (by omega) (Nat.le_refl _)
        have h3 := h.mono i (by omega)
        omega
      unfold en
      rw [if_pos ⟨by omega, this⟩, if_pos ⟨by omega, this⟩]
    · exact en_congr (upd_ne _ _ e)
  have hD : ∀ i, i < m → en (m + 1) bk st D i ≤ (D (bk i)).length := fun i hi => (h.rng i (by omega)).2
  refine ⟨h.lo, h.mono, fun i hi => ?_, fun i hi => ?_, fun k hk => ?_⟩
  · by_cases e : i = m
    · subst e
      rw [hEm, hb, hs, upd_same, List.length_append, hsz]
      exact ⟨by omega, Nat.le_refl _⟩
    · rw [hE i (by omega)]
      refine ⟨(h.rng i hi).1, ?_⟩
      by_cases e2 : bk i = nb - 1
      · rw [e2, upd_same, List.length_append]
        have := (h.rng i hi).2
        rw [e2] at this
        omega
      · rw [upd_ne _ _ e2]; exact (h.rng i hi).2
  · by_cases e : i = m
    · subst e
      rw [hEm, hb, hs, upd_same, upd_same]
      exact extract_new _ t
    · rw [hE i (by omega), upd_ne tx t e]
      by_cases e2 : bk i = nb - 1
      · have h1 := h.sub i hi
        have h2 := (h.rng i hi).2
        rw [e2] at h1 h2
        rw [e2, upd_same, extract_app _ _ _ _ h2]
        exact h1
      · rw [upd_ne _ _ e2]; exact h.sub i hi
  · by_cases e : k = nb - 1
    · subst e
      rw [upd_same, List.length_append, hsz]
      have := h.len (nb - 1) hk
      omega
    · rw [upd_ne _ _ e]
      have := h.len k hk
      omega
end

/-! ### The state turns -/
section
variable {B : Nat} {w : World} {g : G} {tot : Nat}

theorem Core.mono_last (h : Core B w g tot) : ∀ i, i < g.m → g.bk i ≤ g.nb - 1 := fun i hi => by have := h.tab.lo i hi; omega

/-- A new block has been appended to p.blocks. -/
theorem Core.newBlk {w1 w3 : World} {o : Obj} {v v' : Value} (h : Core B w g tot) (hb1 : Below w.heap.size w w1) (hba : BA w.heap.size w1 w.heap.size v []) (hn : g.nb ≤ 4096)
    (hown : w3.ownsRow B 67 1 v' (g.nb + 1) (ptrs g.b g.nb ++ [.pointer (some ⟨w.heap.size, 0, none⟩)])) (hgrow : (w1.alloc o).grownBy w3 g.vb.ownBlock) :
    Core B (w3.setCell ⟨g.p, 8, none⟩ v') { g with vb := v', nb := g.nb + 1, b := upd g.b g.nb w.heap.size, v := upd g.v g.nb v, D := upd g.D g.nb [] } tot ∧ Below B w (w3.setCell ⟨g.p, 8, none⟩ v') ∧ (∀ t, Msg B w g t → Msg B (w3.setCell ⟨g.p, 8, none⟩ v') { g with vb := v', nb := g.nb + 1, b := upd g.b g.nb w.heap.size, v := upd g.v g.nb v, D := upd g.D g.nb [] } t) ∧ w3.cell? ⟨g.p, 8, none⟩ = some g.vb ∧ w3.frozen? ⟨g.p, 8, none⟩ = false := by
  have f1 : Fr (fun _ => False) w w1 := fun j x hj _ => by rw [hb1.block j (Array.getElem?_eq_some_iff.1 hj).1]; exact hj
  have f3 : Fr (fun j => g.vb.ownBlock = some j) w w3 := ((f1.trans (Fr.alloc w1 o)).trans (Fr.grown hgrow)).mono (fun j hj => by rcases hj with (hj | hj) | hj; exact hj.elim; exact hj.elim; exact hj)
  have o3 := only_row h.bs
  have p3 : PB w3 g.p g.vc g.vm g.vk g.last g.vb g.vt g.vx := f3 _ _ h.pb (o3.ne h.pb (by decide))
  have f4 : Fr (fun j => g.vb.ownBlock = some j ∨ j = g.p) w (w3.setCell ⟨g.p, 8, none⟩ v') := f3.trans (Fr.setCell w3 ⟨g.p, 8, none⟩ v')
  have o4 : Only [67, 52] w (fun j => g.vb.ownBlock = some j ∨ j = g.p) := o3.or (only_at h.pb)
  have hs3 : w.heap.size ≤ w3.heap.size := Nat.le_trans hb1.size (Nat.le_trans (by simp) hgrow.size)
  have hlt := hba.lt
  have fb : Fr (fun j => g.vb.ownBlock = some j ∨ j = g.p) w1 (w3.setCell ⟨g.p, 8, none⟩ v') := (((Fr.alloc w1 o).trans (Fr.grown hgrow)).trans (Fr.setCell w3 ⟨g.p, 8, none⟩ v')).mono (fun j hj => by rcases hj with (hj | hj) | hj; exact hj.elim; exact .inl hj; exact .inr hj)
  have hbel : Below B w (w3.setCell ⟨g.p, 8, none⟩ v') := by
    have h0 : Below B w w1 := hb1.mono h.B0
    exact ((h0.alloc (Nat.le_trans h.B0 hb1.size) o).grown hgrow (Nat.le_trans h.B0 (Nat.le_trans hb1.size (by simp))) (fun k hk => (h.bs.lt k hk).1)).setCell (p := ⟨g.p, 8, none⟩) h.pB _
  have hold : ∀ j, (g.vb.ownBlock = some j ∨ j = g.p) → j < w.heap.size := by
    intro j hj
    rcases hj with hj | hj
    · exact (h.bs.lt j hj).2
    · rw [hj]; exact h.pb.lt
  refine ⟨{ B0 := ?_, pB := h.pB, pb := p3.set8 v', ms := row_keep h.ms f4 o4 (by decide), bs := ?_, bl := ?_, ap := ?_, tab := h.tab.block, kn := known_keep h.kn f4 o4, ch := chunks_keep h.ch f4 o4 (by decide) (by decide), mB := h.mB, nB := by show g.nb + 1 ≤ 4097; omega, tB := h.tB, kB := h.kB, cB := h.cB, lB := h.lB }, hbel, ?_, p3.c8, p3.fr 8⟩
  · have := hbel.size; have := h.B0; omega
  · have e : ptrs (upd g.b g.nb w.heap.size) (g.nb + 1) = ptrs g.b g.nb ++ [.pointer (some ⟨w.heap.size, 0, none⟩)] := by
      rw [ptrs_succ, upd_same, ptrs_congr (upd g.b g.nb w.heap.size) g.b g.nb (fun i hi => upd_ne _ _ (by omega))]
    show (w3.setCell ⟨g.p, 8, none⟩ v').ownsRow B 67 1 v' (g.nb + 1) (ptrs (upd g.b g.nb w.heap.size) (g.nb + 1))
    rw [e]
    exact row_keep hown (Fr.setCell w3 ⟨g.p, 8, none⟩ v') (only_at p3) (by decide)
  · intro k hk
    show BA B _ (upd g.b g.nb w.heap.size k) (upd g.v g.nb v k) (upd g.D g.nb [] k)
    by_cases e : k = g.nb
    · subst e
      rw [upd_same, upd_same, upd_same]
      refine (hba.fr fb ?_ ?_).down h.B0
      · intro hj; have := hold _ hj; omega
      · intro r hr hj
        have h1 := (hba.own.lt r hr).1
        have := hold _ hj
        omega
    · have hk' : k < g.nb := by have : k < g.nb + 1 := hk; omega
      rw [upd_ne _ _ e, upd_ne _ _ e, upd_ne _ _ e]
      exact BA_keep (h.bl k hk') f4 o4 (by decide) (by decide)
  · intro j k hj hk hjk
    have hj' : j < g.nb + 1 := hj
    have hk' : k < g.nb + 1 := hk
    show upd g.b g.nb w.heap.size j ≠ upd g.b g.nb w.heap.size k ∧ ∀ r, (upd g.v g.nb v j).ownBlock = some r → (upd g.v g.nb v k).ownBlock ≠ some r
    by_cases e1 : j = g.nb
    · subst e1
      have e2 : k ≠ g.nb := fun e => hjk e.symm
      have hb := h.bl k (by omega)
      rw [upd_same, upd_same, upd_ne _ _ e2, upd_ne _ _ e2]
      refine ⟨by have := hb.lt; omega, fun r hr hr' => ?_⟩
      have a1 := (hba.own.lt r hr).1
      have a2 := (hb.own.lt r hr').2
      omega
    · have hb := h.bl j (by omega)
      by_cases e2 : k = g.nb
      · subst e2
        rw [upd_same, upd_same, upd_ne _ _ e1, upd_ne _ _ e1]
        refine ⟨by have := hb.lt; omega, fun r hr hr' => ?_⟩
        have a1 := (hba.own.lt r hr').1
        have a2 := (hb.own.lt r hr).2
        omega
      · rw [upd_ne _ _ e1, upd_ne _ _ e1, upd_ne _ _ e2, upd_ne _ _ e2]
        exact h.ap j k (by omega) (by omega) hjk
  · intro t ht
    obtain ⟨mb, cap, cur, fz, k1, k2, k3, k4, k5⟩ := ht
    refine ⟨mb, cap, cur, fz, k1, k2, f4 mb _ k3 (o4.ne k3 (by decide)), k4, fun k hk => ?_⟩
    have hk' : k < g.nb + 1 := hk
    show (upd g.v g.nb v k).ownBlock ≠ some mb
    by_cases e : k = g.nb
    · subst e
      rw [upd_same]
      intro hr
      have a1 := (hba.own.lt mb hr).1
      have a2 := (Array.getElem?_eq_some_iff.1 k3).1
      omega
    · rw [upd_ne _ _ e]
      exact k5 k (by omega)

/-- A message has been appended to p.messages: no text yet. -/
theorem Core.push {w3 : World} {o : Obj} {v' : Value} {c : Int} (h : Core B w g tot) (hnb : 0 < g.nb) (hm : g.m < 4096) (hc : 0 ≤ c ∧ c ≤ 4)
    (hown : w3.ownsRow B 58 5 v' (g.m + 1) (msgs g.bk g.st g.ck g.br g.m ++ [.int .i32 ((g.nb - 1 : Nat) : Int), .int .i32 ((g.D (g.nb - 1)).length : Int), .int .i32 (-1), .int .i32 c, .bool false])) (hgrow : (w.alloc o).grownBy w3 g.vm.ownBlock) (hl : 0 ≤ g.last ∧ g.last < g.m + 1) :
    Core B (w3.setCell ⟨g.p, 1, none⟩ v') { g with vm := v', m := g.m + 1, bk := upd g.bk g.m (g.nb - 1), st := upd g.st g.m (g.D (g.nb - 1)).length, tx := upd g.tx g.m ⟨#[]⟩, ck := upd g.ck g.m c, br := upd g.br g.m false } tot ∧ Below B w (w3.setCell ⟨g.p, 1, none⟩ v') ∧ (∀ t, Msg B w g t → Msg B (w3.setCell ⟨g.p, 1, none⟩ v') { g with vm := v', m := g.m + 1, bk := upd g.bk g.m (g.nb - 1), st := upd g.st g.m (g.D (g.nb - 1)).length, tx := upd g.tx g.m ⟨#[]⟩, ck := upd g.ck g.m c, br := upd g.br g.m false } t) ∧ w3.cell? ⟨g.p, 1, none⟩ = some g.vm ∧ w3.frozen? ⟨g.p, 1, none⟩ = false := by
  have f3 : Fr (fun j => g.vm.ownBlock = some j) w w3 := ((Fr.alloc w o).trans (Fr.grown hgrow)).mono (fun j hj => by rcases hj with hj | hj; exact hj.elim; exact hj)
  have o3 := only_row h.ms
  have p3 : PB w3 g.p g.vc g.vm g.vk g.last g.vb g.vt g.vx := f3 _ _ h.pb (o3.ne h.pb (by decide))
  have f4 : Fr (fun j => g.vm.ownBlock = some j ∨ j = g.p) w (w3.setCell ⟨g.p, 1, none⟩ v') := f3.trans (Fr.setCell w3 ⟨g.p, 1, none⟩ v')
  have o4 : Only [58, 52] w (fun j => g.vm.ownBlock = some j ∨ j = g.p) := o3.or (only_at h.pb)
  have hbel : Below B w (w3.setCell ⟨g.p, 1, none⟩ v') :=
    (((Below.refl B w).alloc h.B0 o).grown hgrow (Nat.le_trans h.B0 (by simp)) (fun k hk => (h.ms.lt k hk).1)).setCell (p := ⟨g.p, 1, none⟩) h.pB _
  refine ⟨{ B0 := ?_, pB := h.pB, pb := p3.set1 v', ms := ?_, bs := row_keep h.bs f4 o4 (by decide), bl := fun k hk => BA_keep (h.bl k hk) f4 o4 (by decide) (by decide), ap := h.ap, tab := h.tab.push hnb h.mono_last, kn := ?_, ch := chunks_keep h.ch f4 o4 (by decide) (by decide), mB := by show g.m + 1 ≤ 4096; omega, nB := h.nB, tB := h.tB, kB := Nat.le_succ_of_le h.kB, cB := ?_, lB := ?_ }, hbel, fun t ht => ?_, p3.c1, p3.fr 1⟩
  · have := hbel.size; have := h.B0; omega
  · have e : msgs (upd g.bk g.m (g.nb - 1)) (upd g.st g.m (g.D (g.nb - 1)).length) (upd g.ck g.m c) (upd g.br g.m false) (g.m + 1) = msgs g.bk g.st g.ck g.br g.m ++ [.int .i32 ((g.nb - 1 : Nat) : Int), .int .i32 ((g.D (g.nb - 1)).length : Int), .int .i32 (-1), .int .i32 c, .bool false] := by
      rw [msgs_succ]
      congr 1
      · exact flat_congr _ _ _ (fun i hi => by unfold five; rw [upd_ne _ _ (by omega), upd_ne _ _ (by omega), upd_ne _ _ (by omega), upd_ne _ _ (by omega)])
      · unfold five; rw [upd_same, upd_same, upd_same, upd_same]
    show (w3.setCell ⟨g.p, 1, none⟩ v').ownsRow B 58 5 v' (g.m + 1) (msgs (upd g.bk g.m (g.nb - 1)) (upd g.st g.m (g.D (g.nb - 1)).length) (upd g.ck g.m c) (upd g.br g.m false) (g.m + 1))
    rw [e]
    exact row_keep hown (Fr.setCell w3 ⟨g.p, 1, none⟩ v') (only_at p3) (by decide)
  · exact (known_keep h.kn f4 o4).congr (fun i hi => (upd_ne _ _ (by have := h.kB; omega)).symm) (fun i hi => (upd_ne _ _ (by have := h.kB; omega)).symm)
  · intro i hi
    have hi' : i < g.m + 1 := hi
    show 0 ≤ upd g.ck g.m c i ∧ upd g.ck g.m c i ≤ 4
    by_cases e : i = g.m
    · subst e; rw [upd_same]; exact hc
    · rw [upd_ne _ _ e]; exact h.cB i (by omega)
  · refine ⟨hl.1, fun _ => ?_⟩
    show g.last < ((g.m + 1 : Nat) : Int)
    have := hl.2
    omega
  · obtain ⟨mb, cap, cur, fz, k1, k2, k3, k4, k5⟩ := ht
    exact ⟨mb, cap, cur, fz, k1, k2, f4 mb _ k3 (o4.ne k3 (by decide)), k4, k5⟩

/-- The last message's text has been written into the last block. -/
theorem Core.wrote {w' : World} {v' : Value} {t : ByteArray} {n : Nat} (h : Core B w g tot) (hm : g.m = n + 1) (hnb : 0 < g.nb) (hb : g.bk n = g.nb - 1) (hs : g.st n = (g.D (g.nb - 1)).length) (ht : tot + t.size ≤ 1048576) (hk : g.kc ≤ n)
    (hba : BA B w' (g.b (g.nb - 1)) v' (g.D (g.nb - 1) ++ t.data.toList)) (f : Fr (fun j => j = g.b (g.nb - 1) ∨ (g.v (g.nb - 1)).ownBlock = some j) w w') (hv : ∀ r, v'.ownBlock = some r → (g.v (g.nb - 1)).ownBlock = some r ∨ w.heap.size ≤ r) (hsz : w.heap.size ≤ w'.heap.size) :
    Core B w' { g with v := upd g.v (g.nb - 1) v', D := upd g.D (g.nb - 1) (g.D (g.nb - 1) ++ t.data.toList), tx := upd g.tx n t } (tot + t.size) := by
  have hlast := h.bl (g.nb - 1) (by omega)
  have o : Only [73, 5] w (fun j => j = g.b (g.nb - 1) ∨ (g.v (g.nb - 1)).ownBlock = some j) := by
    intro j hj
    rcases hj with hj | hj
    · subst hj; exact ⟨_, _, _, hlast.bk, by simp⟩
    · obtain ⟨cur, fz, hh⟩ := ownsRowF_kind hlast.own hj
      exact ⟨cur, _, fz, hh, by simp⟩
  refine { B0 := Nat.le_trans h.B0 hsz, pB := h.pB, pb := f _ _ h.pb (o.ne h.pb (by decide)), ms := row_keep h.ms f o (by decide), bs := row_keep h.bs f o (by decide), bl := ?_, ap := ?_, tab := ?_, kn := ?_, ch := chunks_keep h.ch f o (by decide) (by decide), mB := h.mB, nB := h.nB, tB := ht, kB := h.kB, cB := h.cB, lB := h.lB }
  · intro k hk2
    have hk' : k < g.nb := hk2
    show BA B w' (g.b k) (upd g.v (g.nb - 1) v' k) (upd g.D (g.nb - 1) (g.D (g.nb - 1) ++ t.data.toList) k)
    by_cases e : k = g.nb - 1
    · subst e; rw [upd_same, upd_same]; exact hba
    · rw [upd_ne _ _ e, upd_ne _ _ e]
      have ha := h.ap k (g.nb - 1) hk' (by omega) e
      refine (h.bl k hk').fr f (fun hj => ?_) (fun r hr hj => ?_)
      · rcases hj with hj | hj
        · exact ha.1 hj
        · obtain ⟨cur, fz, hh⟩ := ownsRowF_kind hlast.own hj
          exact kinds_ne (h.bl k hk').bk hh (by decide) rfl
      · rcases hj with hj | hj
        · obtain ⟨cur, fz, hh⟩ := ownsRowF_kind (h.bl k hk').own hr
          exact kinds_ne hlast.bk hh (by decide) hj.symm
        · exact ha.2 r hr hj
  · intro j k hj hk2 hjk
    have hj' : j < g.nb := hj
    have hk' : k < g.nb := hk2
    have ha := h.ap j k hj' hk' hjk
    refine ⟨ha.1, ?_⟩
    show ∀ r, (upd g.v (g.nb - 1) v' j).ownBlock = some r → (upd g.v (g.nb - 1) v' k).ownBlock ≠ some r
    by_cases e1 : j = g.nb - 1
    · subst e1
      have e2 : k ≠ g.nb - 1 := fun e => hjk e.symm
      rw [upd_same, upd_ne _ _ e2]
      intro r hr hr'
      rcases hv r hr with h1 | h1
      · exact ha.2 r h1 hr'
      · have := ((h.bl k hk').own.lt r hr').2
        omega
    · rw [upd_ne _ _ e1]
      by_cases e2 : k = g.nb - 1
      · subst e2
        rw [upd_same]
        intro r hr hr'
        rcases hv r hr' with h1 | h1
        · exact ha.2 r hr h1
        · have := ((h.bl j hj').own.lt r hr).2
          omega
      · rw [upd_ne _ _ e2]; exact ha.2
  · have h1 := h.tab
    rw [hm] at h1
    have h2 := h1.write hb hs t
    show Tab g.m g.bk g.st (upd g.tx n t) g.nb (upd g.D (g.nb - 1) (g.D (g.nb - 1) ++ t.data.toList)) (tot + t.size)
    rw [hm]
    exact h2
  · exact (known_keep h.kn f o).congr (fun i hi => (upd_ne _ _ (by omega)).symm) (fun _ _ => rfl)

end

end Go.Proofs.Qxb6604492aDoor
