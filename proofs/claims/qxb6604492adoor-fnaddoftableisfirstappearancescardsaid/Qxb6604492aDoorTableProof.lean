import Derived.Test.Qxb6604492aDoorLawB
import Derived.Test.Qxb6604492aDoorView
import Derived.Test.Qxb6604492aDoorTie
import Derived.Test.Qxb6604492aDoorCards
import Derived.JoinedOf
import Derived.RowKitTokens
import Derived.Stop.Joined
import Derived.SevenTiedAt
namespace Go.Proofs.Qxb6604492aDoor.fnAddOfTableIsFirstAppearances
open Go.ChangeShapes Go.WideShapes Go.ChangeAt Go.RowKit

set_option maxRecDepth 100000 in
theorem lifted (os : Os) (started : os.Started) (H : Type) (enc : TypeId × Value → H) :
    ReturnsInHanded {} Tryd.checked os 4 .any (fun w args => (Rows.fnAddOfTableIsFirstAppearancesSpec.pre enc Tryd.prog Tryd.f4 [] false w args ∧ laidMetH Tryd.prog [("unicode.properties", Rows.laid_unicode_properties)] w) ∧ sizedMet enc Tryd.prog Tryd.f4 (OpenSpec.ofChange Rows.fnAddOfTableIsFirstAppearancesSpec) false w args)
      (Rows.fnAddOfTableIsFirstAppearancesSpec.post enc Tryd.prog Tryd.f4 false true false false) := by
  refine returnsInHanded_of_change_and (C := Tryd.checked) (X := fun w _ => laidMetH Tryd.prog [("unicode.properties", Rows.laid_unicode_properties)] w) (fun _ _ _ hh h => h.of_heap hh) own started (by kernel_rfl) Tryd.func4
    (ChangeSpec.witness_at (enc := enc) (C := Tryd.checked) (os := os) (X := fun w _ => laidMetH Tryd.prog [("unicode.properties", Rows.laid_unicode_properties)] w) false (layWorld (World.holding Tryd.prog os ⟨#[], #[], []⟩)) #[.slice none 0 0] 8 rfl (by kernel_rfl) (by kernel_rfl) (by kernel_rfl) (by kernel_rfl) (by kernel_rfl) (laidWorld_met os _)) ?_
  intro W base args ds gs before hval0 hW _ _ hL _
  have hval : ∀ (j : Nat) t v, Tryd.f4.params[j]? = some t → args[j]? = some v → Value.okWide Tryd.prog W .any base t v := hval0
  have hW' := hW
  obtain ⟨p, q, hA0, hV0, rfl, hfz, hnd⟩ := hW
  have hA : DataW.TrodAll enc Tryd.prog W 0 (fun _ => true) true Tryd.f4.params.toList args.toList ds p := hA0
  rw [Tryd.params4] at hA hval
  obtain ⟨v0, d0, rfl, rfl, h0⟩ := trodAll_one hA
  obtain ⟨rfl, rfl⟩ := trodVars_none hV0
  obtain ⟨a0, n0, c0, rfl⟩ := okWide_slice Tryd.underlying22 (hval 0 22 v0 rfl rfl)
  have lt0 : ∀ x ∈ p, x.block < W.heap.size := by obtain ⟨m, hm⟩ := h0; exact DataW.trod_lt m _ _ _ hm
  obtain ⟨z0, of, ck, tx, s0⟩ := seen_steps h0
  have htab := tab_of_laid hL
  clear hval0 hval hA0 hV0
  refine (law4 a0 n0 c0 of ck tx W s0 z0 htab).mono fun e W' ⟨he, bel⟩ => ?_
  subst he
  exact ⟨_, rfl, _, _, _, [], _, [], hW', trodAll_mk1 (shut_bool Tryd.underlying4 _), trodAll_mk1 (Below.trod laidOut (by kernel_rfl) (of_decide_eq_true (by kernel_rfl)) h0 bel lt0), rfl, bel.frame _, fun h => by cases h⟩

theorem over : Rows.FnAddOfTableIsFirstAppearancesSaid :=
  OpenClaim.holds_of_wide 4 Tryd.f4 rfl rfl rfl rfl rfl rfl rfl ⟨rfl, rfl, rfl, rfl, rfl⟩ rfl rfl rfl rfl rfl (by kernel_rfl) Tryd.func4 (by kernel_rfl)
    (of_decide_eq_true (by kernel_rfl)) (by unfold Func.isWrapper; first | (rw [if_pos (by decide +kernel)]; kernel_rfl) | (rw [if_neg (by decide +kernel)]; exact ⟨rfl, rfl⟩))
    (fun os started H enc _ => lifted os started H enc)

/-- THE STATEMENT: the tied card. -/
theorem proved : Rows.FnAddOfTableIsFirstAppearancesCardSaid :=
  Claim7.holds_tied_plain_at .later [] [.data] true (true, "069b4d0571e1b61555a8fcd3bd31c9edd126383b0db54f6424a6cd3929b11d97") false
    over (fun _ h => by cases h) (by kernel_rfl) (fun _ h => by cases h) fnAddOfTableIsFirstAppearances_row_tie rfl ⟨rfl, rfl⟩ (by kernel_rfl) rfl
    (fun f fn hf hfn => by
      obtain rfl : f = 4 := Option.some.inj (hf.symm.trans (by kernel_rfl))
      obtain rfl : fn = Tryd.f4 := (Option.some.inj (Tryd.func4.symm.trans hfn)).symm
      exact ⟨by kernel_rfl, fun j t ht => by
        rw [Tryd.params4] at ht
        have h3 : t = 22 := by
          rcases j with _ | j
          · simpa using ht.symm
          · simp at ht
        subst h3
        exact (show Tryd.prog.wantsStandIn 22 = false by kernel_rfl)⟩)
    (by kernel_rfl)
#print axioms proved
end Go.Proofs.Qxb6604492aDoor.fnAddOfTableIsFirstAppearances
