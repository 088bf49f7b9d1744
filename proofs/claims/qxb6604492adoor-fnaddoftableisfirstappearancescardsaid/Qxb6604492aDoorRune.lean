import Derived.Test.Qxb6604492aDoorOne
import Derived.Deep.LoopGhost
namespace Go.Proofs.Qxb6604492aDoor
open Go.RowKit Go.Lib

/-- What the law's own 'breaksOneLine' asks. -/
def brkN (x : Nat) : Bool := decide (x ≤ 31) || (decide (127 ≤ x) && decide (x ≤ 159)) || x == 8232 || x == 8233

theorem control_small : ∀ x : Fin 256, isControlU (x.val : Int) = (decide (x.val ≤ 31) || (decide (127 ≤ x.val) && decide (x.val ≤ 159))) := by decide +kernel

theorem brkN_eq (x : Nat) : brkN x = brkR x := by
  unfold brkN brkR
  by_cases h : x < 256
  · rw [control_small ⟨x, h⟩]
  · have h1 : isControlU (x : Int) = false := by
      unfold isControlU latin1
      rw [if_neg (by simp; omega)]
    rw [h1, decide_eq_false (by omega), decide_eq_false (p := x ≤ 159) (by omega)]
    simp

theorem breaksOne_any (x : Nat) (hx : x ≤ 1114111) (w : World) : Calls Tryd.prog 24 #[.int .i32 x] w fun e w' => e = .returned (.bool (brkR x)) ∧ w' = w := by
  rw [← brkN_eq]
  by_cases h1 : x ≤ 31
  · have HR : Hid (brkN x = true) := by show brkN x = true; simp [brkN, h1]
    have h1' : (x : Int) ≤ 31 := by omega
    go_enter Tryd.func24, Tryd.ntmps24
    go_wp2
    go_ret
    exact ⟨by rw [HR.out]; rfl, rfl⟩
  have h1' : ¬ (x : Int) ≤ 31 := by omega
  by_cases h2 : 127 ≤ x ∧ x ≤ 159
  · have HR : Hid (brkN x = true) := by show brkN x = true; simp [brkN, h2]
    have h2' : (127 : Int) ≤ (x : Int) := by omega
    have h3' : (x : Int) ≤ 159 := by omega
    clear h2
    go_enter Tryd.func24, Tryd.ntmps24
    go_wp2
    go_ret
    exact ⟨by rw [HR.out]; rfl, rfl⟩
  have e0 : (decide (x ≤ 31) || (decide (127 ≤ x) && decide (x ≤ 159))) = false := by
    simp
    omega
  have HE : Hid (brkN x = (x == 8232 || x == 8233)) := by show brkN x = _; unfold brkN; rw [e0]; simp
  clear e0
  by_cases h4 : x = 8232
  · subst h4
    go_enter Tryd.func24, Tryd.ntmps24
    go_wp2
    go_ret
    exact ⟨by rw [HE.out]; rfl, rfl⟩
  by_cases h5 : x = 8233
  · subst h5
    go_enter Tryd.func24, Tryd.ntmps24
    go_wp2
    go_ret
    exact ⟨by rw [HE.out]; rfl, rfl⟩
  have HF : Hid (brkN x = false) := by show brkN x = false; rw [HE.out]; simp [h4, h5]
  have e4 : ((x : Int) == 8232) = false := beq_eq_false_iff_ne.2 (by omega)
  have e5 : ((x : Int) == 8233) = false := beq_eq_false_iff_ne.2 (by omega)
  by_cases h6 : 127 ≤ x
  · have h6' : (127 : Int) ≤ (x : Int) := by omega
    have h7' : ¬ (x : Int) ≤ 159 := by omega
    clear h2
    go_enter Tryd.func24, Tryd.ntmps24
    go_wp2
    go_ret
    exact ⟨by rw [HF.out]; rfl, rfl⟩
  · have h6' : ¬ (127 : Int) ≤ (x : Int) := by omega
    clear h2
    go_enter Tryd.func24, Tryd.ntmps24
    go_wp2
    go_ret
    exact ⟨by rw [HF.out]; rfl, rfl⟩

set_option maxHeartbeats 2000000 in
set_option maxRecDepth 1000000 in
theorem addOfBreaks_any (s : ByteArray) (w : World) : Calls Tryd.prog 19 #[.string s] w fun e w' => e = .returned (.bool (brk s)) ∧ Below w.heap.size w w' := by
  go_enter Tryd.func19, Tryd.ntmps19
  go_wp2
  go_loopg [] s.size (fun gf wx => ∃ pos : Nat, wx.heap[w.heap.size]? = some (.stringIter s pos) ∧ Below w.heap.size w wx ∧ Lib.idxFuncFrom brkR true s gf pos = Lib.idxFunc brkR true s ∧ s.size ≤ pos + gf)
  case atStart => exact ⟨0, World.iter_heap w s 0, (Below.refl _ w).alloc (Nat.le_refl _) _, rfl, by omega⟩
  case round =>
    obtain ⟨pos, hit, hbw, hleft, hfu⟩ := hrel
    by_cases hps : pos < s.size
    · obtain ⟨g', rfl⟩ : ∃ g', gk = g' + 1 := ⟨gk - 1, by omega⟩
      have hnx : ∀ ty, (Instr.next (.pointer (some ⟨w.heap.size, 0, none⟩)) true ty).run Tryd.prog wr = _ := fun ty => Lib.run_next_any_at wr w.heap.size s pos ty hit hps
      have hwd := Lib.width_pos s pos
      obtain ⟨R, hR⟩ : ∃ R, (Utf8.decode s pos).1 = R := ⟨_, rfl⟩
      obtain ⟨K, hK⟩ : ∃ K, (Utf8.decode s pos).2 = K := ⟨_, rfl⟩
      simp only [Lib.idxFuncFrom, hps, if_true, hR, hK] at hleft
      rw [hR, hK] at hnx
      rw [hK] at hwd
      have hit2 := Lib.iterAt_heap wr w.heap.size s pos (pos + K) hit
      have hbw2 := Lib.below_iterAt hbw (k := w.heap.size) (Nat.le_refl _) s (pos + K)
      obtain ⟨W, hWd⟩ : ∃ W, wr.iterAt w.heap.size s (pos + K) = W := ⟨_, rfl⟩
      rw [hWd] at hnx hit2 hbw2
      have HC : Hid (Calls Tryd.prog 24 #[.int .i32 (R : Int)] W fun e w' => e = .returned (.bool (brkR R)) ∧ w' = W) := breaksOne_any R (by rw [← hR]; exact Lib.rune_le s pos) W
      have HW : Hid (W.heap[w.heap.size]? = some (.stringIter s (pos + K)) ∧ Below w.heap.size w W) := ⟨hit2, hbw2⟩
      have HL : Hid ((if brkR R = true then (pos : Int) else Lib.idxFuncFrom brkR true s g' (pos + K)) = Lib.idxFunc brkR true s) := hleft
      clear hleft hit2 hbw2 hWd hit hbw
      obtain ⟨b, hb⟩ : ∃ b, b = brkR R := ⟨_, rfl⟩
      rw [← hb] at HC HL
      clear hb
      cases b
      · go_wp2_with (go_at_call 24; refine HC.out.mono ?_; rintro e wz ⟨rfl, hww⟩; obtain rfl := hww.symm; clear hww)
        go_roundg g'
        case measure => omega
        case rel => exact ⟨pos + K, HW.out.1, HW.out.2, by have h1 := HL.out; simpa using h1, by omega⟩
      · have HB : Hid (brk s = true) := by
          show brk s = true
          unfold brk
          rw [← HL.out]
          simp
        go_wp2_with (go_at_call 24; refine HC.out.mono ?_; rintro e wz ⟨rfl, hww⟩; obtain rfl := hww.symm; clear hww)
        go_ret
        exact ⟨by rw [HB.out]; rfl, HW.out.2⟩
    · have hnx : ∀ ty, (Instr.next (.pointer (some ⟨w.heap.size, 0, none⟩)) true ty).run Tryd.prog wr = _ := fun ty => Lib.run_next_end_at wr w.heap.size s pos ty hit hps
      rw [Lib.idxFuncFrom_end brkR true s gk pos hps] at hleft
      have HB : Hid (brk s = false) := by
        show brk s = false
        unfold brk
        rw [← hleft]
        decide
      have HW : Hid (Below w.heap.size w wr) := hbw
      clear hleft hbw
      go_wp2
      go_ret
      exact ⟨by rw [HB.out]; rfl, HW.out⟩

end Go.Proofs.Qxb6604492aDoor
