import Derived.Test.Qxb6604492aDoorBase
import Derived.Test.Qxb6604492aDoorShelf
namespace Go.Proofs.Qxb6604492aDoor
open Go.RowKit Go.Lib

/-- The table that unicode.IsControl reads, as its initialiser lays it. -/
def TabOk (w : World) : Prop := Lib.TabIs Tryd.prog w "unicode.properties" .u8 Lib.propertiesTab

theorem tabGlobal : Tryd.prog.globalNamed "unicode.properties" = some 0 := by kernel_rfl

theorem TabOk.lt {w : World} (h : TabOk w) : 0 < w.heap.size := by
  unfold TabOk Lib.TabIs World.var? at h
  rw [tabGlobal] at h
  simp only [Option.bind_some] at h
  rcases Nat.lt_or_ge 0 w.heap.size with h' | h'
  · exact h'
  · rw [Array.getElem?_eq_none h'] at h; cases h

theorem TabOk.keep {B : Nat} {w w' : World} (h : TabOk w) (hb : Below B w w') (hB : 0 < B) : TabOk w' := by
  unfold TabOk Lib.TabIs World.var? at h ⊢
  rw [tabGlobal] at h ⊢
  simp only [Option.bind_some] at h ⊢
  rw [hb.block 0 hB]
  exact h

theorem TabOk.below {w w' : World} (h : TabOk w) (hb : Below w.heap.size w w') : TabOk w' := h.keep hb h.lt

/-- A rune that breaks a line. -/
def brkR (x : Nat) : Bool := isControlU x || x == 8232 || x == 8233
/-- A text that holds one. -/
def brk (s : ByteArray) : Bool := decide (0 ≤ Lib.idxFunc brkR true s)

theorem breaksLine_any (x : Nat) (hx : x ≤ 1114111) (w : World) (ht : TabOk w) :
    Calls Tryd.prog 38 #[.int .i32 x] w fun e w' => e = .returned (.bool (brkR x)) ∧ Below w.heap.size w w' := by
  have HC : Hid (Calls Tryd.prog 42 #[.int .i32 x] w fun e w' => e = .returned (.bool (isControlU x)) ∧ Below w.heap.size w w') := Tryd.unicode_IsControl_all x w (by omega) (by omega) ht
  obtain ⟨b, hb⟩ : ∃ b, b = isControlU x := ⟨_, rfl⟩
  rw [← hb] at HC
  have HR : Hid (brkR x = (b || x == 8232 || x == 8233)) := by rw [hb]; rfl
  clear hb ht
  cases b
  · by_cases h1 : x = 8232
    · subst h1
      go_enter Tryd.func38, Tryd.ntmps38
      go_wp2_with (go_at_call 42; refine HC.out.mono ?_; rintro e w1 ⟨rfl, hb1⟩)
      go_ret
      exact ⟨by rw [HR.out]; rfl, hb1⟩
    · have e1 : ((x : Int) == 8232) = false := beq_eq_false_iff_ne.2 (by omega)
      by_cases h2 : x = 8233
      · subst h2
        go_enter Tryd.func38, Tryd.ntmps38
        go_wp2_with (go_at_call 42; refine HC.out.mono ?_; rintro e w1 ⟨rfl, hb1⟩)
        go_ret
        exact ⟨by rw [HR.out]; rfl, hb1⟩
      · have e2 : ((x : Int) == 8233) = false := beq_eq_false_iff_ne.2 (by omega)
        have HR2 : Hid (brkR x = false) := by show brkR x = false; rw [HR.out]; simp [h1, h2]
        go_enter Tryd.func38, Tryd.ntmps38
        go_wp2_with (go_at_call 42; refine HC.out.mono ?_; rintro e w1 ⟨rfl, hb1⟩)
        go_ret
        exact ⟨by rw [HR2.out]; rfl, hb1⟩
  · go_enter Tryd.func38, Tryd.ntmps38
    go_wp2_with (go_at_call 42; refine HC.out.mono ?_; rintro e w1 ⟨rfl, hb1⟩)
    go_ret
    exact ⟨by rw [HR.out]; rfl, hb1⟩

theorem one_any (s : ByteArray) (w : World) (ht : TabOk w) :
    Calls Tryd.prog 34 #[.string s] w fun e w' => e = .returned (.bool (!brk s)) ∧ Below w.heap.size w w' := by
  have eg := enters_of Tryd.func38 (by kernel_rfl) rfl
  have HC : Hid (Calls Tryd.prog 37 #[.string s, .func (.func 38) #[] #[]] w fun e w' => e = .returned (.bool (brk s)) ∧ Below w.heap.size w w') :=
    Tryd.strings_ContainsFunc_grows 38 #[] eg brkR s w (fun W x hx hb => breaksLine_any x hx W (ht.below hb))
  clear ht eg
  go_enter Tryd.func34, Tryd.ntmps34
  go_wp2_with (go_at_call 37; refine HC.out.mono ?_; rintro e w1 ⟨rfl, hb1⟩)
  go_ret
  exact ⟨rfl, hb1⟩

end Go.Proofs.Qxb6604492aDoor
