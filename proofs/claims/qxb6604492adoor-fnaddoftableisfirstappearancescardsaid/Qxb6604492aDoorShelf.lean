/- The contracts of the library that the road needs, in plain words, as the kit's tool wrote them for this program. -/
import Derived.Shelf.Strings.Builder2
import Derived.Shelf.Strings.FuncGrows
import Derived.Shelf.Unicode.PredsGn
import Derived.Test.Qxb6604492aDoorProg
namespace Go.Proofs
open Go.Shelf
def Tryd.lays165_ren : Go.Shelf.Ren := ⟨fun | 165 => 35 | 240 => 36 | 241 => 39 | 276 => 40 | 277 => 43 | n => n, fun | 70 => 67 | 3 => 3 | 0 => 0 | 4 => 4 | 9 => 9 | 20 => 20 | 72 => 73 | 37 => 40 | 164 => 86 | 5 => 5 | n => n, fun | n => n⟩
theorem Tryd.lays165 : Go.Proofs.Lays.n165 Tryd.prog Tryd.lays165_ren := {
  mixed := by kernel_rfl
  f165 := Tryd.func35.trans (congrArg some (by kernel_rfl))
  f240 := Tryd.func36.trans (congrArg some (by kernel_rfl))
  f241 := Tryd.func39.trans (congrArg some (by kernel_rfl))
  f276 := Tryd.func40.trans (congrArg some (by kernel_rfl))
  f277 := Tryd.func43.trans (congrArg some (by kernel_rfl))
  t0 := Tryd.underlying0
  a0 := Tryd.isAgg0
  z0 := Tryd.sizeOf0
  v0 := Tryd.zeroValue0
  t3 := Tryd.underlying3
  a3 := Tryd.isAgg3
  z3 := Tryd.sizeOf3
  v3 := Tryd.zeroValue3
  t4 := Tryd.underlying4
  a4 := Tryd.isAgg4
  z4 := Tryd.sizeOf4
  v4 := Tryd.zeroValue4
  t9 := Tryd.underlying9
  a9 := Tryd.isAgg9
  z9 := Tryd.sizeOf9
  v9 := Tryd.zeroValue9
  t20 := Tryd.underlying20
  a20 := Tryd.isAgg20
  z20 := Tryd.sizeOf20
  v20 := Tryd.zeroValue20
  t37 := Tryd.underlying40
  a37 := Tryd.isAgg40
  z37 := Tryd.sizeOf40
  v37 := Tryd.zeroValue40
  t70 := Tryd.underlying67
  a70 := Tryd.isAgg67
  z70 := Tryd.sizeOf67
  v70 := Tryd.zeroValue67
  t72 := Tryd.underlying73
  a72 := Tryd.isAgg73
  z72 := Tryd.sizeOf73
  v72 := Tryd.zeroValue73
  t164 := Tryd.underlying86
  a164 := Tryd.isAgg86
  z164 := Tryd.sizeOf86
  v164 := Tryd.zeroValue86 }
theorem Tryd.Builder_Extra_165 : Builder.Extra Tryd.prog Tryd.lays165_ren := {
  sizeBuilder := by kernel_rfl
  liesBuilder := by kernel_rfl
  t5 := Tryd.underlying5
  a5 := Tryd.isAgg5
  z5 := Tryd.sizeOf5
  v5 := Tryd.zeroValue5
  infoByte := by kernel_rfl
  cellsByte := by kernel_rfl
  sizeByte := by kernel_rfl
  neB5 := by decide }
open Go.RowKit in
/-- (*strings.Builder).Grow AT A BUILDER THAT HAS NOT BEEN WRITTEN ('var b strings.Builder; b.Grow(n)'): "Grow grows b's capacity, if necessary, to guarantee space for another n bytes.": it holds no byte behind it as before it. (LAID: no walk: one application.) -/
theorem Tryd.Builder_Grow_fresh (B b n : Nat) (w : World) (hB : B ≤ b) (hbk : w.heap[b]? = some (.cells #[.pointer none, .slice none 0 0] 73 (0, 0))) (hBw : B ≤ w.heap.size) (hn : n ≤ 281474976710656) :
    Calls Tryd.prog 35 #[.pointer (some ⟨b, 0, none⟩), .int .i64 n] w fun e w' => e = .returned (.tuple #[]) ∧ (Lib.BuilderAt 73 5 B b (.pointer (some ⟨b, 0, none⟩)) [] w' ∧ Below B w w') := Any.Builder_Grow_fresh Tryd.lays165 Tryd.Builder_Extra_165 B b n w hB hbk hBw hn
def Tryd.laysGw17_ren : Go.Shelf.Ren := ⟨fun | 17 => 37 | 15 => 41 | 20 => 44 | n => n, fun | 9 => 9 | 23 => 59 | 4 => 4 | 3 => 3 | 0 => 0 | 21 => 21 | n => n, fun | n => n⟩
theorem Tryd.laysGw17 : Go.Proofs.LaysGw.n17 Tryd.prog Tryd.laysGw17_ren := {
  mixed := by kernel_rfl
  f15 := Tryd.func41.trans (congrArg some (by kernel_rfl))
  f17 := Tryd.func37.trans (congrArg some (by kernel_rfl))
  f20 := Tryd.func44.trans (congrArg some (by kernel_rfl))
  t0 := Tryd.underlying0
  a0 := Tryd.isAgg0
  z0 := Tryd.sizeOf0
  v0 := Tryd.zeroValue0
  i0 := by kernel_rfl
  t3 := Tryd.underlying3
  a3 := Tryd.isAgg3
  z3 := Tryd.sizeOf3
  v3 := Tryd.zeroValue3
  i3 := by kernel_rfl
  t4 := Tryd.underlying4
  a4 := Tryd.isAgg4
  z4 := Tryd.sizeOf4
  v4 := Tryd.zeroValue4
  i4 := by kernel_rfl
  t9 := Tryd.underlying9
  a9 := Tryd.isAgg9
  z9 := Tryd.sizeOf9
  v9 := Tryd.zeroValue9
  i9 := by kernel_rfl
  t21 := Tryd.underlying21
  a21 := Tryd.isAgg21
  z21 := Tryd.sizeOf21
  v21 := Tryd.zeroValue21
  i21 := by kernel_rfl
  t23 := Tryd.underlying59
  a23 := Tryd.isAgg59
  z23 := Tryd.sizeOf59
  v23 := Tryd.zeroValue59
  i23 := by kernel_rfl }
open Go.RowKit Go.Lib in
theorem Tryd.strings_ContainsFunc_grows (g : Nat) (lb : Array Value) (eg : ∀ args w, (callFunc g args).run Tryd.prog w = .ok (.enter g args) w) (p : Nat → Bool) (s : ByteArray) (w : World) (hp : PredGrows Tryd.prog g lb p w) :
    Calls Tryd.prog 37 #[.string s, .func (.func g) #[] lb] w fun e w' => e = .returned (.bool (decide (0 ≤ Lib.idxFunc p true s))) ∧ Below w.heap.size w w' := Any.strings_ContainsFunc_grows Tryd.laysGw17 g lb eg p s w hp
def Tryd.laysGn22_ren : Go.Shelf.Ren := ⟨fun | 22 => 42 | n => n, fun | 21 => 21 | 4 => 4 | 32 => 91 | 5 => 5 | 40 => 92 | 0 => 0 | n => n, fun | 0 => 0 | n => n⟩
theorem Tryd.laysGn22 : Go.Proofs.LaysGn.n22 Tryd.prog Tryd.laysGn22_ren := {
  mixed := by kernel_rfl
  f22 := Tryd.func42.trans (congrArg some (by kernel_rfl))
  t0 := Tryd.underlying0
  a0 := Tryd.isAgg0
  z0 := Tryd.sizeOf0
  v0 := Tryd.zeroValue0
  i0 := by kernel_rfl
  t4 := Tryd.underlying4
  a4 := Tryd.isAgg4
  z4 := Tryd.sizeOf4
  v4 := Tryd.zeroValue4
  i4 := by kernel_rfl
  t5 := Tryd.underlying5
  a5 := Tryd.isAgg5
  z5 := Tryd.sizeOf5
  v5 := Tryd.zeroValue5
  i5 := by kernel_rfl
  t21 := Tryd.underlying21
  a21 := Tryd.isAgg21
  z21 := Tryd.sizeOf21
  v21 := Tryd.zeroValue21
  i21 := by kernel_rfl
  t32 := Tryd.underlying91
  a32 := Tryd.isAgg91
  z32 := Tryd.sizeOf91
  v32 := Tryd.zeroValue91
  i32 := by kernel_rfl
  t40 := Tryd.underlying92
  a40 := Tryd.isAgg92
  z40 := Tryd.sizeOf92
  g0 := by kernel_rfl
  m0 := by kernel_rfl }
open Go.RowKit Go.Lib in
/-- unicode.IsControl(r) AT EVERY int32. (LAID: no walk: one application.) -/
theorem Tryd.unicode_IsControl_all (r : Int) (w : World) (hlo : -2147483648 ≤ r) (hhi : r ≤ 2147483647) (htab : Lib.TabIs Tryd.prog w "unicode.properties" .u8 Lib.propertiesTab) :
    Calls Tryd.prog 42 #[.int .i32 r] w fun e w' => e = .returned (.bool (isControlU r)) ∧ Below w.heap.size w w' := Any.unicode_IsControl_all Tryd.laysGn22 (by kernel_rfl) r w hlo hhi htab
end Go.Proofs
