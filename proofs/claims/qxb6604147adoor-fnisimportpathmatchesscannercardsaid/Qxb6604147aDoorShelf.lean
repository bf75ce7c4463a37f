/-
  The contracts of the library functions on this road, laid at this program by the kit's tool (lay-shelf, lay-plain).
-/
import Derived.Shelf.Strings.SplitShaped
import Derived.Shelf.Strings.Runes
import Derived.Shelf.Small.Strs
import Derived.Shelf.Small.Utf8
import Derived.Shelf.LaysM
import Derived.Test.Qxb6604147aDoorProg
namespace Go.Proofs
open Go.Shelf
def Tryd.lays119_ren : Go.Shelf.Ren := ⟨fun | 119 => 20 | n => n, fun | 21 => 21 | 4 => 4 | n => n, fun | n => n⟩
theorem Tryd.lays119 : Go.Proofs.Lays.n119 Tryd.prog Tryd.lays119_ren := {
  mixed := by kernel_rfl
  f119 := Tryd.func20.trans (congrArg some (by kernel_rfl))
  t4 := Tryd.underlying4
  a4 := Tryd.isAgg4
  z4 := Tryd.sizeOf4
  v4 := Tryd.zeroValue4
  t21 := Tryd.underlying21
  a21 := Tryd.isAgg21
  z21 := Tryd.sizeOf21
  v21 := Tryd.zeroValue21 }
theorem Tryd.utf8_ValidRune (r : Int) (w : World) :
    Calls Tryd.prog 20 #[.int .i32 r] w fun e w' => e = .returned (.bool (Lib.validRune r)) ∧ w' = w := Any.utf8_ValidRune Tryd.lays119 r w
def Tryd.lays137_ren : Go.Shelf.Ren := ⟨fun | 137 => 19 | 217 => 27 | 266 => 30 | n => n, fun | 9 => 9 | 5 => 5 | 3 => 3 | n => n, fun | n => n⟩
theorem Tryd.lays137 : Go.Proofs.Lays.n137 Tryd.prog Tryd.lays137_ren := {
  mixed := by kernel_rfl
  f137 := Tryd.func19.trans (congrArg some (by kernel_rfl))
  f217 := Tryd.func27.trans (congrArg some (by kernel_rfl))
  f266 := Tryd.func30.trans (congrArg some (by kernel_rfl))
  t3 := Tryd.underlying3
  a3 := Tryd.isAgg3
  z3 := Tryd.sizeOf3
  v3 := Tryd.zeroValue3
  t5 := Tryd.underlying5
  a5 := Tryd.isAgg5
  z5 := Tryd.sizeOf5
  v5 := Tryd.zeroValue5
  t9 := Tryd.underlying9
  a9 := Tryd.isAgg9
  z9 := Tryd.sizeOf9
  v9 := Tryd.zeroValue9 }
open Go.RowKit in
theorem Tryd.strings_IndexByte (s : ByteArray) (c : Int) (w : World) :
    Calls Tryd.prog 19 #[.string s, .int .u8 c] w fun e w' => e = .returned (.int .i64 (Lib.indexByte s.data.toList c.toNat.toUInt8)) ∧ w' = w := Any.strings_IndexByte Tryd.lays137 s c w
def Tryd.laysM146_ren : Go.Shelf.Ren := ⟨fun | 146 => 10 | 221 => 13 | 268 => 16 | 138 => 17 | 143 => 18 | 195 => 23 | 197 => 24 | 218 => 25 | 219 => 26 | 260 => 28 | 217 => 27 | 225 => 22 | 224 => 21 | 267 => 29 | 266 => 30 | 314 => 31 | n => n, fun | 9 => 9 | 31 => 24 | 3 => 3 | 4 => 4 | 0 => 0 | 105 => 37 | 21 => 21 | 5 => 5 | 46 => 35 | 119 => 39 | 139 => 42 | 138 => 41 | 146 => 44 | 51 => 43 | n => n, fun | 1 => 0 | 3 => 1 | 4 => 2 | n => n⟩
theorem Tryd.laysM146 : Go.Proofs.LaysM.n146 Tryd.prog Tryd.laysM146_ren := {
  mixed := by kernel_rfl
  f138 := Tryd.func17.trans (congrArg some (by kernel_rfl))
  f143 := Tryd.func18.trans (congrArg some (by kernel_rfl))
  f146 := Tryd.func10.trans (congrArg some (by kernel_rfl))
  f195 := Tryd.func23.trans (congrArg some (by kernel_rfl))
  f197 := Tryd.func24.trans (congrArg some (by kernel_rfl))
  f217 := Tryd.func27.trans (congrArg some (by kernel_rfl))
  f218 := Tryd.func25.trans (congrArg some (by kernel_rfl))
  f219 := Tryd.func26.trans (congrArg some (by kernel_rfl))
  f221 := Tryd.func13.trans (congrArg some (by kernel_rfl))
  f224 := Tryd.func21.trans (congrArg some (by kernel_rfl))
  f225 := Tryd.func22.trans (congrArg some (by kernel_rfl))
  f260 := Tryd.func28.trans (congrArg some (by kernel_rfl))
  f266 := Tryd.func30.trans (congrArg some (by kernel_rfl))
  f267 := Tryd.func29.trans (congrArg some (by kernel_rfl))
  f268 := Tryd.func16.trans (congrArg some (by kernel_rfl))
  f314 := Tryd.func31.trans (congrArg some (by kernel_rfl))
  t0 := Tryd.underlying0
  a0 := Tryd.isAgg0
  z0 := Tryd.sizeOf0
  v0 := Tryd.zeroValue0
  t3 := Tryd.underlying3
  a3 := Tryd.isAgg3
  z3 := Tryd.sizeOf3
  v3 := Tryd.zeroValue3
  t4 := Tryd.underlying4
  a4 := Tryd.isAgg4
  z4 := Tryd.sizeOf4
  v4 := Tryd.zeroValue4
  t5 := Tryd.underlying5
  a5 := Tryd.isAgg5
  z5 := Tryd.sizeOf5
  v5 := Tryd.zeroValue5
  t9 := Tryd.underlying9
  a9 := Tryd.isAgg9
  z9 := Tryd.sizeOf9
  v9 := Tryd.zeroValue9
  t21 := Tryd.underlying21
  a21 := Tryd.isAgg21
  z21 := Tryd.sizeOf21
  v21 := Tryd.zeroValue21
  t31 := Tryd.underlying24
  a31 := Tryd.isAgg24
  z31 := Tryd.sizeOf24
  v31 := Tryd.zeroValue24
  t46 := Tryd.underlying35
  a46 := Tryd.isAgg35
  z46 := Tryd.sizeOf35
  v46 := Tryd.zeroValue35
  t51 := Tryd.underlying43
  a51 := Tryd.isAgg43
  z51 := Tryd.sizeOf43
  v51 := Tryd.zeroValue43
  t105 := Tryd.underlying37
  a105 := Tryd.isAgg37
  z105 := Tryd.sizeOf37
  v105 := Tryd.zeroValue37
  t119 := Tryd.underlying39
  a119 := Tryd.isAgg39
  z119 := Tryd.sizeOf39
  t138 := Tryd.underlying41
  a138 := Tryd.isAgg41
  z138 := Tryd.sizeOf41
  v138 := Tryd.zeroValue41
  t139 := Tryd.underlying42
  a139 := Tryd.isAgg42
  z139 := Tryd.sizeOf42
  v139 := Tryd.zeroValue42
  t146 := Tryd.underlying44
  a146 := Tryd.isAgg44
  z146 := Tryd.sizeOf44
  v146 := Tryd.zeroValue44
  g1 := by kernel_rfl
  g3 := by kernel_rfl
  g4 := by kernel_rfl
  i0 := by kernel_rfl
  i3 := by kernel_rfl
  i4 := by kernel_rfl
  i5 := by kernel_rfl
  i9 := by kernel_rfl
  i21 := by kernel_rfl
  i31 := by kernel_rfl
  i46 := by kernel_rfl
  i51 := by kernel_rfl
  i105 := by kernel_rfl
  i138 := by kernel_rfl
  i139 := by kernel_rfl
  i146 := by kernel_rfl
  m1 := by kernel_rfl
  s1_3 := fun w h => Go.Proofs.cell_of_shapedOpen_int (zero := #[.int .i64 0]) (t := 3) h (of_decide_eq_true (by kernel_rfl)) (by kernel_rfl) rfl (by kernel_rfl) (by kernel_rfl) Tryd.underlying3
  m3 := by kernel_rfl
  m4 := by kernel_rfl }
open Go.RowKit Go.Lib in
theorem Tryd.strings_Split_shaped (s sep : ByteArray) (w : World) (h : w.ShapedOpen Tryd.prog) (hs : s.size < 4294967281) (h1 : 1 ≤ sep.size) :
    Calls Tryd.prog 10 #[.string s, .string sep] w fun e w' =>
      e = .returned (.slice (some ⟨w.heap.size, 0, none⟩) (Lib.countB s sep + 1) (Lib.countB s sep + 1)) ∧ w' = w.alloc (.cells ((Lib.splitB sep 0 (Lib.countB s sep) s).map Value.string).toArray 9) := Any.strings_Split_shaped Tryd.laysM146 s sep w h hs h1
def Tryd.lays151_ren : Go.Shelf.Ren := ⟨fun | 151 => 12 | 152 => 15 | 137 => 19 | 119 => 20 | 224 => 21 | 225 => 22 | 217 => 27 | 266 => 30 | n => n, fun | 9 => 9 | 21 => 21 | 4 => 4 | 3 => 3 | 5 => 5 | 0 => 0 | 46 => 35 | n => n, fun | n => n⟩
theorem Tryd.lays151 : Go.Proofs.Lays.n151 Tryd.prog Tryd.lays151_ren := {
  mixed := by kernel_rfl
  f119 := Tryd.func20.trans (congrArg some (by kernel_rfl))
  f137 := Tryd.func19.trans (congrArg some (by kernel_rfl))
  f151 := Tryd.func12.trans (congrArg some (by kernel_rfl))
  f152 := Tryd.func15.trans (congrArg some (by kernel_rfl))
  f217 := Tryd.func27.trans (congrArg some (by kernel_rfl))
  f224 := Tryd.func21.trans (congrArg some (by kernel_rfl))
  f225 := Tryd.func22.trans (congrArg some (by kernel_rfl))
  f266 := Tryd.func30.trans (congrArg some (by kernel_rfl))
  t0 := Tryd.underlying0
  a0 := Tryd.isAgg0
  z0 := Tryd.sizeOf0
  v0 := Tryd.zeroValue0
  t3 := Tryd.underlying3
  a3 := Tryd.isAgg3
  z3 := Tryd.sizeOf3
  v3 := Tryd.zeroValue3
  t4 := Tryd.underlying4
  a4 := Tryd.isAgg4
  z4 := Tryd.sizeOf4
  v4 := Tryd.zeroValue4
  t5 := Tryd.underlying5
  a5 := Tryd.isAgg5
  z5 := Tryd.sizeOf5
  v5 := Tryd.zeroValue5
  t9 := Tryd.underlying9
  a9 := Tryd.isAgg9
  z9 := Tryd.sizeOf9
  v9 := Tryd.zeroValue9
  t21 := Tryd.underlying21
  a21 := Tryd.isAgg21
  z21 := Tryd.sizeOf21
  v21 := Tryd.zeroValue21
  t46 := Tryd.underlying35
  a46 := Tryd.isAgg35
  z46 := Tryd.sizeOf35
  v46 := Tryd.zeroValue35 }
open Go.RowKit Go.Lib in
theorem Tryd.strings_ContainsRune_ascii (s : ByteArray) (r : Int) (w : World) (h0 : 0 ≤ r) (h1 : r < 128) :
    Calls Tryd.prog 12 #[.string s, .int .i32 r] w fun e w' => e = .returned (.bool (decide (0 ≤ Lib.indexByte s.data.toList r.toNat.toUInt8))) ∧ w' = w := Any.strings_ContainsRune_ascii Tryd.lays151 s r w h0 h1
end Go.Proofs
