/-
  The contracts of the library functions on this road, laid at this program by the kit's tool (lay-shelf, lay-plain).
-/
import Derived.Shelf.Strings.Trim
import Derived.Shelf.Small.Wraps
import Derived.Shelf.Strings.Prefix
import Derived.Test.Qxb6603029aDoorProg
namespace Go.Proofs
open Go.Shelf
def Tryd.lays231_ren : Go.Shelf.Ren := ⟨fun | 231 => 29 | n => n, fun | 9 => 9 | 5 => 5 | 3 => 3 | 4 => 4 | n => n, fun | n => n⟩
theorem Tryd.lays231 : Go.Proofs.Lays.n231 Tryd.prog Tryd.lays231_ren := {
  mixed := by kernel_rfl
  f231 := Tryd.func29.trans (congrArg some (by kernel_rfl))
  t3 := Tryd.underlying3
  a3 := Tryd.isAgg3
  z3 := Tryd.sizeOf3
  v3 := Tryd.zeroValue3
  t4 := Tryd.underlying4
  a4 := Tryd.isAgg4
  z4 := Tryd.sizeOf4
  v4 := Tryd.zeroValue4
  t5 := Tryd.underlying5
  a5 := Tryd.isAgg5
  z5 := Tryd.sizeOf5
  v5 := Tryd.zeroValue5
  t9 := Tryd.underlying9
  a9 := Tryd.isAgg9
  z9 := Tryd.sizeOf9
  v9 := Tryd.zeroValue9 }
open Go.RowKit in
theorem Tryd.strings_trimLeftByte (s : ByteArray) (c : UInt8) (w : World) :
    Calls Tryd.prog 29 #[.string s, .int .u8 c.toNat] w fun e w' => e = .returned (.string ⟨(Lib.trimLeftB s.data.toList c).toArray⟩) ∧ w' = w := Any.strings_trimLeftByte Tryd.lays231 s c w
def Tryd.lays232_ren : Go.Shelf.Ren := ⟨fun | 232 => 33 | n => n, fun | 9 => 9 | 5 => 5 | 3 => 3 | 4 => 4 | n => n, fun | n => n⟩
theorem Tryd.lays232 : Go.Proofs.Lays.n232 Tryd.prog Tryd.lays232_ren := {
  mixed := by kernel_rfl
  f232 := Tryd.func33.trans (congrArg some (by kernel_rfl))
  t3 := Tryd.underlying3
  a3 := Tryd.isAgg3
  z3 := Tryd.sizeOf3
  v3 := Tryd.zeroValue3
  t4 := Tryd.underlying4
  a4 := Tryd.isAgg4
  z4 := Tryd.sizeOf4
  v4 := Tryd.zeroValue4
  t5 := Tryd.underlying5
  a5 := Tryd.isAgg5
  z5 := Tryd.sizeOf5
  v5 := Tryd.zeroValue5
  t9 := Tryd.underlying9
  a9 := Tryd.isAgg9
  z9 := Tryd.sizeOf9
  v9 := Tryd.zeroValue9 }
open Go.RowKit in
theorem Tryd.strings_trimRightByte (s : ByteArray) (c : UInt8) (w : World) (hs : s.size ≤ 9223372036854775807) :
    Calls Tryd.prog 33 #[.string s, .int .u8 c.toNat] w fun e w' => e = .returned (.string ⟨(Lib.trimRightB s.data.toList c).toArray⟩) ∧ w' = w := Any.strings_trimRightByte Tryd.lays232 s c w hs
def Tryd.lays161_ren : Go.Shelf.Ren := ⟨fun | 161 => 25 | 231 => 29 | 227 => 30 | 233 => 31 | 235 => 32 | 228 => 43 | 197 => 44 | 151 => 45 | 260 => 51 | 152 => 52 | 137 => 56 | 119 => 57 | 224 => 58 | 225 => 59 | 217 => 60 | 266 => 61 | n => n, fun | 9 => 9 | 4 => 4 | 3 => 3 | 5 => 5 | 117 => 49 | 116 => 48 | 0 => 0 | 124 => 52 | 105 => 67 | 21 => 21 | 119 => 80 | 46 => 53 | 139 => 83 | 138 => 82 | n => n, fun | 3 => 0 | 4 => 1 | n => n⟩
theorem Tryd.lays161 : Go.Proofs.Lays.n161 Tryd.prog Tryd.lays161_ren := {
  mixed := by kernel_rfl
  f119 := Tryd.func57.trans (congrArg some (by kernel_rfl))
  f137 := Tryd.func56.trans (congrArg some (by kernel_rfl))
  f151 := Tryd.func45.trans (congrArg some (by kernel_rfl))
  f152 := Tryd.func52.trans (congrArg some (by kernel_rfl))
  f161 := Tryd.func25.trans (congrArg some (by kernel_rfl))
  f197 := Tryd.func44.trans (congrArg some (by kernel_rfl))
  f217 := Tryd.func60.trans (congrArg some (by kernel_rfl))
  f224 := Tryd.func58.trans (congrArg some (by kernel_rfl))
  f225 := Tryd.func59.trans (congrArg some (by kernel_rfl))
  f227 := Tryd.func30.trans (congrArg some (by kernel_rfl))
  f228 := Tryd.func43.trans (congrArg some (by kernel_rfl))
  f231 := Tryd.func29.trans (congrArg some (by kernel_rfl))
  f233 := Tryd.func31.trans (congrArg some (by kernel_rfl))
  f235 := Tryd.func32.trans (congrArg some (by kernel_rfl))
  f260 := Tryd.func51.trans (congrArg some (by kernel_rfl))
  f266 := Tryd.func61.trans (congrArg some (by kernel_rfl))
  t0 := Tryd.underlying0
  a0 := Tryd.isAgg0
  z0 := Tryd.sizeOf0
  v0 := Tryd.zeroValue0
  t3 := Tryd.underlying3
  a3 := Tryd.isAgg3
  z3 := Tryd.sizeOf3
  v3 := Tryd.zeroValue3
  t4 := Tryd.underlying4
  a4 := Tryd.isAgg4
  z4 := Tryd.sizeOf4
  v4 := Tryd.zeroValue4
  t5 := Tryd.underlying5
  a5 := Tryd.isAgg5
  z5 := Tryd.sizeOf5
  v5 := Tryd.zeroValue5
  t9 := Tryd.underlying9
  a9 := Tryd.isAgg9
  z9 := Tryd.sizeOf9
  v9 := Tryd.zeroValue9
  t21 := Tryd.underlying21
  a21 := Tryd.isAgg21
  z21 := Tryd.sizeOf21
  v21 := Tryd.zeroValue21
  t46 := Tryd.underlying53
  a46 := Tryd.isAgg53
  z46 := Tryd.sizeOf53
  v46 := Tryd.zeroValue53
  t105 := Tryd.underlying67
  a105 := Tryd.isAgg67
  z105 := Tryd.sizeOf67
  v105 := Tryd.zeroValue67
  t116 := Tryd.underlying48
  a116 := Tryd.isAgg48
  z116 := Tryd.sizeOf48
  t117 := Tryd.underlying49
  a117 := Tryd.isAgg49
  z117 := Tryd.sizeOf49
  v117 := Tryd.zeroValue49
  t119 := Tryd.underlying80
  a119 := Tryd.isAgg80
  z119 := Tryd.sizeOf80
  t124 := Tryd.underlying52
  a124 := Tryd.isAgg52
  z124 := Tryd.sizeOf52
  v124 := Tryd.zeroValue52
  t138 := Tryd.underlying82
  a138 := Tryd.isAgg82
  z138 := Tryd.sizeOf82
  v138 := Tryd.zeroValue82
  t139 := Tryd.underlying83
  a139 := Tryd.isAgg83
  z139 := Tryd.sizeOf83
  v139 := Tryd.zeroValue83
  g3 := by kernel_rfl
  g4 := by kernel_rfl }
open Go.RowKit in
theorem Tryd.strings_TrimLeft_one (s : ByteArray) (c : UInt8) (hc : c.toNat < 128) (w : World) :
    Calls Tryd.prog 25 #[.string s, .string ⟨#[c]⟩] w fun e w' => e = .returned (.string ⟨(Lib.trimLeftB s.data.toList c).toArray⟩) ∧ w' = w := Any.strings_TrimLeft_one Tryd.lays161 s c hc w
def Tryd.lays162_ren : Go.Shelf.Ren := ⟨fun | 162 => 26 | 232 => 33 | 227 => 30 | 234 => 34 | 236 => 35 | 228 => 43 | 271 => 46 | 151 => 45 | 120 => 53 | 197 => 44 | 152 => 52 | 260 => 51 | 137 => 56 | 119 => 57 | 224 => 58 | 225 => 59 | 217 => 60 | 266 => 61 | n => n, fun | 9 => 9 | 4 => 4 | 3 => 3 | 5 => 5 | 117 => 49 | 116 => 48 | 0 => 0 | 124 => 52 | 21 => 21 | 105 => 67 | 46 => 53 | 119 => 80 | 139 => 83 | 138 => 82 | n => n, fun | 3 => 0 | 4 => 1 | n => n⟩
theorem Tryd.lays162 : Go.Proofs.Lays.n162 Tryd.prog Tryd.lays162_ren := {
  mixed := by kernel_rfl
  f119 := Tryd.func57.trans (congrArg some (by kernel_rfl))
  f120 := Tryd.func53.trans (congrArg some (by kernel_rfl))
  f137 := Tryd.func56.trans (congrArg some (by kernel_rfl))
  f151 := Tryd.func45.trans (congrArg some (by kernel_rfl))
  f152 := Tryd.func52.trans (congrArg some (by kernel_rfl))
  f162 := Tryd.func26.trans (congrArg some (by kernel_rfl))
  f197 := Tryd.func44.trans (congrArg some (by kernel_rfl))
  f217 := Tryd.func60.trans (congrArg some (by kernel_rfl))
  f224 := Tryd.func58.trans (congrArg some (by kernel_rfl))
  f225 := Tryd.func59.trans (congrArg some (by kernel_rfl))
  f227 := Tryd.func30.trans (congrArg some (by kernel_rfl))
  f228 := Tryd.func43.trans (congrArg some (by kernel_rfl))
  f232 := Tryd.func33.trans (congrArg some (by kernel_rfl))
  f234 := Tryd.func34.trans (congrArg some (by kernel_rfl))
  f236 := Tryd.func35.trans (congrArg some (by kernel_rfl))
  f260 := Tryd.func51.trans (congrArg some (by kernel_rfl))
  f266 := Tryd.func61.trans (congrArg some (by kernel_rfl))
  f271 := Tryd.func46.trans (congrArg some (by kernel_rfl))
  t0 := Tryd.underlying0
  a0 := Tryd.isAgg0
  z0 := Tryd.sizeOf0
  v0 := Tryd.zeroValue0
  t3 := Tryd.underlying3
  a3 := Tryd.isAgg3
  z3 := Tryd.sizeOf3
  v3 := Tryd.zeroValue3
  t4 := Tryd.underlying4
  a4 := Tryd.isAgg4
  z4 := Tryd.sizeOf4
  v4 := Tryd.zeroValue4
  t5 := Tryd.underlying5
  a5 := Tryd.isAgg5
  z5 := Tryd.sizeOf5
  v5 := Tryd.zeroValue5
  t9 := Tryd.underlying9
  a9 := Tryd.isAgg9
  z9 := Tryd.sizeOf9
  v9 := Tryd.zeroValue9
  t21 := Tryd.underlying21
  a21 := Tryd.isAgg21
  z21 := Tryd.sizeOf21
  v21 := Tryd.zeroValue21
  t46 := Tryd.underlying53
  a46 := Tryd.isAgg53
  z46 := Tryd.sizeOf53
  v46 := Tryd.zeroValue53
  t105 := Tryd.underlying67
  a105 := Tryd.isAgg67
  z105 := Tryd.sizeOf67
  v105 := Tryd.zeroValue67
  t116 := Tryd.underlying48
  a116 := Tryd.isAgg48
  z116 := Tryd.sizeOf48
  t117 := Tryd.underlying49
  a117 := Tryd.isAgg49
  z117 := Tryd.sizeOf49
  v117 := Tryd.zeroValue49
  t119 := Tryd.underlying80
  a119 := Tryd.isAgg80
  z119 := Tryd.sizeOf80
  t124 := Tryd.underlying52
  a124 := Tryd.isAgg52
  z124 := Tryd.sizeOf52
  v124 := Tryd.zeroValue52
  t138 := Tryd.underlying82
  a138 := Tryd.isAgg82
  z138 := Tryd.sizeOf82
  v138 := Tryd.zeroValue82
  t139 := Tryd.underlying83
  a139 := Tryd.isAgg83
  z139 := Tryd.sizeOf83
  v139 := Tryd.zeroValue83
  g3 := by kernel_rfl
  g4 := by kernel_rfl }
open Go.RowKit in
theorem Tryd.strings_TrimRight_one (s : ByteArray) (c : UInt8) (hc : c.toNat < 128) (w : World) (hs : s.size ≤ 9223372036854775807) :
    Calls Tryd.prog 26 #[.string s, .string ⟨#[c]⟩] w fun e w' => e = .returned (.string ⟨(Lib.trimRightB s.data.toList c).toArray⟩) ∧ w' = w := Any.strings_TrimRight_one Tryd.lays162 s c hc w hs
def Tryd.lays210_ren : Go.Shelf.Ren := ⟨fun | 210 => 28 | 206 => 42 | n => n, fun | 9 => 9 | 4 => 4 | 3 => 3 | n => n, fun | n => n⟩
theorem Tryd.lays210 : Go.Proofs.Lays.n210 Tryd.prog Tryd.lays210_ren := {
  mixed := by kernel_rfl
  f206 := Tryd.func42.trans (congrArg some (by kernel_rfl))
  f210 := Tryd.func28.trans (congrArg some (by kernel_rfl))
  t3 := Tryd.underlying3
  a3 := Tryd.isAgg3
  z3 := Tryd.sizeOf3
  v3 := Tryd.zeroValue3
  t4 := Tryd.underlying4
  a4 := Tryd.isAgg4
  z4 := Tryd.sizeOf4
  v4 := Tryd.zeroValue4
  t9 := Tryd.underlying9
  a9 := Tryd.isAgg9
  z9 := Tryd.sizeOf9
  v9 := Tryd.zeroValue9 }
open Go.RowKit in
theorem Tryd.stringslite_CutPrefix (s p : ByteArray) (w : World) :
    Calls Tryd.prog 28 #[.string s, .string p] w fun e w' => e = .returned (.tuple #[.string ⟨(Lib.trimPrefix s.data.toList p.data.toList).toArray⟩, .bool (Lib.hasPrefix s.data.toList p.data.toList)]) ∧ w' = w := Any.stringslite_CutPrefix Tryd.lays210 s p w
def Tryd.lays103_ren : Go.Shelf.Ren := ⟨fun | 103 => 23 | 210 => 28 | 206 => 42 | n => n, fun | 9 => 9 | 4 => 4 | 24 => 29 | 3 => 3 | n => n, fun | n => n⟩
theorem Tryd.lays103 : Go.Proofs.Lays.n103 Tryd.prog Tryd.lays103_ren := {
  mixed := by kernel_rfl
  f103 := Tryd.func23.trans (congrArg some (by kernel_rfl))
  f206 := Tryd.func42.trans (congrArg some (by kernel_rfl))
  f210 := Tryd.func28.trans (congrArg some (by kernel_rfl))
  t3 := Tryd.underlying3
  a3 := Tryd.isAgg3
  z3 := Tryd.sizeOf3
  v3 := Tryd.zeroValue3
  t4 := Tryd.underlying4
  a4 := Tryd.isAgg4
  z4 := Tryd.sizeOf4
  v4 := Tryd.zeroValue4
  t9 := Tryd.underlying9
  a9 := Tryd.isAgg9
  z9 := Tryd.sizeOf9
  v9 := Tryd.zeroValue9
  t24 := Tryd.underlying29
  a24 := Tryd.isAgg29
  z24 := Tryd.sizeOf29
  v24 := Tryd.zeroValue29 }
open Go.RowKit in
theorem Tryd.strings_CutPrefix (s p : ByteArray) (w : World) :
    Calls Tryd.prog 23 #[.string s, .string p] w fun e w' => e = .returned (.tuple #[.string ⟨(Lib.trimPrefix s.data.toList p.data.toList).toArray⟩, .bool (Lib.hasPrefix s.data.toList p.data.toList)]) ∧ w' = w := Any.strings_CutPrefix Tryd.lays103 s p w
def Tryd.lays206_ren : Go.Shelf.Ren := ⟨fun | 206 => 42 | n => n, fun | 9 => 9 | 4 => 4 | 3 => 3 | n => n, fun | n => n⟩
theorem Tryd.lays206 : Go.Proofs.Lays.n206 Tryd.prog Tryd.lays206_ren := {
  mixed := by kernel_rfl
  f206 := Tryd.func42.trans (congrArg some (by kernel_rfl))
  t3 := Tryd.underlying3
  a3 := Tryd.isAgg3
  z3 := Tryd.sizeOf3
  v3 := Tryd.zeroValue3
  t4 := Tryd.underlying4
  a4 := Tryd.isAgg4
  z4 := Tryd.sizeOf4
  v4 := Tryd.zeroValue4
  t9 := Tryd.underlying9
  a9 := Tryd.isAgg9
  z9 := Tryd.sizeOf9
  v9 := Tryd.zeroValue9 }
open Go.RowKit Go.Lib in
theorem Tryd.stringslite_HasPrefix (s p : ByteArray) (w : World) :
    Calls Tryd.prog 42 #[.string s, .string p] w fun e w' => e = .returned (.bool (Lib.hasPrefix s.data.toList p.data.toList)) ∧ w' = w := Any.stringslite_HasPrefix Tryd.lays206 s p w
def Tryd.lays99_ren : Go.Shelf.Ren := ⟨fun | 99 => 37 | 206 => 42 | n => n, fun | 9 => 9 | 4 => 4 | 3 => 3 | n => n, fun | n => n⟩
theorem Tryd.lays99 : Go.Proofs.Lays.n99 Tryd.prog Tryd.lays99_ren := {
  mixed := by kernel_rfl
  f99 := Tryd.func37.trans (congrArg some (by kernel_rfl))
  f206 := Tryd.func42.trans (congrArg some (by kernel_rfl))
  t3 := Tryd.underlying3
  a3 := Tryd.isAgg3
  z3 := Tryd.sizeOf3
  v3 := Tryd.zeroValue3
  t4 := Tryd.underlying4
  a4 := Tryd.isAgg4
  z4 := Tryd.sizeOf4
  v4 := Tryd.zeroValue4
  t9 := Tryd.underlying9
  a9 := Tryd.isAgg9
  z9 := Tryd.sizeOf9
  v9 := Tryd.zeroValue9 }
open Go.RowKit Go.Lib in
theorem Tryd.strings_HasPrefix (s p : ByteArray) (w : World) :
    Calls Tryd.prog 37 #[.string s, .string p] w fun e w' => e = .returned (.bool (Lib.hasPrefix s.data.toList p.data.toList)) ∧ w' = w := Any.strings_HasPrefix Tryd.lays99 s p w
end Go.Proofs
