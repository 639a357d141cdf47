/- The shelf's contracts laid at this program by the guide's lay-shelf.mjs and lay-plain.mjs; remarks struck. -/
import Derived.Shelf.Small.Strs
import Derived.Shelf.Strings.Search1
import Derived.Shelf.Strings.Prefix
import Derived.Test.Qxb6603814aModsProg
namespace Go.Proofs
open Go.Shelf
def Trym.lays137_ren : Go.Shelf.Ren := ⟨fun | 137 => 8 | 217 => 10 | 266 => 11 | n => n, fun | 9 => 9 | 5 => 5 | 3 => 3 | n => n, fun | n => n⟩
theorem Trym.lays137 : Go.Proofs.Lays.n137 Trym.prog Trym.lays137_ren := {
  mixed := by kernel_rfl
  f137 := Trym.func8.trans (congrArg some (by kernel_rfl))
  f217 := Trym.func10.trans (congrArg some (by kernel_rfl))
  f266 := Trym.func11.trans (congrArg some (by kernel_rfl))
  t3 := Trym.underlying3
  a3 := Trym.isAgg3
  z3 := Trym.sizeOf3
  v3 := Trym.zeroValue3
  t5 := Trym.underlying5
  a5 := Trym.isAgg5
  z5 := Trym.sizeOf5
  v5 := Trym.zeroValue5
  t9 := Trym.underlying9
  a9 := Trym.isAgg9
  z9 := Trym.sizeOf9
  v9 := Trym.zeroValue9 }
open Go.RowKit in
theorem Trym.strings_IndexByte (s : ByteArray) (c : Int) (w : World) :
    Calls Trym.prog 8 #[.string s, .int .u8 c] w fun e w' => e = .returned (.int .i64 (Lib.indexByte s.data.toList c.toNat.toUInt8)) ∧ w' = w := Any.strings_IndexByte Trym.lays137 s c w
def Trym.lays217_ren : Go.Shelf.Ren := ⟨fun | 217 => 10 | 266 => 11 | n => n, fun | 9 => 9 | 5 => 5 | 3 => 3 | n => n, fun | n => n⟩
theorem Trym.lays217 : Go.Proofs.Lays.n217 Trym.prog Trym.lays217_ren := {
  mixed := by kernel_rfl
  f217 := Trym.func10.trans (congrArg some (by kernel_rfl))
  f266 := Trym.func11.trans (congrArg some (by kernel_rfl))
  t3 := Trym.underlying3
  a3 := Trym.isAgg3
  z3 := Trym.sizeOf3
  v3 := Trym.zeroValue3
  t5 := Trym.underlying5
  a5 := Trym.isAgg5
  z5 := Trym.sizeOf5
  v5 := Trym.zeroValue5
  t9 := Trym.underlying9
  a9 := Trym.isAgg9
  z9 := Trym.sizeOf9
  v9 := Trym.zeroValue9 }
open Go.RowKit Go.Lib in
theorem Trym.stringslite_IndexByte (s : ByteArray) (c : Int) (w : World) :
    Calls Trym.prog 10 #[.string s, .int .u8 c] w fun e w' => e = .returned (.int .i64 (Lib.indexByte s.data.toList c.toNat.toUInt8)) ∧ w' = w := Any.stringslite_IndexByte Trym.lays217 s c w
def Trym.lays207_ren : Go.Shelf.Ren := ⟨fun | 207 => 9 | n => n, fun | 9 => 9 | 4 => 4 | 3 => 3 | n => n, fun | n => n⟩
theorem Trym.lays207 : Go.Proofs.Lays.n207 Trym.prog Trym.lays207_ren := {
  mixed := by kernel_rfl
  f207 := Trym.func9.trans (congrArg some (by kernel_rfl))
  t3 := Trym.underlying3
  a3 := Trym.isAgg3
  z3 := Trym.sizeOf3
  v3 := Trym.zeroValue3
  t4 := Trym.underlying4
  a4 := Trym.isAgg4
  z4 := Trym.sizeOf4
  v4 := Trym.zeroValue4
  t9 := Trym.underlying9
  a9 := Trym.isAgg9
  z9 := Trym.sizeOf9
  v9 := Trym.zeroValue9 }
open Go.RowKit Go.Lib in
theorem Trym.stringslite_HasSuffix (s p : ByteArray) (w : World) (hs : s.size ≤ 9223372036854775807) :
    Calls Trym.prog 9 #[.string s, .string p] w fun e w' => e = .returned (.bool (Lib.hasSuffix s.data.toList p.data.toList)) ∧ w' = w := Any.stringslite_HasSuffix Trym.lays207 s p w hs
def Trym.lays100_ren : Go.Shelf.Ren := ⟨fun | 100 => 7 | 207 => 9 | n => n, fun | 9 => 9 | 4 => 4 | 3 => 3 | n => n, fun | n => n⟩
theorem Trym.lays100 : Go.Proofs.Lays.n100 Trym.prog Trym.lays100_ren := {
  mixed := by kernel_rfl
  f100 := Trym.func7.trans (congrArg some (by kernel_rfl))
  f207 := Trym.func9.trans (congrArg some (by kernel_rfl))
  t3 := Trym.underlying3
  a3 := Trym.isAgg3
  z3 := Trym.sizeOf3
  v3 := Trym.zeroValue3
  t4 := Trym.underlying4
  a4 := Trym.isAgg4
  z4 := Trym.sizeOf4
  v4 := Trym.zeroValue4
  t9 := Trym.underlying9
  a9 := Trym.isAgg9
  z9 := Trym.sizeOf9
  v9 := Trym.zeroValue9 }
open Go.RowKit Go.Lib in
theorem Trym.strings_HasSuffix (s p : ByteArray) (w : World) (hs : s.size ≤ 9223372036854775807) :
    Calls Trym.prog 7 #[.string s, .string p] w fun e w' => e = .returned (.bool (Lib.hasSuffix s.data.toList p.data.toList)) ∧ w' = w := Any.strings_HasSuffix Trym.lays100 s p w hs
end Go.Proofs
