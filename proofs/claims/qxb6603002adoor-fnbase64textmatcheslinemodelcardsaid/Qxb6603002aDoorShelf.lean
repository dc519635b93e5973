/- The shelf's contracts at this dump, in plain words (written by the guide's tools, cut down to what is used). -/
import Derived.Shelf.Small.Strs
import Derived.Shelf.Strings.Search1
import Derived.Shelf.Bytes.SlSmallAll
import Derived.Shelf.Bytes.SlTrim
import Derived.Test.Qxb6603002aDoorProg
namespace Go.Proofs
open Go.Shelf
def Tryd.lays137_ren : Go.Shelf.Ren := ⟨fun | 137 => 17 | 217 => 23 | 266 => 28 | n => n, fun | 9 => 9 | 5 => 5 | 3 => 3 | n => n, fun | n => n⟩
theorem Tryd.lays137 : Go.Proofs.Lays.n137 Tryd.prog Tryd.lays137_ren := {
  mixed := by kernel_rfl
  f137 := Tryd.func17.trans (congrArg some (by kernel_rfl))
  f217 := Tryd.func23.trans (congrArg some (by kernel_rfl))
  f266 := Tryd.func28.trans (congrArg some (by kernel_rfl))
  t3 := Tryd.underlying3
  a3 := Tryd.isAgg3
  z3 := Tryd.sizeOf3
  v3 := Tryd.zeroValue3
  t5 := Tryd.underlying5
  a5 := Tryd.isAgg5
  z5 := Tryd.sizeOf5
  v5 := Tryd.zeroValue5
  t9 := Tryd.underlying9
  a9 := Tryd.isAgg9
  z9 := Tryd.sizeOf9
  v9 := Tryd.zeroValue9 }
open Go.RowKit in
theorem Tryd.strings_IndexByte (s : ByteArray) (c : Int) (w : World) :
    Calls Tryd.prog 17 #[.string s, .int .u8 c] w fun e w' => e = .returned (.int .i64 (Lib.indexByte s.data.toList c.toNat.toUInt8)) ∧ w' = w := Any.strings_IndexByte Tryd.lays137 s c w
def Tryd.laysnb116_ren : Go.Shelf.Ren := ⟨fun | 116 => 18 | 115 => 24 | n => n, fun | 37 => 22 | 4 => 4 | 3 => 3 | 9 => 9 | 5 => 5 | n => n, fun | n => n⟩
theorem Tryd.laysnb116 : Go.Proofs.Lays.nb116 Tryd.prog Tryd.laysnb116_ren := {
  mixed := by kernel_rfl
  f115 := Tryd.func24.trans (congrArg some (by kernel_rfl))
  f116 := Tryd.func18.trans (congrArg some (by kernel_rfl))
  t3 := Tryd.underlying3
  a3 := Tryd.isAgg3
  z3 := Tryd.sizeOf3
  v3 := Tryd.zeroValue3
  t4 := Tryd.underlying4
  a4 := Tryd.isAgg4
  z4 := Tryd.sizeOf4
  v4 := Tryd.zeroValue4
  t9 := Tryd.underlying9
  a9 := Tryd.isAgg9
  z9 := Tryd.sizeOf9
  v9 := Tryd.zeroValue9
  t37 := Tryd.underlying22
  a37 := Tryd.isAgg22
  z37 := Tryd.sizeOf22
  v37 := Tryd.zeroValue22
  t5 := Tryd.underlying5
  a5 := Tryd.isAgg5
  z5 := Tryd.sizeOf5
  v5 := Tryd.zeroValue5 }
theorem Tryd.bytes_HasPrefix_all (p1 p2 : Option Addr) (n c m d : Nat) (xs ys : List Int) (w : World) (hx : xs.length = n) (hy : ys.length = m) (hnc : n ≤ c) (h1 : Lib.BytesIn w p1 n xs) (h2 : Lib.BytesIn w p2 m ys) :
    Calls Tryd.prog 18 #[.slice p1 n c, .slice p2 m d] w fun e w' => e = .returned (.bool (Lib.hasPrefix (Lib.bytesOf xs) (Lib.bytesOf ys))) ∧ w' = w := Any.bytes_HasPrefix_all Tryd.laysnb116 p1 p2 n c m d xs ys w hx hy hnc h1 h2
def Tryd.laysV8_ren : Go.Shelf.Ren := ⟨fun | 8 => 16 | 9 => 19 | 11 => 20 | 12 => 21 | 14 => 22 | 16 => 25 | 17 => 26 | 18 => 27 | 20 => 29 | n => n, fun | 22 => 22 | 9 => 9 | 3 => 3 | 4 => 4 | 5 => 5 | 28 => 34 | 27 => 33 | 0 => 0 | 31 => 37 | 33 => 38 | 21 => 21 | 36 => 41 | 37 => 42 | 40 => 45 | 39 => 44 | n => n, fun | 0 => 1 | 1 => 2 | n => n⟩
theorem Tryd.laysV8 : Go.Proofs.SlLaysV.n8 Tryd.prog Tryd.laysV8_ren := {
  mixed := by kernel_rfl
  f8 := Tryd.func16.trans (congrArg some (by kernel_rfl))
  f9 := Tryd.func19.trans (congrArg some (by kernel_rfl))
  f11 := Tryd.func20.trans (congrArg some (by kernel_rfl))
  f12 := Tryd.func21.trans (congrArg some (by kernel_rfl))
  f14 := Tryd.func22.trans (congrArg some (by kernel_rfl))
  f16 := Tryd.func25.trans (congrArg some (by kernel_rfl))
  f17 := Tryd.func26.trans (congrArg some (by kernel_rfl))
  f18 := Tryd.func27.trans (congrArg some (by kernel_rfl))
  f20 := Tryd.func29.trans (congrArg some (by kernel_rfl))
  t0 := Tryd.underlying0
  a0 := Tryd.isAgg0
  z0 := Tryd.sizeOf0
  v0 := Tryd.zeroValue0
  t3 := Tryd.underlying3
  a3 := Tryd.isAgg3
  z3 := Tryd.sizeOf3
  v3 := Tryd.zeroValue3
  t4 := Tryd.underlying4
  a4 := Tryd.isAgg4
  z4 := Tryd.sizeOf4
  v4 := Tryd.zeroValue4
  t5 := Tryd.underlying5
  a5 := Tryd.isAgg5
  z5 := Tryd.sizeOf5
  v5 := Tryd.zeroValue5
  t9 := Tryd.underlying9
  a9 := Tryd.isAgg9
  z9 := Tryd.sizeOf9
  v9 := Tryd.zeroValue9
  t21 := Tryd.underlying21
  a21 := Tryd.isAgg21
  z21 := Tryd.sizeOf21
  v21 := Tryd.zeroValue21
  t22 := Tryd.underlying22
  a22 := Tryd.isAgg22
  z22 := Tryd.sizeOf22
  v22 := Tryd.zeroValue22
  t27 := Tryd.underlying33
  a27 := Tryd.isAgg33
  z27 := Tryd.sizeOf33
  t28 := Tryd.underlying34
  a28 := Tryd.isAgg34
  z28 := Tryd.sizeOf34
  v28 := Tryd.zeroValue34
  t31 := Tryd.underlying37
  a31 := Tryd.isAgg37
  z31 := Tryd.sizeOf37
  v31 := Tryd.zeroValue37
  t33 := Tryd.underlying38
  a33 := Tryd.isAgg38
  z33 := Tryd.sizeOf38
  v33 := Tryd.zeroValue38
  t36 := Tryd.underlying41
  a36 := Tryd.isAgg41
  z36 := Tryd.sizeOf41
  t37 := Tryd.underlying42
  a37 := Tryd.isAgg42
  z37 := Tryd.sizeOf42
  v37 := Tryd.zeroValue42
  t39 := Tryd.underlying44
  a39 := Tryd.isAgg44
  z39 := Tryd.sizeOf44
  v39 := Tryd.zeroValue44
  t40 := Tryd.underlying45
  a40 := Tryd.isAgg45
  z40 := Tryd.sizeOf45
  v40 := Tryd.zeroValue45 }
open Go.RowKit in
theorem Tryd.bytes_TrimLeft (p : Option Addr) (n c : Nat) (xs : List Int) (cutset : ByteArray) (w : World)
    (hx : xs.length = n) (hnc : n ≤ c) (hbig : c ≤ 9223372036854775807) (h1 : Lib.BytesIn w p n xs) (hr : ∀ x ∈ xs, 0 ≤ x ∧ x < 256) (hcs : cutset.size < 4294967281) (hascii : ∀ (j : Nat) b, cutset.data.toList[j]? = some b → b.toNat < 128) :
    Calls Tryd.prog 16 #[.slice p n c, .string cutset] w fun e w' => e = .returned (Lib.leftV p n c (n - (Lib.trimLeftS (Lib.bytesOf xs) cutset.data.toList).length)) ∧ Below w.heap.size w w' := Any.bytes_TrimLeft_laid Tryd.laysV8 (by kernel_rfl) p n c xs cutset w hx hnc hbig h1 hr hcs hascii
end Go.Proofs
