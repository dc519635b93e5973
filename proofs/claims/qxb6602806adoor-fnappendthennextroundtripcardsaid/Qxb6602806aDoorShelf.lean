/- The shelf's contracts at this dump, in plain words (written by the guide's tools, cut down to what is used). -/
import Derived.Shelf.Bytes.SlIndexSmall
import Derived.Shelf.Bytes.SlIndexAt
import Derived.Shelf.Bytes.SlSmallAll
import Derived.Ground.SlbtProg
import Derived.Shelf.Bytes.SlCut
import Derived.Shelf.Bytes.IndexByte
import Derived.Test.Qxb6602806aDoorProg
namespace Go.Proofs
open Go.Shelf
def Tryd.lays185_ren : Go.Shelf.Ren := ⟨fun | 185 => 25 | 187 => 16 | 115 => 29 | 253 => 30 | 224 => 31 | 254 => 32 | 255 => 22 | 291 => 34 | n => n, fun | 37 => 22 | 3 => 3 | 4 => 4 | 0 => 0 | 5 => 5 | 46 => 51 | 9 => 9 | 146 => 53 | 51 => 52 | n => n, fun | 1 => 0 | n => n⟩
theorem Tryd.lays185 : Go.Proofs.Lays.n185 Tryd.prog Tryd.lays185_ren := {
  mixed := by kernel_rfl
  f115 := Tryd.func29.trans (congrArg some (by kernel_rfl))
  f185 := Tryd.func25.trans (congrArg some (by kernel_rfl))
  f187 := Tryd.func16.trans (congrArg some (by kernel_rfl))
  f224 := Tryd.func31.trans (congrArg some (by kernel_rfl))
  f253 := Tryd.func30.trans (congrArg some (by kernel_rfl))
  f254 := Tryd.func32.trans (congrArg some (by kernel_rfl))
  f255 := Tryd.func22.trans (congrArg some (by kernel_rfl))
  f291 := Tryd.func34.trans (congrArg some (by kernel_rfl))
  t0 := Tryd.underlying0
  a0 := Tryd.isAgg0
  z0 := Tryd.sizeOf0
  v0 := Tryd.zeroValue0
  t3 := Tryd.underlying3
  a3 := Tryd.isAgg3
  z3 := Tryd.sizeOf3
  v3 := Tryd.zeroValue3
  t4 := Tryd.underlying4
  a4 := Tryd.isAgg4
  z4 := Tryd.sizeOf4
  v4 := Tryd.zeroValue4
  t5 := Tryd.underlying5
  a5 := Tryd.isAgg5
  z5 := Tryd.sizeOf5
  v5 := Tryd.zeroValue5
  t9 := Tryd.underlying9
  a9 := Tryd.isAgg9
  z9 := Tryd.sizeOf9
  v9 := Tryd.zeroValue9
  t37 := Tryd.underlying22
  a37 := Tryd.isAgg22
  z37 := Tryd.sizeOf22
  v37 := Tryd.zeroValue22
  t46 := Tryd.underlying51
  a46 := Tryd.isAgg51
  z46 := Tryd.sizeOf51
  v46 := Tryd.zeroValue51
  t51 := Tryd.underlying52
  a51 := Tryd.isAgg52
  z51 := Tryd.sizeOf52
  v51 := Tryd.zeroValue52
  t146 := Tryd.underlying53
  a146 := Tryd.isAgg53
  z146 := Tryd.sizeOf53
  v146 := Tryd.zeroValue53
  g1 := by kernel_rfl }
open Go.RowKit Go.Lib in
theorem Tryd.bytes_Index_one_nil (b2 o2 d : Nat) (cv : Int) (w : World) (hc2 : w.cell? ⟨b2, o2, none⟩ = some (.int .u8 cv)) :
    Calls Tryd.prog 25 #[.slice none 0 0, .slice (some ⟨b2, o2, none⟩) 1 d] w fun e w' => e = .returned (.int .i64 (-1)) ∧ w' = w := Any.bytes_Index_one_nil Tryd.lays185 b2 o2 d cv w hc2
def Tryd.lays187_ren : Go.Shelf.Ren := ⟨fun | 187 => 16 | 255 => 22 | n => n, fun | 37 => 22 | 5 => 5 | 3 => 3 | n => n, fun | n => n⟩
theorem Tryd.lays187 : Go.Proofs.Lays.n187 Tryd.prog Tryd.lays187_ren := {
  mixed := by kernel_rfl
  f187 := Tryd.func16.trans (congrArg some (by kernel_rfl))
  f255 := Tryd.func22.trans (congrArg some (by kernel_rfl))
  t3 := Tryd.underlying3
  a3 := Tryd.isAgg3
  z3 := Tryd.sizeOf3
  v3 := Tryd.zeroValue3
  t5 := Tryd.underlying5
  a5 := Tryd.isAgg5
  z5 := Tryd.sizeOf5
  v5 := Tryd.zeroValue5
  t37 := Tryd.underlying22
  a37 := Tryd.isAgg22
  z37 := Tryd.sizeOf22
  v37 := Tryd.zeroValue22 }
open Go.RowKit Go.Lib in
theorem Tryd.bytes_IndexByte_at (a : Addr) (n c : Nat) (xs : List Int) (cv : Int) (w : World) (hx : xs.length = n) (hc : ∀ i, i < n → w.cell? (a.add i) = some (.int .u8 (xs.getD i 0))) :
    Calls Tryd.prog 16 #[.slice (some a) n c, .int .u8 cv] w fun e w' => e = .returned (.int .i64 (Lib.indexByte (Lib.bytesOf xs) cv.toNat.toUInt8)) ∧ w' = w := Any.bytes_IndexByte_at Tryd.lays187 a n c xs cv w hx hc
open Go.RowKit Go.Lib in
theorem Tryd.bytes_Index_one_at (a : Addr) (n c b2 o2 d : Nat) (xs : List Int) (cv : Int) (w : World) (hx : xs.length = n) (hc : ∀ i, i < n → w.cell? (a.add i) = some (.int .u8 (xs.getD i 0))) (hc2 : w.cell? ⟨b2, o2, none⟩ = some (.int .u8 cv)) :
    Calls Tryd.prog 25 #[.slice (some a) n c, .slice (some ⟨b2, o2, none⟩) 1 d] w fun e w' => e = .returned (.int .i64 (Lib.indexByte (Lib.bytesOf xs) cv.toNat.toUInt8)) ∧ w' = w := Any.bytes_Index_one_at Tryd.lays185 a n c b2 o2 d xs cv w hx hc hc2
def Tryd.laysnb139_ren : Go.Shelf.Ren := ⟨fun | 139 => 20 | 116 => 26 | 115 => 29 | n => n, fun | 37 => 22 | 4 => 4 | 3 => 3 | 9 => 9 | 5 => 5 | n => n, fun | n => n⟩
theorem Tryd.laysnb139 : Go.Proofs.Lays.nb139 Tryd.prog Tryd.laysnb139_ren := {
  mixed := by kernel_rfl
  f115 := Tryd.func29.trans (congrArg some (by kernel_rfl))
  f116 := Tryd.func26.trans (congrArg some (by kernel_rfl))
  f139 := Tryd.func20.trans (congrArg some (by kernel_rfl))
  t3 := Tryd.underlying3
  a3 := Tryd.isAgg3
  z3 := Tryd.sizeOf3
  v3 := Tryd.zeroValue3
  t4 := Tryd.underlying4
  a4 := Tryd.isAgg4
  z4 := Tryd.sizeOf4
  v4 := Tryd.zeroValue4
  t9 := Tryd.underlying9
  a9 := Tryd.isAgg9
  z9 := Tryd.sizeOf9
  v9 := Tryd.zeroValue9
  t37 := Tryd.underlying22
  a37 := Tryd.isAgg22
  z37 := Tryd.sizeOf22
  v37 := Tryd.zeroValue22
  t5 := Tryd.underlying5
  a5 := Tryd.isAgg5
  z5 := Tryd.sizeOf5
  v5 := Tryd.zeroValue5 }
def Tryd.laysnb140_ren : Go.Shelf.Ren := ⟨fun | 140 => 18 | 117 => 24 | 115 => 29 | n => n, fun | 37 => 22 | 4 => 4 | 3 => 3 | 9 => 9 | 5 => 5 | n => n, fun | n => n⟩
theorem Tryd.laysnb140 : Go.Proofs.Lays.nb140 Tryd.prog Tryd.laysnb140_ren := {
  mixed := by kernel_rfl
  f115 := Tryd.func29.trans (congrArg some (by kernel_rfl))
  f117 := Tryd.func24.trans (congrArg some (by kernel_rfl))
  f140 := Tryd.func18.trans (congrArg some (by kernel_rfl))
  t3 := Tryd.underlying3
  a3 := Tryd.isAgg3
  z3 := Tryd.sizeOf3
  v3 := Tryd.zeroValue3
  t4 := Tryd.underlying4
  a4 := Tryd.isAgg4
  z4 := Tryd.sizeOf4
  v4 := Tryd.zeroValue4
  t9 := Tryd.underlying9
  a9 := Tryd.isAgg9
  z9 := Tryd.sizeOf9
  v9 := Tryd.zeroValue9
  t37 := Tryd.underlying22
  a37 := Tryd.isAgg22
  z37 := Tryd.sizeOf22
  v37 := Tryd.zeroValue22
  t5 := Tryd.underlying5
  a5 := Tryd.isAgg5
  z5 := Tryd.sizeOf5
  v5 := Tryd.zeroValue5 }
theorem Tryd.bytes_TrimPrefix_all (p1 p2 : Option Addr) (n c m d : Nat) (xs ys : List Int) (w : World) (hx : xs.length = n) (hy : ys.length = m) (hnc : n ≤ c) (h1 : Lib.BytesIn w p1 n xs) (h2 : Lib.BytesIn w p2 m ys) :
    Calls Tryd.prog 20 #[.slice p1 n c, .slice p2 m d] w fun e w' => e = .returned (Lib.trimPrefixV p1 n c xs ys) ∧ w' = w := Any.bytes_TrimPrefix_all Tryd.laysnb139 p1 p2 n c m d xs ys w hx hy hnc h1 h2
theorem Tryd.bytes_TrimSuffix_all (p1 p2 : Option Addr) (n c m d : Nat) (xs ys : List Int) (w : World) (hx : xs.length = n) (hy : ys.length = m) (hnc : n ≤ c) (hbig : n ≤ 9223372036854775807) (h1 : Lib.BytesIn w p1 n xs) (h2 : Lib.BytesIn w p2 m ys) :
    Calls Tryd.prog 18 #[.slice p1 n c, .slice p2 m d] w fun e w' => e = .returned (Lib.trimSuffixV p1 n c xs ys) ∧ w' = w := Any.bytes_TrimSuffix_all Tryd.laysnb140 p1 p2 n c m d xs ys w hx hy hnc hbig h1 h2
def Tryd.laysSlT4_ren : Go.Shelf.Ren := ⟨fun | 4 => 19 | 5 => 25 | 6 => 16 | 7 => 29 | 8 => 30 | 9 => 31 | 10 => 32 | 11 => 22 | 12 => 34 | n => n, fun | 22 => 22 | 4 => 4 | 3 => 3 | 0 => 0 | 5 => 5 | 29 => 51 | 9 => 9 | 31 => 53 | 30 => 52 | n => n, fun | 0 => 0 | n => n⟩
theorem Tryd.laysSlT4 : Go.Proofs.SlLaysT.n4 Tryd.prog Tryd.laysSlT4_ren := {
  mixed := by kernel_rfl
  f4 := Tryd.func19.trans (congrArg some (by kernel_rfl))
  f5 := Tryd.func25.trans (congrArg some (by kernel_rfl))
  f6 := Tryd.func16.trans (congrArg some (by kernel_rfl))
  f7 := Tryd.func29.trans (congrArg some (by kernel_rfl))
  f8 := Tryd.func30.trans (congrArg some (by kernel_rfl))
  f9 := Tryd.func31.trans (congrArg some (by kernel_rfl))
  f10 := Tryd.func32.trans (congrArg some (by kernel_rfl))
  f11 := Tryd.func22.trans (congrArg some (by kernel_rfl))
  f12 := Tryd.func34.trans (congrArg some (by kernel_rfl))
  t0 := Tryd.underlying0
  a0 := Tryd.isAgg0
  z0 := Tryd.sizeOf0
  v0 := Tryd.zeroValue0
  t3 := Tryd.underlying3
  a3 := Tryd.isAgg3
  z3 := Tryd.sizeOf3
  v3 := Tryd.zeroValue3
  t4 := Tryd.underlying4
  a4 := Tryd.isAgg4
  z4 := Tryd.sizeOf4
  v4 := Tryd.zeroValue4
  t5 := Tryd.underlying5
  a5 := Tryd.isAgg5
  z5 := Tryd.sizeOf5
  v5 := Tryd.zeroValue5
  t9 := Tryd.underlying9
  a9 := Tryd.isAgg9
  z9 := Tryd.sizeOf9
  v9 := Tryd.zeroValue9
  t22 := Tryd.underlying22
  a22 := Tryd.isAgg22
  z22 := Tryd.sizeOf22
  v22 := Tryd.zeroValue22
  t29 := Tryd.underlying51
  a29 := Tryd.isAgg51
  z29 := Tryd.sizeOf51
  v29 := Tryd.zeroValue51
  t30 := Tryd.underlying52
  a30 := Tryd.isAgg52
  z30 := Tryd.sizeOf52
  v30 := Tryd.zeroValue52
  t31 := Tryd.underlying53
  a31 := Tryd.isAgg53
  z31 := Tryd.sizeOf53
  v31 := Tryd.zeroValue53
  g0 := by kernel_rfl }
theorem Tryd.bytes_Cut_of (p1 p2 : Option Addr) (n c1 k c2 : Nat) (i : Int) (w : World) (hcap : n ≤ c1) (hlo : -1 ≤ i) (hroom : 0 ≤ i → i + k ≤ n) (hn : n ≤ 4611686018427387904) (hidx : Calls Tryd.prog 25 #[.slice p1 n c1, .slice p2 k c2] w fun e w' => e = .returned (.int .i64 i) ∧ ∃ q, w' = w.drewN q) :
    Calls Tryd.prog 19 #[.slice p1 n c1, .slice p2 k c2] w fun e w' => e = .returned (Lib.cutV p1 n c1 k i) ∧ ∃ q, w' = w.drewN q := Any.bytes_Cut_of Tryd.laysSlT4 p1 p2 n c1 k c2 i w hcap hlo hroom hn hidx
theorem Tryd.bytes_IndexByte_nil (cv : Int) (w : World) :
    Calls Tryd.prog 16 #[.slice none 0 0, .int .u8 cv] w fun e w' => e = .returned (.int .i64 (-1)) ∧ w' = w := Any.bytes_IndexByte_nil Tryd.lays187 cv w
end Go.Proofs
