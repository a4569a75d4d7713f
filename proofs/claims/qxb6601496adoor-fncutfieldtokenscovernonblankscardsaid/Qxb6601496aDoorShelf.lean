import Derived.Shelf.Bytes.SlIndexAt
import Derived.Shelf.Bytes.SlSearch0
import Derived.Shelf.Bytes.IndexByte
import Derived.Shelf.Bytes.SlTrim
import Derived.Test.Qxb6601496aDoorProg
namespace Go.Proofs
open Go.Shelf
def Tryd.lays187_ren : Go.Shelf.Ren := ⟨fun | 187 => 20 | 255 => 24 | n => n, fun | 37 => 22 | 5 => 5 | 3 => 3 | n => n, fun | n => n⟩
theorem Tryd.lays187 : Go.Proofs.Lays.n187 Tryd.prog Tryd.lays187_ren := {
  mixed := by kernel_rfl
  f187 := Tryd.func20.trans (congrArg some (by kernel_rfl))
  f255 := Tryd.func24.trans (congrArg some (by kernel_rfl))
  t3 := Tryd.underlying3
  a3 := Tryd.isAgg3
  z3 := Tryd.sizeOf3
  v3 := Tryd.zeroValue3
  t5 := Tryd.underlying5
  a5 := Tryd.isAgg5
  z5 := Tryd.sizeOf5
  v5 := Tryd.zeroValue5
  t37 := Tryd.underlying22
  a37 := Tryd.isAgg22
  z37 := Tryd.sizeOf22
  v37 := Tryd.zeroValue22 }
def Tryd.laysT_ren : Go.Shelf.Ren := ⟨fun | 8 => 14 | 9 => 16 | 11 => 17 | 12 => 18 | 14 => 19 | 16 => 21 | 17 => 22 | 18 => 23 | 20 => 25 | n => n, fun | 22 => 22 | 9 => 9 | 3 => 3 | 4 => 4 | 5 => 5 | 28 => 35 | 27 => 34 | 0 => 0 | 31 => 38 | 33 => 40 | 21 => 21 | 36 => 43 | 37 => 44 | 40 => 47 | 39 => 46 | n => n, fun | 0 => 1 | 1 => 2 | n => n⟩
theorem Tryd.laysT : Go.Proofs.SlLaysV.n8 Tryd.prog Tryd.laysT_ren := {
  mixed := by kernel_rfl
  f8 := Tryd.func14.trans (congrArg some (by kernel_rfl))
  f9 := Tryd.func16.trans (congrArg some (by kernel_rfl))
  f11 := Tryd.func17.trans (congrArg some (by kernel_rfl))
  f12 := Tryd.func18.trans (congrArg some (by kernel_rfl))
  f14 := Tryd.func19.trans (congrArg some (by kernel_rfl))
  f16 := Tryd.func21.trans (congrArg some (by kernel_rfl))
  f17 := Tryd.func22.trans (congrArg some (by kernel_rfl))
  f18 := Tryd.func23.trans (congrArg some (by kernel_rfl))
  f20 := Tryd.func25.trans (congrArg some (by kernel_rfl))
  t0 := Tryd.underlying0
  a0 := Tryd.isAgg0
  z0 := Tryd.sizeOf0
  v0 := Tryd.zeroValue0
  t3 := Tryd.underlying3
  a3 := Tryd.isAgg3
  z3 := Tryd.sizeOf3
  v3 := Tryd.zeroValue3
  t4 := Tryd.underlying4
  a4 := Tryd.isAgg4
  z4 := Tryd.sizeOf4
  v4 := Tryd.zeroValue4
  t5 := Tryd.underlying5
  a5 := Tryd.isAgg5
  z5 := Tryd.sizeOf5
  v5 := Tryd.zeroValue5
  t9 := Tryd.underlying9
  a9 := Tryd.isAgg9
  z9 := Tryd.sizeOf9
  v9 := Tryd.zeroValue9
  t21 := Tryd.underlying21
  a21 := Tryd.isAgg21
  z21 := Tryd.sizeOf21
  v21 := Tryd.zeroValue21
  t22 := Tryd.underlying22
  a22 := Tryd.isAgg22
  z22 := Tryd.sizeOf22
  v22 := Tryd.zeroValue22
  t27 := Tryd.underlying34
  a27 := Tryd.isAgg34
  z27 := Tryd.sizeOf34
  t28 := Tryd.underlying35
  a28 := Tryd.isAgg35
  z28 := Tryd.sizeOf35
  v28 := Tryd.zeroValue35
  t31 := Tryd.underlying38
  a31 := Tryd.isAgg38
  z31 := Tryd.sizeOf38
  v31 := Tryd.zeroValue38
  t33 := Tryd.underlying40
  a33 := Tryd.isAgg40
  z33 := Tryd.sizeOf40
  v33 := Tryd.zeroValue40
  t36 := Tryd.underlying43
  a36 := Tryd.isAgg43
  z36 := Tryd.sizeOf43
  t37 := Tryd.underlying44
  a37 := Tryd.isAgg44
  z37 := Tryd.sizeOf44
  v37 := Tryd.zeroValue44
  t39 := Tryd.underlying46
  a39 := Tryd.isAgg46
  z39 := Tryd.sizeOf46
  v39 := Tryd.zeroValue46
  t40 := Tryd.underlying47
  a40 := Tryd.isAgg47
  z40 := Tryd.sizeOf47
  v40 := Tryd.zeroValue47 }
open Go.RowKit Go.Lib in
theorem Tryd.bytes_IndexByte_at (a : Addr) (n c : Nat) (xs : List Int) (cv : Int) (w : World) (hx : xs.length = n) (hc : ∀ i, i < n → w.cell? (a.add i) = some (.int .u8 (xs.getD i 0))) :
    Calls Tryd.prog 20 #[.slice (some a) n c, .int .u8 cv] w fun e w' => e = .returned (.int .i64 (Lib.indexByte (Lib.bytesOf xs) cv.toNat.toUInt8)) ∧ w' = w := Any.bytes_IndexByte_at Tryd.lays187 a n c xs cv w hx hc
open Go.Proofs Go.RowKit Go.Lib in
theorem Tryd.bytes_IndexByte_bytes (b o cap : Nat) (t : ByteArray) (cv : Int) (w : World) (hc : Lib.Bytes w b o t) :
    Calls Tryd.prog 20 #[.slice (some ⟨b, o, none⟩) t.size cap, .int .u8 cv] w fun e w' => e = .returned (.int .i64 (Lib.indexByte t.data.toList cv.toNat.toUInt8)) ∧ w' = w := Any.bytes_IndexByte_bytes Tryd.lays187 b o cap t cv w hc
theorem Tryd.bytes_IndexByte (b o n c : Nat) (xs : List Int) (cv : Int) (w : World) (hx : xs.length = n) (hc : ∀ i, i < n → w.cell? ⟨b, o + i, none⟩ = some (.int .u8 (xs.getD i 0))) :
    Calls Tryd.prog 20 #[.slice (some ⟨b, o, none⟩) n c, .int .u8 cv] w fun e w' => e = .returned (.int .i64 (Lib.indexByte (Lib.bytesOf xs) cv.toNat.toUInt8)) ∧ w' = w := Any.bytes_IndexByte Tryd.lays187 b o n c xs cv w hx hc
theorem Tryd.bytes_IndexByte_nil (cv : Int) (w : World) :
    Calls Tryd.prog 20 #[.slice none 0 0, .int .u8 cv] w fun e w' => e = .returned (.int .i64 (-1)) ∧ w' = w := Any.bytes_IndexByte_nil Tryd.lays187 cv w
end Go.Proofs
