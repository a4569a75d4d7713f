import Derived.Shelf.Strings.Builder1
import Derived.Shelf.Strings.OnBuilder
import Derived.Shelf.Strings.Search3
import Derived.Shelf.LaysM
import Derived.Shelf.Sort.Plain
import Derived.Shelf.Strings.Split
import Derived.Shelf.Strings.SplitShaped
import Derived.Ground.Names2Prog
import Derived.Shelf.Spec.SearchS
import Derived.Shelf.Slices.CompactI
import Derived.Ground.SlgnProg
import Derived.Ground.SlgfProg
import Derived.Shelf.SlicesE.IndexFunc
import Derived.Shelf.SlicesE.DeleteFunc
import Derived.Test.Qxb6601214aDoorProg
namespace Go.Proofs
open Go.Shelf
def Tryd.lays156_ren : Go.Shelf.Ren := ⟨fun | 156 => 33 | 165 => 44 | 166 => 45 | 169 => 46 | 240 => 61 | 241 => 62 | 276 => 75 | 277 => 76 | n => n, fun | 31 => 23 | 9 => 9 | 3 => 3 | 4 => 4 | 0 => 0 | 20 => 20 | 72 => 63 | 76 => 67 | 70 => 60 | 37 => 61 | 75 => 66 | 127 => 81 | 164 => 91 | 5 => 5 | 80 => 42 | n => n, fun | n => n⟩
theorem Tryd.lays156 : Go.Proofs.Lays.n156 Tryd.prog Tryd.lays156_ren := {
  mixed := by kernel_rfl
  f156 := Tryd.func33.trans (congrArg some (by kernel_rfl))
  f165 := Tryd.func44.trans (congrArg some (by kernel_rfl))
  f166 := Tryd.func45.trans (congrArg some (by kernel_rfl))
  f169 := Tryd.func46.trans (congrArg some (by kernel_rfl))
  f240 := Tryd.func61.trans (congrArg some (by kernel_rfl))
  f241 := Tryd.func62.trans (congrArg some (by kernel_rfl))
  f276 := Tryd.func75.trans (congrArg some (by kernel_rfl))
  f277 := Tryd.func76.trans (congrArg some (by kernel_rfl))
  t0 := Tryd.underlying0
  a0 := Tryd.isAgg0
  z0 := Tryd.sizeOf0
  v0 := Tryd.zeroValue0
  t3 := Tryd.underlying3
  a3 := Tryd.isAgg3
  z3 := Tryd.sizeOf3
  v3 := Tryd.zeroValue3
  t4 := Tryd.underlying4
  a4 := Tryd.isAgg4
  z4 := Tryd.sizeOf4
  v4 := Tryd.zeroValue4
  t9 := Tryd.underlying9
  a9 := Tryd.isAgg9
  z9 := Tryd.sizeOf9
  v9 := Tryd.zeroValue9
  t20 := Tryd.underlying20
  a20 := Tryd.isAgg20
  z20 := Tryd.sizeOf20
  v20 := Tryd.zeroValue20
  t31 := Tryd.underlying23
  a31 := Tryd.isAgg23
  z31 := Tryd.sizeOf23
  v31 := Tryd.zeroValue23
  t37 := Tryd.underlying61
  a37 := Tryd.isAgg61
  z37 := Tryd.sizeOf61
  v37 := Tryd.zeroValue61
  t70 := Tryd.underlying60
  a70 := Tryd.isAgg60
  z70 := Tryd.sizeOf60
  v70 := Tryd.zeroValue60
  t72 := Tryd.underlying63
  a72 := Tryd.isAgg63
  z72 := Tryd.sizeOf63
  v72 := Tryd.zeroValue63
  t75 := Tryd.underlying66
  a75 := Tryd.isAgg66
  z75 := Tryd.sizeOf66
  v75 := Tryd.zeroValue66
  t76 := Tryd.underlying67
  a76 := Tryd.isAgg67
  z76 := Tryd.sizeOf67
  v76 := Tryd.zeroValue67
  t127 := Tryd.underlying81
  a127 := Tryd.isAgg81
  z127 := Tryd.sizeOf81
  v127 := Tryd.zeroValue81
  t164 := Tryd.underlying91
  a164 := Tryd.isAgg91
  z164 := Tryd.sizeOf91
  v164 := Tryd.zeroValue91 }
theorem Tryd.Builder_Extra_156 : Builder.Extra Tryd.prog Tryd.lays156_ren := {
  sizeBuilder := by kernel_rfl
  liesBuilder := by kernel_rfl
  t5 := Tryd.underlying5
  a5 := Tryd.isAgg5
  z5 := Tryd.sizeOf5
  v5 := Tryd.zeroValue5
  infoByte := by kernel_rfl
  cellsByte := by kernel_rfl
  sizeByte := by kernel_rfl
  neB5 := by decide }
open Go.RowKit in
theorem Tryd.strings_Join_none (a : Option Addr) (c : Nat) (sep : ByteArray) (w : World) :
    Calls Tryd.prog 33 #[.slice a 0 c, .string sep] w fun e w' => e = .returned (.string ⟨#[]⟩) ∧ w' = w := Any.strings_Join_none Tryd.lays156 Tryd.Builder_Extra_156 a c sep w
open Go.RowKit in
theorem Tryd.strings_Join (bk o c : Nat) (xs : List ByteArray) (sep : ByteArray) (w : World) (hcells : ∀ (j : Nat) x, xs[j]? = some x → w.cell? ⟨bk, o + j, none⟩ = some (.string x)) (hbk : bk < w.heap.size) (hN : xs.length ≤ 140737488355328) (hcap : xs.length ≤ c) (hlen : (Lib.join (xs.map (·.data.toList)) sep.data.toList).length ≤ 140737488355328) :
    Calls Tryd.prog 33 #[.slice (some ⟨bk, o, none⟩) xs.length c, .string sep] w fun e w' => e = .returned (.string ⟨(Lib.join (xs.map (·.data.toList)) sep.data.toList).toArray⟩) ∧ Below w.heap.size w w' := Any.strings_Join Tryd.lays156 Tryd.Builder_Extra_156 bk o c xs sep w hcells hbk hN hcap hlen
def Tryd.lays144_ren : Go.Shelf.Ren := ⟨fun | 144 => 32 | 143 => 43 | 219 => 60 | 217 => 71 | 225 => 72 | 224 => 73 | 267 => 74 | 266 => 81 | 314 => 82 | n => n, fun | 9 => 9 | 4 => 4 | 3 => 3 | 5 => 5 | 46 => 54 | 146 => 100 | 51 => 77 | n => n, fun | 1 => 0 | n => n⟩
theorem Tryd.lays144 : Go.Proofs.Lays.n144 Tryd.prog Tryd.lays144_ren := {
  mixed := by kernel_rfl
  f143 := Tryd.func43.trans (congrArg some (by kernel_rfl))
  f144 := Tryd.func32.trans (congrArg some (by kernel_rfl))
  f217 := Tryd.func71.trans (congrArg some (by kernel_rfl))
  f219 := Tryd.func60.trans (congrArg some (by kernel_rfl))
  f224 := Tryd.func73.trans (congrArg some (by kernel_rfl))
  f225 := Tryd.func72.trans (congrArg some (by kernel_rfl))
  f266 := Tryd.func81.trans (congrArg some (by kernel_rfl))
  f267 := Tryd.func74.trans (congrArg some (by kernel_rfl))
  f314 := Tryd.func82.trans (congrArg some (by kernel_rfl))
  t3 := Tryd.underlying3
  a3 := Tryd.isAgg3
  z3 := Tryd.sizeOf3
  v3 := Tryd.zeroValue3
  t4 := Tryd.underlying4
  a4 := Tryd.isAgg4
  z4 := Tryd.sizeOf4
  v4 := Tryd.zeroValue4
  t5 := Tryd.underlying5
  a5 := Tryd.isAgg5
  z5 := Tryd.sizeOf5
  v5 := Tryd.zeroValue5
  t9 := Tryd.underlying9
  a9 := Tryd.isAgg9
  z9 := Tryd.sizeOf9
  v9 := Tryd.zeroValue9
  t46 := Tryd.underlying54
  a46 := Tryd.isAgg54
  z46 := Tryd.sizeOf54
  v46 := Tryd.zeroValue54
  t51 := Tryd.underlying77
  a51 := Tryd.isAgg77
  z51 := Tryd.sizeOf77
  v51 := Tryd.zeroValue77
  t146 := Tryd.underlying100
  a146 := Tryd.isAgg100
  z146 := Tryd.sizeOf100
  v146 := Tryd.zeroValue100
  g1 := by kernel_rfl }
open Go.RowKit Go.Lib in
theorem Tryd.strings_Contains_one (s : ByteArray) (c : UInt8) (w : World) :
    Calls Tryd.prog 32 #[.string s, .string ⟨#[c]⟩] w fun e w' => e = .returned (.bool (decide (0 ≤ Lib.indexByte s.data.toList c))) ∧ w' = w := Any.strings_Contains_one Tryd.lays144 s c w
open Go.RowKit Go.Lib in
theorem Tryd.strings_Contains (s sub : ByteArray) (m : Int) (w : World) (hs : s.size < 4294967281) (hm : w.cell? ⟨0, 0, none⟩ = some (.int .i64 m)) :
    Calls Tryd.prog 32 #[.string s, .string sub] w fun e w' => e = .returned (.bool (Lib.contains s.data.toList sub.data.toList)) ∧ w' = w := Any.strings_Contains Tryd.lays144 s sub m w hs hm
def Tryd.lays189_ren : Go.Shelf.Ren := ⟨fun | 189 => 22 | 125 => 37 | 257 => 36 | 128 => 57 | 129 => 58 | 294 => 48 | 295 => 49 | 296 => 50 | 297 => 51 | 298 => 52 | 299 => 53 | 216 => 54 | 300 => 55 | 301 => 56 | 328 => 63 | 329 => 64 | 330 => 65 | 331 => 66 | 332 => 67 | 215 => 68 | 343 => 77 | n => n, fun | 28 => 41 | 3 => 3 | 46 => 54 | 0 => 0 | 51 => 77 | 53 => 79 | 4 => 4 | 183 => 71 | 182 => 70 | 131 => 43 | 5 => 5 | 9 => 9 | 218 => 82 | 222 => 86 | 228 => 94 | 229 => 95 | n => n, fun | n => n⟩
theorem Tryd.lays189 : Go.Proofs.Lays.n189 Tryd.prog Tryd.lays189_ren := {
  mixed := by kernel_rfl
  f125 := Tryd.func37.trans (congrArg some (by kernel_rfl))
  f128 := Tryd.func57.trans (congrArg some (by kernel_rfl))
  f129 := Tryd.func58.trans (congrArg some (by kernel_rfl))
  f189 := Tryd.func22.trans (congrArg some (by kernel_rfl))
  f215 := Tryd.func68.trans (congrArg some (by kernel_rfl))
  f216 := Tryd.func54.trans (congrArg some (by kernel_rfl))
  f257 := Tryd.func36.trans (congrArg some (by kernel_rfl))
  f294 := Tryd.func48.trans (congrArg some (by kernel_rfl))
  f295 := Tryd.func49.trans (congrArg some (by kernel_rfl))
  f296 := Tryd.func50.trans (congrArg some (by kernel_rfl))
  f297 := Tryd.func51.trans (congrArg some (by kernel_rfl))
  f298 := Tryd.func52.trans (congrArg some (by kernel_rfl))
  f299 := Tryd.func53.trans (congrArg some (by kernel_rfl))
  f300 := Tryd.func55.trans (congrArg some (by kernel_rfl))
  f301 := Tryd.func56.trans (congrArg some (by kernel_rfl))
  f328 := Tryd.func63.trans (congrArg some (by kernel_rfl))
  f329 := Tryd.func64.trans (congrArg some (by kernel_rfl))
  f330 := Tryd.func65.trans (congrArg some (by kernel_rfl))
  f331 := Tryd.func66.trans (congrArg some (by kernel_rfl))
  f332 := Tryd.func67.trans (congrArg some (by kernel_rfl))
  f343 := Tryd.func77.trans (congrArg some (by kernel_rfl))
  t0 := Tryd.underlying0
  a0 := Tryd.isAgg0
  z0 := Tryd.sizeOf0
  v0 := Tryd.zeroValue0
  t3 := Tryd.underlying3
  a3 := Tryd.isAgg3
  z3 := Tryd.sizeOf3
  v3 := Tryd.zeroValue3
  t4 := Tryd.underlying4
  a4 := Tryd.isAgg4
  z4 := Tryd.sizeOf4
  v4 := Tryd.zeroValue4
  t5 := Tryd.underlying5
  a5 := Tryd.isAgg5
  z5 := Tryd.sizeOf5
  v5 := Tryd.zeroValue5
  t9 := Tryd.underlying9
  a9 := Tryd.isAgg9
  z9 := Tryd.sizeOf9
  v9 := Tryd.zeroValue9
  t28 := Tryd.underlying41
  a28 := Tryd.isAgg41
  z28 := Tryd.sizeOf41
  v28 := Tryd.zeroValue41
  t46 := Tryd.underlying54
  a46 := Tryd.isAgg54
  z46 := Tryd.sizeOf54
  v46 := Tryd.zeroValue54
  t51 := Tryd.underlying77
  a51 := Tryd.isAgg77
  z51 := Tryd.sizeOf77
  v51 := Tryd.zeroValue77
  t53 := Tryd.underlying79
  a53 := Tryd.isAgg79
  z53 := Tryd.sizeOf79
  v53 := Tryd.zeroValue79
  t131 := Tryd.underlying43
  a131 := Tryd.isAgg43
  z131 := Tryd.sizeOf43
  v131 := Tryd.zeroValue43
  t182 := Tryd.underlying70
  a182 := Tryd.isAgg70
  z182 := Tryd.sizeOf70
  v182 := Tryd.zeroValue70
  t183 := Tryd.underlying71
  a183 := Tryd.isAgg71
  z183 := Tryd.sizeOf71
  v183 := Tryd.zeroValue71
  t218 := Tryd.underlying82
  a218 := Tryd.isAgg82
  z218 := Tryd.sizeOf82
  v218 := Tryd.zeroValue82
  t222 := Tryd.underlying86
  a222 := Tryd.isAgg86
  z222 := Tryd.sizeOf86
  v222 := Tryd.zeroValue86
  t228 := Tryd.underlying94
  a228 := Tryd.isAgg94
  z228 := Tryd.sizeOf94
  v228 := Tryd.zeroValue94
  t229 := Tryd.underlying95
  a229 := Tryd.isAgg95
  z229 := Tryd.sizeOf95
  v229 := Tryd.zeroValue95 }
open Go.Sort Go.RowKit in
theorem Tryd.slices_Sort_int (blk off cap : Nat) (zs : List Int) (w : World) (hH : Holds (Value.int .i64) w blk off zs.toArray) (hblk : blk < w.heap.size) (hsz : zs.length < 4611686018427387904) :
    Calls Tryd.prog 22 #[.slice (some ⟨blk, off, none⟩) zs.length cap] w fun e w' =>
      e = .returned (.tuple #[]) ∧ ∃ n os, w' = grow (putRow (Value.int .i64) (Sort.ahead w n) blk off (zs.mergeSort fun x y => decide (x ≤ y)).toArray) os := Any.slices_Sort_int Tryd.lays189 blk off cap zs w hH hblk hsz
def Tryd.lays146_ren : Go.Shelf.Ren := ⟨fun | 146 => 39 | 221 => 59 | 268 => 69 | 138 => 70 | 143 => 43 | 195 => 78 | 197 => 79 | 218 => 80 | 219 => 60 | 260 => 83 | 217 => 71 | 225 => 72 | 224 => 73 | 267 => 74 | 266 => 81 | 314 => 82 | n => n, fun | 9 => 9 | 31 => 23 | 3 => 3 | 4 => 4 | 0 => 0 | 105 => 98 | 21 => 21 | 5 => 5 | 46 => 54 | 119 => 102 | 139 => 105 | 138 => 104 | 146 => 100 | 51 => 77 | n => n, fun | 1 => 0 | 3 => 1 | 4 => 2 | n => n⟩
theorem Tryd.lays146 : Go.Proofs.Lays.n146 Tryd.prog Tryd.lays146_ren := {
  mixed := by kernel_rfl
  f138 := Tryd.func70.trans (congrArg some (by kernel_rfl))
  f143 := Tryd.func43.trans (congrArg some (by kernel_rfl))
  f146 := Tryd.func39.trans (congrArg some (by kernel_rfl))
  f195 := Tryd.func78.trans (congrArg some (by kernel_rfl))
  f197 := Tryd.func79.trans (congrArg some (by kernel_rfl))
  f217 := Tryd.func71.trans (congrArg some (by kernel_rfl))
  f218 := Tryd.func80.trans (congrArg some (by kernel_rfl))
  f219 := Tryd.func60.trans (congrArg some (by kernel_rfl))
  f221 := Tryd.func59.trans (congrArg some (by kernel_rfl))
  f224 := Tryd.func73.trans (congrArg some (by kernel_rfl))
  f225 := Tryd.func72.trans (congrArg some (by kernel_rfl))
  f260 := Tryd.func83.trans (congrArg some (by kernel_rfl))
  f266 := Tryd.func81.trans (congrArg some (by kernel_rfl))
  f267 := Tryd.func74.trans (congrArg some (by kernel_rfl))
  f268 := Tryd.func69.trans (congrArg some (by kernel_rfl))
  f314 := Tryd.func82.trans (congrArg some (by kernel_rfl))
  t0 := Tryd.underlying0
  a0 := Tryd.isAgg0
  z0 := Tryd.sizeOf0
  v0 := Tryd.zeroValue0
  t3 := Tryd.underlying3
  a3 := Tryd.isAgg3
  z3 := Tryd.sizeOf3
  v3 := Tryd.zeroValue3
  t4 := Tryd.underlying4
  a4 := Tryd.isAgg4
  z4 := Tryd.sizeOf4
  v4 := Tryd.zeroValue4
  t5 := Tryd.underlying5
  a5 := Tryd.isAgg5
  z5 := Tryd.sizeOf5
  v5 := Tryd.zeroValue5
  t9 := Tryd.underlying9
  a9 := Tryd.isAgg9
  z9 := Tryd.sizeOf9
  v9 := Tryd.zeroValue9
  t21 := Tryd.underlying21
  a21 := Tryd.isAgg21
  z21 := Tryd.sizeOf21
  v21 := Tryd.zeroValue21
  t31 := Tryd.underlying23
  a31 := Tryd.isAgg23
  z31 := Tryd.sizeOf23
  v31 := Tryd.zeroValue23
  t46 := Tryd.underlying54
  a46 := Tryd.isAgg54
  z46 := Tryd.sizeOf54
  v46 := Tryd.zeroValue54
  t51 := Tryd.underlying77
  a51 := Tryd.isAgg77
  z51 := Tryd.sizeOf77
  v51 := Tryd.zeroValue77
  t105 := Tryd.underlying98
  a105 := Tryd.isAgg98
  z105 := Tryd.sizeOf98
  v105 := Tryd.zeroValue98
  t119 := Tryd.underlying102
  a119 := Tryd.isAgg102
  z119 := Tryd.sizeOf102
  t138 := Tryd.underlying104
  a138 := Tryd.isAgg104
  z138 := Tryd.sizeOf104
  v138 := Tryd.zeroValue104
  t139 := Tryd.underlying105
  a139 := Tryd.isAgg105
  z139 := Tryd.sizeOf105
  v139 := Tryd.zeroValue105
  t146 := Tryd.underlying100
  a146 := Tryd.isAgg100
  z146 := Tryd.sizeOf100
  v146 := Tryd.zeroValue100
  g1 := by kernel_rfl
  g3 := by kernel_rfl
  g4 := by kernel_rfl }
open Go.RowKit Go.Lib in
theorem Tryd.strings_Split (s sep : ByteArray) (m : Int) (w : World) (hs : s.size < 4294967281) (hm : w.cell? ⟨0, 0, none⟩ = some (.int .i64 m)) (h1 : 1 ≤ sep.size) :
    Calls Tryd.prog 39 #[.string s, .string sep] w fun e w' =>
      e = .returned (.slice (some ⟨w.heap.size, 0, none⟩) (Lib.countB s sep + 1) (Lib.countB s sep + 1)) ∧ w' = w.alloc (.cells ((Lib.splitB sep 0 (Lib.countB s sep) s).map Value.string).toArray 9) := Any.strings_Split Tryd.lays146 (by kernel_rfl) s sep m w hs hm h1
def Tryd.laysM146_ren : Go.Shelf.Ren := ⟨fun | 146 => 39 | 221 => 59 | 268 => 69 | 138 => 70 | 143 => 43 | 195 => 78 | 197 => 79 | 218 => 80 | 219 => 60 | 260 => 83 | 217 => 71 | 225 => 72 | 224 => 73 | 267 => 74 | 266 => 81 | 314 => 82 | n => n, fun | 9 => 9 | 31 => 23 | 3 => 3 | 4 => 4 | 0 => 0 | 105 => 98 | 21 => 21 | 5 => 5 | 46 => 54 | 119 => 102 | 139 => 105 | 138 => 104 | 146 => 100 | 51 => 77 | n => n, fun | 1 => 0 | 3 => 1 | 4 => 2 | n => n⟩
theorem Tryd.laysM146 : Go.Proofs.LaysM.n146 Tryd.prog Tryd.laysM146_ren := {
  mixed := by kernel_rfl
  f138 := Tryd.func70.trans (congrArg some (by kernel_rfl))
  f143 := Tryd.func43.trans (congrArg some (by kernel_rfl))
  f146 := Tryd.func39.trans (congrArg some (by kernel_rfl))
  f195 := Tryd.func78.trans (congrArg some (by kernel_rfl))
  f197 := Tryd.func79.trans (congrArg some (by kernel_rfl))
  f217 := Tryd.func71.trans (congrArg some (by kernel_rfl))
  f218 := Tryd.func80.trans (congrArg some (by kernel_rfl))
  f219 := Tryd.func60.trans (congrArg some (by kernel_rfl))
  f221 := Tryd.func59.trans (congrArg some (by kernel_rfl))
  f224 := Tryd.func73.trans (congrArg some (by kernel_rfl))
  f225 := Tryd.func72.trans (congrArg some (by kernel_rfl))
  f260 := Tryd.func83.trans (congrArg some (by kernel_rfl))
  f266 := Tryd.func81.trans (congrArg some (by kernel_rfl))
  f267 := Tryd.func74.trans (congrArg some (by kernel_rfl))
  f268 := Tryd.func69.trans (congrArg some (by kernel_rfl))
  f314 := Tryd.func82.trans (congrArg some (by kernel_rfl))
  t0 := Tryd.underlying0
  a0 := Tryd.isAgg0
  z0 := Tryd.sizeOf0
  v0 := Tryd.zeroValue0
  t3 := Tryd.underlying3
  a3 := Tryd.isAgg3
  z3 := Tryd.sizeOf3
  v3 := Tryd.zeroValue3
  t4 := Tryd.underlying4
  a4 := Tryd.isAgg4
  z4 := Tryd.sizeOf4
  v4 := Tryd.zeroValue4
  t5 := Tryd.underlying5
  a5 := Tryd.isAgg5
  z5 := Tryd.sizeOf5
  v5 := Tryd.zeroValue5
  t9 := Tryd.underlying9
  a9 := Tryd.isAgg9
  z9 := Tryd.sizeOf9
  v9 := Tryd.zeroValue9
  t21 := Tryd.underlying21
  a21 := Tryd.isAgg21
  z21 := Tryd.sizeOf21
  v21 := Tryd.zeroValue21
  t31 := Tryd.underlying23
  a31 := Tryd.isAgg23
  z31 := Tryd.sizeOf23
  v31 := Tryd.zeroValue23
  t46 := Tryd.underlying54
  a46 := Tryd.isAgg54
  z46 := Tryd.sizeOf54
  v46 := Tryd.zeroValue54
  t51 := Tryd.underlying77
  a51 := Tryd.isAgg77
  z51 := Tryd.sizeOf77
  v51 := Tryd.zeroValue77
  t105 := Tryd.underlying98
  a105 := Tryd.isAgg98
  z105 := Tryd.sizeOf98
  v105 := Tryd.zeroValue98
  t119 := Tryd.underlying102
  a119 := Tryd.isAgg102
  z119 := Tryd.sizeOf102
  t138 := Tryd.underlying104
  a138 := Tryd.isAgg104
  z138 := Tryd.sizeOf104
  v138 := Tryd.zeroValue104
  t139 := Tryd.underlying105
  a139 := Tryd.isAgg105
  z139 := Tryd.sizeOf105
  v139 := Tryd.zeroValue105
  t146 := Tryd.underlying100
  a146 := Tryd.isAgg100
  z146 := Tryd.sizeOf100
  v146 := Tryd.zeroValue100
  g1 := by kernel_rfl
  g3 := by kernel_rfl
  g4 := by kernel_rfl
  i0 := by kernel_rfl
  i3 := by kernel_rfl
  i4 := by kernel_rfl
  i5 := by kernel_rfl
  i9 := by kernel_rfl
  i21 := by kernel_rfl
  i31 := by kernel_rfl
  i46 := by kernel_rfl
  i51 := by kernel_rfl
  i105 := by kernel_rfl
  i138 := by kernel_rfl
  i139 := by kernel_rfl
  i146 := by kernel_rfl
  m1 := by kernel_rfl
  s1_3 := fun w h => Go.Proofs.cell_of_shapedOpen_int (zero := #[.int .i64 0]) (t := 3) h (of_decide_eq_true (by kernel_rfl)) (by kernel_rfl) rfl (by kernel_rfl) (by kernel_rfl) Tryd.underlying3
  m3 := by kernel_rfl
  m4 := by kernel_rfl }
open Go.RowKit Go.Lib in
theorem Tryd.strings_Split_shaped (s sep : ByteArray) (w : World) (h : w.ShapedOpen Tryd.prog) (hs : s.size < 4294967281) (h1 : 1 ≤ sep.size) :
    Calls Tryd.prog 39 #[.string s, .string sep] w fun e w' =>
      e = .returned (.slice (some ⟨w.heap.size, 0, none⟩) (Lib.countB s sep + 1) (Lib.countB s sep + 1)) ∧ w' = w.alloc (.cells ((Lib.splitB sep 0 (Lib.countB s sep) s).map Value.string).toArray 9) := Any.strings_Split_shaped Tryd.laysM146 s sep w h hs h1
def Tryd.laysNm220_ren : Go.Shelf.Ren := ⟨fun | 20 => 23 | n => n, fun | 22 => 41 | 3 => 3 | 4 => 4 | 0 => 0 | n => n, fun | n => n⟩
theorem Tryd.laysNm220 : Go.Proofs.Lays2.n20 Tryd.prog Tryd.laysNm220_ren := {
  mixed := by kernel_rfl
  f20 := Tryd.func23.trans (congrArg some (by kernel_rfl))
  t0 := Tryd.underlying0
  a0 := Tryd.isAgg0
  z0 := Tryd.sizeOf0
  v0 := Tryd.zeroValue0
  t3 := Tryd.underlying3
  a3 := Tryd.isAgg3
  z3 := Tryd.sizeOf3
  v3 := Tryd.zeroValue3
  t4 := Tryd.underlying4
  a4 := Tryd.isAgg4
  z4 := Tryd.sizeOf4
  v4 := Tryd.zeroValue4
  t22 := Tryd.underlying41
  a22 := Tryd.isAgg41
  z22 := Tryd.sizeOf41
  v22 := Tryd.zeroValue41
  i3 := by kernel_rfl }
open Go.RowKit Go.Lib Go.Sort in
theorem Tryd.slices_Compact_int_arr (blk off cap : Nat) (d : Array Int) (w : World) (hH : Holds encI w blk off d) (hsz : d.size ≤ 9223372036854775807) (hcap : d.size ≤ cap) :
    Calls Tryd.prog 23 #[.slice (some ⟨blk, off, none⟩) d.size cap] w fun e w' => e = .returned (.slice (some ⟨blk, off, none⟩) (compactUpTo d d.size).length cap) ∧ ∃ q, w' = putRow encI (Sort.ahead w q) blk off (compactUpTo d d.size ++ List.replicate (d.size - (compactUpTo d d.size).length) 0).toArray := Any.slices_Compact_int_arr Tryd.laysNm220 blk off cap d w hH hsz hcap
open Go.RowKit Go.Lib Go.Sort in
theorem Tryd.slices_Compact_int (blk off cap : Nat) (zs : List Int) (w : World) (hH : Holds (Value.int .i64) w blk off zs.toArray) (hsz : zs.length ≤ 9223372036854775807) (hcap : zs.length ≤ cap) :
    Calls Tryd.prog 23 #[.slice (some ⟨blk, off, none⟩) zs.length cap] w fun e w' => e = .returned (.slice (some ⟨blk, off, none⟩) (Lib.compact zs).length cap) ∧ ∃ q, w' = putRow (Value.int .i64) (Sort.ahead w q) blk off (Lib.compact zs ++ List.replicate (zs.length - (Lib.compact zs).length) 0).toArray := Any.slices_Compact_int Tryd.laysNm220 blk off cap zs w hH hsz hcap
open Go.RowKit Go.Lib Go.Sort in
theorem Tryd.slices_Compact_int_empty (a : Option Addr) (cap : Nat) (w : World) :
    Calls Tryd.prog 23 #[.slice a 0 cap] w fun e w' => e = .returned (.slice a 0 cap) ∧ w' = w := Any.slices_Compact_int_empty Tryd.laysNm220 a cap w
def Tryd.laysSlH6_f30_ren : Go.Shelf.Ren := ⟨fun | 6 => 30 | n => n, fun | 22 => 23 | 23 => 9 | 25 => 28 | 3 => 3 | 0 => 0 | 4 => 4 | n => n, fun | n => n⟩
theorem Tryd.laysSlH6_f30 : Go.Proofs.SlLaysH.n6 Tryd.prog Tryd.laysSlH6_f30_ren := {
  mixed := by kernel_rfl
  f6 := ⟨Tryd.f30.name, by decide, Tryd.func30.trans (congrArg some (by kernel_rfl))⟩
  t0 := Tryd.underlying0
  a0 := Tryd.isAgg0
  z0 := Tryd.sizeOf0
  v0 := Tryd.zeroValue0
  t3 := Tryd.underlying3
  a3 := Tryd.isAgg3
  z3 := Tryd.sizeOf3
  v3 := Tryd.zeroValue3
  t4 := Tryd.underlying4
  a4 := Tryd.isAgg4
  z4 := Tryd.sizeOf4
  v4 := Tryd.zeroValue4
  t22 := Tryd.underlying23
  a22 := Tryd.isAgg23
  z22 := Tryd.sizeOf23
  v22 := Tryd.zeroValue23
  a23 := Tryd.isAgg9
  z23 := Tryd.sizeOf9
  t25 := Tryd.underlying28
  a25 := Tryd.isAgg28
  z25 := Tryd.sizeOf28
  v25 := Tryd.zeroValue28 }
open Go.RowKit Go.Lib in
theorem Tryd.slices_IndexFunc {α : Type} [Inhabited α] (enc : α → Value) (p : α → Bool) (g : Nat) (lb : Array Value) (eg : ∀ args w, (callFunc g args).run Tryd.prog w = .ok (.enter g args) w) (b off n c : Nat) (zs : List α) (w : World) (hp : PredAt Tryd.prog g lb enc p w) (hz : n ≤ zs.length) (hbig : n ≤ 9223372036854775807) (hc : ∀ j, j < zs.length → w.cell? ⟨b, off + j, none⟩ = some (enc zs[j]!)) :
    Calls Tryd.prog 30 #[.slice (some ⟨b, off, none⟩) n c, .func (.func g) #[] lb] w fun e w' => e = .returned (.int .i64 (Lib.idxBy (fun _ y => p y) (zs.take n) default)) ∧ ∃ q, w' = w.drewN q := AnyE.slices_IndexFunc Tryd.laysSlH6_f30 enc p g lb eg b off n c zs w hp hz hbig hc
open Go.RowKit Go.Lib in
theorem Tryd.slices_IndexFunc_empty {α : Type} [Inhabited α] (a : Option Addr) (c : Nat) (fv : Value) (w : World) :
    Calls Tryd.prog 30 #[.slice a 0 c, fv] w fun e w' => e = .returned (.int .i64 (-1)) ∧ w' = w := AnyE.slices_IndexFunc_empty Tryd.laysSlH6_f30 a c fv w
def Tryd.laysSlH10_f38_ren : Go.Shelf.Ren := ⟨fun | 10 => 38 | 6 => 30 | n => n, fun | 22 => 23 | 23 => 9 | 25 => 28 | 3 => 3 | 4 => 4 | 0 => 0 | n => n, fun | n => n⟩
theorem Tryd.laysSlH10_f38 : Go.Proofs.SlLaysH.n10 Tryd.prog Tryd.laysSlH10_f38_ren := {
  mixed := by kernel_rfl
  f6 := ⟨Tryd.f30.name, by decide, Tryd.func30.trans (congrArg some (by kernel_rfl))⟩
  f10 := ⟨Tryd.f38.name, by decide, Tryd.func38.trans (congrArg some (by kernel_rfl))⟩
  t0 := Tryd.underlying0
  a0 := Tryd.isAgg0
  z0 := Tryd.sizeOf0
  v0 := Tryd.zeroValue0
  t3 := Tryd.underlying3
  a3 := Tryd.isAgg3
  z3 := Tryd.sizeOf3
  v3 := Tryd.zeroValue3
  t4 := Tryd.underlying4
  a4 := Tryd.isAgg4
  z4 := Tryd.sizeOf4
  v4 := Tryd.zeroValue4
  t22 := Tryd.underlying23
  a22 := Tryd.isAgg23
  z22 := Tryd.sizeOf23
  v22 := Tryd.zeroValue23
  a23 := Tryd.isAgg9
  z23 := Tryd.sizeOf9
  t25 := Tryd.underlying28
  a25 := Tryd.isAgg28
  z25 := Tryd.sizeOf28
  v25 := Tryd.zeroValue28 }
open Go.RowKit Go.Lib Go.Sort in
theorem Tryd.slices_DeleteFunc {α : Type} [Inhabited α] (enc : α → Value) (hO : OneCell enc) (p : α → Bool) (g : Nat) (lb : Array Value) (eg : ∀ args w, (callFunc g args).run Tryd.prog w = .ok (.enter g args) w) (zr : α) (v23 : ∀ w, (zeroValue 9).run Tryd.prog w = .ok (enc zr) w) (blk off cap : Nat) (d : Array α) (w : World) (hp : PredAt Tryd.prog g lb enc p w) (hpo : PredOver Tryd.prog g lb enc p blk off d.size w) (hH : Holds enc w blk off d) (hsz : d.size ≤ 9223372036854775807) (hcap : d.size ≤ cap) :
    Calls Tryd.prog 38 #[.slice (some ⟨blk, off, none⟩) d.size cap, .func (.func g) #[] lb] w fun e w' => e = .returned (.slice (some ⟨blk, off, none⟩) (d.toList.filter fun x => !p x).length cap) ∧ ∃ q, w' = putRow enc (Sort.ahead w q) blk off ((d.toList.filter fun x => !p x) ++ List.replicate (d.size - (d.toList.filter fun x => !p x).length) zr).toArray := AnyE.slices_DeleteFunc Tryd.laysSlH10_f38 enc hO p g lb eg zr v23 blk off cap d w hp hpo hH hsz hcap
def Tryd.laysNm226_ren : Go.Shelf.Ren := ⟨fun | 26 => 21 | 33 => 34 | 34 => 35 | 38 => 47 | n => n, fun | 24 => 23 | 9 => 9 | 3 => 3 | 4 => 4 | 40 => 54 | 0 => 0 | n => n, fun | n => n⟩
theorem Tryd.laysNm226 : Go.Proofs.Lays2.n26 Tryd.prog Tryd.laysNm226_ren := {
  mixed := by kernel_rfl
  f26 := Tryd.func21.trans (congrArg some (by kernel_rfl))
  f33 := Tryd.func34.trans (congrArg some (by kernel_rfl))
  f34 := Tryd.func35.trans (congrArg some (by kernel_rfl))
  f38 := Tryd.func47.trans (congrArg some (by kernel_rfl))
  t0 := Tryd.underlying0
  a0 := Tryd.isAgg0
  z0 := Tryd.sizeOf0
  v0 := Tryd.zeroValue0
  t3 := Tryd.underlying3
  a3 := Tryd.isAgg3
  z3 := Tryd.sizeOf3
  v3 := Tryd.zeroValue3
  t4 := Tryd.underlying4
  a4 := Tryd.isAgg4
  z4 := Tryd.sizeOf4
  v4 := Tryd.zeroValue4
  t9 := Tryd.underlying9
  a9 := Tryd.isAgg9
  z9 := Tryd.sizeOf9
  v9 := Tryd.zeroValue9
  t24 := Tryd.underlying23
  a24 := Tryd.isAgg23
  z24 := Tryd.sizeOf23
  v24 := Tryd.zeroValue23
  t40 := Tryd.underlying54
  a40 := Tryd.isAgg54
  z40 := Tryd.sizeOf54
  v40 := Tryd.zeroValue54 }
open Go.RowKit Go.Lib in
theorem Tryd.slices_BinarySearch_string (b off n c : Nat) (Sx : Nat → ByteArray) (x : ByteArray) (w : World) (hbig : n < 4611686018427387904) (hc : ∀ j, j < n → w.cell? ⟨b, off + j, none⟩ = some (.string (Sx j))) :
    Calls Tryd.prog 21 #[.slice (some ⟨b, off, none⟩) n c, .string x] w fun e w' =>
      e = .returned (.tuple #[.int .i64 (Lib.bsGo (fun t => Op.bytesLess (Sx t).toList x.toList) n 0 n : Nat), .bool (decide (Lib.bsGo (fun t => Op.bytesLess (Sx t).toList x.toList) n 0 n < n ∧ Sx (Lib.bsGo (fun t => Op.bytesLess (Sx t).toList x.toList) n 0 n) = x))]) ∧ ∃ q, w' = w.drewN q := Any2.slices_BinarySearch_string Tryd.laysNm226 b off n c Sx x w hbig hc
open Go.RowKit Go.Lib in
theorem Tryd.slices_BinarySearch_string_empty (a : Option Addr) (c : Nat) (x : ByteArray) (w : World) :
    Calls Tryd.prog 21 #[.slice a 0 c, .string x] w fun e w' => e = .returned (.tuple #[.int .i64 0, .bool false]) ∧ w' = w := Any2.slices_BinarySearch_string_empty Tryd.laysNm226 a c x w
end Go.Proofs
