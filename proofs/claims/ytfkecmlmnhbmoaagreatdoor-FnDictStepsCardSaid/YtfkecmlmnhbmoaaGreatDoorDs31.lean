import Derived.Shelf.Sort.Plain
import Derived.Shelf.Slices.In.SortNone2
import Derived.Test.YtfkecmlmnhbmoaaGreatDoorProg
namespace Go.Proofs
open Go.Shelf
def Tryz.lays192_ren : Go.Shelf.Ren := ⟨fun | 192 => 74 | 190 => 99 | 125 => 128 | 258 => 127 | 128 => 170 | 129 => 120 | 302 => 161 | 303 => 162 | 304 => 163 | 305 => 164 | 306 => 165 | 307 => 166 | 308 => 167 | 309 => 168 | 310 => 169 | 333 => 211 | 329 => 212 | 330 => 213 | 334 => 214 | 335 => 215 | 336 => 216 | 344 => 235 | n => n, fun | 31 => 23 | 0 => 0 | 9 => 9 | 3 => 3 | 46 => 212 | 51 => 209 | 53 => 157 | 4 => 4 | 183 => 257 | 182 => 256 | 131 => 261 | 5 => 5 | 218 => 306 | 222 => 57 | 228 => 332 | 229 => 242 | n => n, fun | n => n⟩
theorem Tryz.lays192 : Go.Proofs.Lays.n192 Tryz.prog Tryz.lays192_ren := {
  mixed := by kernel_rfl
  f125 := Tryz.func128.trans (congrArg some (by kernel_rfl))
  f128 := Tryz.func170.trans (congrArg some (by kernel_rfl))
  f129 := Tryz.func120.trans (congrArg some (by kernel_rfl))
  f190 := Tryz.func99.trans (congrArg some (by kernel_rfl))
  f192 := Tryz.func74.trans (congrArg some (by kernel_rfl))
  f258 := Tryz.func127.trans (congrArg some (by kernel_rfl))
  f302 := Tryz.func161.trans (congrArg some (by kernel_rfl))
  f303 := Tryz.func162.trans (congrArg some (by kernel_rfl))
  f304 := Tryz.func163.trans (congrArg some (by kernel_rfl))
  f305 := Tryz.func164.trans (congrArg some (by kernel_rfl))
  f306 := Tryz.func165.trans (congrArg some (by kernel_rfl))
  f307 := Tryz.func166.trans (congrArg some (by kernel_rfl))
  f308 := Tryz.func167.trans (congrArg some (by kernel_rfl))
  f309 := Tryz.func168.trans (congrArg some (by kernel_rfl))
  f310 := Tryz.func169.trans (congrArg some (by kernel_rfl))
  f329 := Tryz.func212.trans (congrArg some (by kernel_rfl))
  f330 := Tryz.func213.trans (congrArg some (by kernel_rfl))
  f333 := Tryz.func211.trans (congrArg some (by kernel_rfl))
  f334 := Tryz.func214.trans (congrArg some (by kernel_rfl))
  f335 := Tryz.func215.trans (congrArg some (by kernel_rfl))
  f336 := Tryz.func216.trans (congrArg some (by kernel_rfl))
  f344 := Tryz.func235.trans (congrArg some (by kernel_rfl))
  t0 := Tryz.underlying0
  a0 := Tryz.isAgg0
  z0 := Tryz.sizeOf0
  v0 := Tryz.zeroValue0
  t3 := Tryz.underlying3
  a3 := Tryz.isAgg3
  z3 := Tryz.sizeOf3
  v3 := Tryz.zeroValue3
  t4 := Tryz.underlying4
  a4 := Tryz.isAgg4
  z4 := Tryz.sizeOf4
  v4 := Tryz.zeroValue4
  t5 := Tryz.underlying5
  a5 := Tryz.isAgg5
  z5 := Tryz.sizeOf5
  v5 := Tryz.zeroValue5
  t9 := Tryz.underlying9
  a9 := Tryz.isAgg9
  z9 := Tryz.sizeOf9
  v9 := Tryz.zeroValue9
  t31 := Tryz.underlying23
  a31 := Tryz.isAgg23
  z31 := Tryz.sizeOf23
  v31 := Tryz.zeroValue23
  t46 := Tryz.underlying212
  a46 := Tryz.isAgg212
  z46 := Tryz.sizeOf212
  v46 := Tryz.zeroValue212
  t51 := Tryz.underlying209
  a51 := Tryz.isAgg209
  z51 := Tryz.sizeOf209
  v51 := Tryz.zeroValue209
  t53 := Tryz.underlying157
  a53 := Tryz.isAgg157
  z53 := Tryz.sizeOf157
  v53 := Tryz.zeroValue157
  t131 := Tryz.underlying261
  a131 := Tryz.isAgg261
  z131 := Tryz.sizeOf261
  v131 := Tryz.zeroValue261
  t182 := Tryz.underlying256
  a182 := Tryz.isAgg256
  z182 := Tryz.sizeOf256
  v182 := Tryz.zeroValue256
  t183 := Tryz.underlying257
  a183 := Tryz.isAgg257
  z183 := Tryz.sizeOf257
  v183 := Tryz.zeroValue257
  t218 := Tryz.underlying306
  a218 := Tryz.isAgg306
  z218 := Tryz.sizeOf306
  v218 := Tryz.zeroValue306
  t222 := Tryz.underlying57
  a222 := Tryz.isAgg57
  z222 := Tryz.sizeOf57
  v222 := Tryz.zeroValue57
  t228 := Tryz.underlying332
  a228 := Tryz.isAgg332
  z228 := Tryz.sizeOf332
  v228 := Tryz.zeroValue332
  t229 := Tryz.underlying242
  a229 := Tryz.isAgg242
  z229 := Tryz.sizeOf242
  v229 := Tryz.zeroValue242 }
open Go.Sort Go.RowKit in
theorem Tryz.sort_Strings (blk off cap : Nat) (ss : List (List UInt8)) (w : World) (hH : Holds encStr w blk off ss.toArray) (hblk : blk < w.heap.size) (hsz : ss.length < 4611686018427387904) :
    Calls Tryz.prog 74 #[.slice (some ⟨blk, off, none⟩) ss.length cap] w fun e w' =>
      e = .returned (.tuple #[]) ∧ ∃ n os, w' = grow (putRow encStr (Sort.ahead w n) blk off (ss.mergeSort fun x y => decide (x ≤ y)).toArray) os := Any.sort_Strings Tryz.lays192 blk off cap ss w hH hblk hsz
open Go.RowKit Go.Sort in
theorem Tryz.sort_Strings_none (p : Option Addr) (cap : Nat) (w : World) :
    Calls Tryz.prog 74 #[.slice p 0 cap] w fun e w' => e = .returned (.tuple #[]) ∧ w' = w := Any.sort_Strings_none Tryz.lays192 p cap w
end Go.Proofs
