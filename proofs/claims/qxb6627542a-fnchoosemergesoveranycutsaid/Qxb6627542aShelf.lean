/-
  DERIVED: THE SHELF's CONTRACTS AT THIS DUMP, IN PLAIN WORDS (tools/lay-plain.mjs out of 'TryShelf.lean', which tools/lay-shelf.mjs wrote): THE SAME DECLARATIONS UNDER THE SAME NAMES: 'import', 'namespace', 'open', 'def', 'theorem' AND NOTHING ELSE: no command of the shelf's: FOR A HAND-IN. Each laying: the table of numbers ('.._ren') and one theorem, a field a fact of the dump's own or the kernel's comparison; each contract: ONE APPLICATION.
-/
import Derived.Shelf.Strconv.Itoa0
import Derived.Shelf.Sort.Plain
import Derived.Shelf.Slices.In.SortNone
import Derived.Test.Qxb6627542aProg
namespace Go.Proofs
open Go.Shelf
def Try.lays129_ren : Go.Shelf.Ren := ⟨fun | 129 => 30 | n => n, fun | 53 => 22 | 3 => 3 | 4 => 4 | 46 => 39 | 5 => 5 | 9 => 9 | n => n, fun | n => n⟩
theorem Try.lays129 : Go.Proofs.Lays.n129 Try.prog Try.lays129_ren := {
  mixed := by kernel_rfl
  f129 := Try.func30.trans (congrArg some (by kernel_rfl))
  t3 := Try.underlying3
  a3 := Try.isAgg3
  z3 := Try.sizeOf3
  v3 := Try.zeroValue3
  t4 := Try.underlying4
  a4 := Try.isAgg4
  z4 := Try.sizeOf4
  v4 := Try.zeroValue4
  t5 := Try.underlying5
  a5 := Try.isAgg5
  z5 := Try.sizeOf5
  v5 := Try.zeroValue5
  t9 := Try.underlying9
  a9 := Try.isAgg9
  z9 := Try.sizeOf9
  v9 := Try.zeroValue9
  t46 := Try.underlying39
  a46 := Try.isAgg39
  z46 := Try.sizeOf39
  v46 := Try.zeroValue39
  t53 := Try.underlying22
  a53 := Try.isAgg22
  z53 := Try.sizeOf22
  v53 := Try.zeroValue22 }
/-- bits.Len64: "Len64 returns the minimum number of bits required to represent x; the result is 0 for x == 0.": IT RETURNS 'Lib.bitLen x'; the world is as it was. ('h0', 'h1': x is a uint64.) (LAID: no walk: one application.) -/
theorem Try.bits_Len64 (x : Int) (w : World) (h0 : 0 ≤ x) (h1 : x ≤ 18446744073709551615) :
    Calls Try.prog 30 #[.int .u64 x] w fun e w' => e = .returned (.int .i64 (Lib.bitLen x.toNat)) ∧ w' = w := Any.bits_Len64 Try.lays129 x w h0 h1
def Try.lays189_ren : Go.Shelf.Ren := ⟨fun | 189 => 17 | 125 => 19 | 257 => 18 | 128 => 29 | 129 => 30 | 294 => 20 | 295 => 21 | 296 => 22 | 297 => 23 | 298 => 24 | 299 => 25 | 216 => 26 | 300 => 27 | 301 => 28 | 328 => 31 | 329 => 32 | 330 => 33 | 331 => 34 | 332 => 35 | 215 => 36 | 343 => 37 | n => n, fun | 28 => 25 | 3 => 3 | 46 => 39 | 0 => 0 | 51 => 55 | 53 => 22 | 4 => 4 | 183 => 47 | 182 => 46 | 131 => 52 | 5 => 5 | 9 => 9 | 218 => 57 | 222 => 61 | 228 => 64 | 229 => 65 | n => n, fun | n => n⟩
theorem Try.lays189 : Go.Proofs.Lays.n189 Try.prog Try.lays189_ren := {
  mixed := by kernel_rfl
  f125 := Try.func19.trans (congrArg some (by kernel_rfl))
  f128 := Try.func29.trans (congrArg some (by kernel_rfl))
  f129 := Try.func30.trans (congrArg some (by kernel_rfl))
  f189 := Try.func17.trans (congrArg some (by kernel_rfl))
  f215 := Try.func36.trans (congrArg some (by kernel_rfl))
  f216 := Try.func26.trans (congrArg some (by kernel_rfl))
  f257 := Try.func18.trans (congrArg some (by kernel_rfl))
  f294 := Try.func20.trans (congrArg some (by kernel_rfl))
  f295 := Try.func21.trans (congrArg some (by kernel_rfl))
  f296 := Try.func22.trans (congrArg some (by kernel_rfl))
  f297 := Try.func23.trans (congrArg some (by kernel_rfl))
  f298 := Try.func24.trans (congrArg some (by kernel_rfl))
  f299 := Try.func25.trans (congrArg some (by kernel_rfl))
  f300 := Try.func27.trans (congrArg some (by kernel_rfl))
  f301 := Try.func28.trans (congrArg some (by kernel_rfl))
  f328 := Try.func31.trans (congrArg some (by kernel_rfl))
  f329 := Try.func32.trans (congrArg some (by kernel_rfl))
  f330 := Try.func33.trans (congrArg some (by kernel_rfl))
  f331 := Try.func34.trans (congrArg some (by kernel_rfl))
  f332 := Try.func35.trans (congrArg some (by kernel_rfl))
  f343 := Try.func37.trans (congrArg some (by kernel_rfl))
  t0 := Try.underlying0
  a0 := Try.isAgg0
  z0 := Try.sizeOf0
  v0 := Try.zeroValue0
  t3 := Try.underlying3
  a3 := Try.isAgg3
  z3 := Try.sizeOf3
  v3 := Try.zeroValue3
  t4 := Try.underlying4
  a4 := Try.isAgg4
  z4 := Try.sizeOf4
  v4 := Try.zeroValue4
  t5 := Try.underlying5
  a5 := Try.isAgg5
  z5 := Try.sizeOf5
  v5 := Try.zeroValue5
  t9 := Try.underlying9
  a9 := Try.isAgg9
  z9 := Try.sizeOf9
  v9 := Try.zeroValue9
  t28 := Try.underlying25
  a28 := Try.isAgg25
  z28 := Try.sizeOf25
  v28 := Try.zeroValue25
  t46 := Try.underlying39
  a46 := Try.isAgg39
  z46 := Try.sizeOf39
  v46 := Try.zeroValue39
  t51 := Try.underlying55
  a51 := Try.isAgg55
  z51 := Try.sizeOf55
  v51 := Try.zeroValue55
  t53 := Try.underlying22
  a53 := Try.isAgg22
  z53 := Try.sizeOf22
  v53 := Try.zeroValue22
  t131 := Try.underlying52
  a131 := Try.isAgg52
  z131 := Try.sizeOf52
  v131 := Try.zeroValue52
  t182 := Try.underlying46
  a182 := Try.isAgg46
  z182 := Try.sizeOf46
  v182 := Try.zeroValue46
  t183 := Try.underlying47
  a183 := Try.isAgg47
  z183 := Try.sizeOf47
  v183 := Try.zeroValue47
  t218 := Try.underlying57
  a218 := Try.isAgg57
  z218 := Try.sizeOf57
  v218 := Try.zeroValue57
  t222 := Try.underlying61
  a222 := Try.isAgg61
  z222 := Try.sizeOf61
  v222 := Try.zeroValue61
  t228 := Try.underlying64
  a228 := Try.isAgg64
  z228 := Try.sizeOf64
  v228 := Try.zeroValue64
  t229 := Try.underlying65
  a229 := Try.isAgg65
  z229 := Try.sizeOf65
  v229 := Try.zeroValue65 }
open Go.Sort Go.RowKit in
theorem Try.slices_Sort_int (blk off cap : Nat) (zs : List Int) (w : World) (hH : Holds (Value.int .i64) w blk off zs.toArray) (hblk : blk < w.heap.size) (hsz : zs.length < 4611686018427387904) :
    Calls Try.prog 17 #[.slice (some ⟨blk, off, none⟩) zs.length cap] w fun e w' =>
      e = .returned (.tuple #[]) ∧ ∃ n os, w' = grow (putRow (Value.int .i64) (Sort.ahead w n) blk off (zs.mergeSort fun x y => decide (x ≤ y)).toArray) os := Any.slices_Sort_int Try.lays189 blk off cap zs w hH hblk hsz
open Go.RowKit Go.Sort in
/-- .. and plain. (LAID: no walk: one application.) -/
theorem Try.slices_Sort_int_none (p : Option Addr) (cap : Nat) (w : World) :
    Calls Try.prog 17 #[.slice p 0 cap] w fun e w' => e = .returned (.tuple #[]) ∧ w' = w := Any.slices_Sort_int_none Try.lays189 p cap w
end Go.Proofs
