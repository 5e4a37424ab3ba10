/-
  DERIVED: THE SHELF's CONTRACTS AT THIS DUMP, IN PLAIN WORDS (tools/lay-plain.mjs out of 'TryShelf.lean', which tools/lay-shelf.mjs wrote): THE SAME DECLARATIONS UNDER THE SAME NAMES: 'import', 'namespace', 'open', 'def', 'theorem' AND NOTHING ELSE: no command of the shelf's: FOR A HAND-IN. Each laying: the table of numbers ('.._ren') and one theorem, a field a fact of the dump's own or the kernel's comparison; each contract: ONE APPLICATION.
-/
import Derived.Shelf.Small.Bits
import Derived.Shelf.Small.Wraps
import Derived.Shelf.Strconv.Itoa0
import Derived.Shelf.Sort.Plain
import Derived.Ground.GgtProg
import Derived.Shelf.GgSortMore.Iface
import Derived.Shelf.GgSortMore.IfaceD
import Derived.Shelf.GgSortMore.IfacePart
import Derived.Shelf.GgSortMore.IfacePdq
import Derived.Shelf.GgSortMore.SortSort
import Derived.Shelf.Slices.In.SortNone
import Derived.Ground.GgsProg
import Derived.Shelf.SlSortFunc.Xorshift
import Derived.Shelf.SlSortIface.SiftDown
import Derived.Shelf.SlSortIface.HeapSort
import Derived.Shelf.SlSortIface.PartialInsertion
import Derived.Ground.SlgnProg
import Derived.Shelf.SlicesG.Equal
import Derived.Shelf.SlicesE.Equal
import Derived.Shelf.SlicesE.Compact
import Derived.Shelf.SlicesE.Clone
import Derived.Test.YtepjailijekepaaProg
namespace Go.Proofs
open Go.Shelf
def Try.lays128_ren : Go.Shelf.Ren := ⟨fun | 128 => 72 | n => n, fun | 51 => 116 | 3 => 3 | 4 => 4 | 46 => 81 | 5 => 5 | 9 => 9 | n => n, fun | n => n⟩
theorem Try.lays128 : Go.Proofs.Lays.n128 Try.prog Try.lays128_ren := {
  mixed := by kernel_rfl
  f128 := Try.func72.trans (congrArg some (by kernel_rfl))
  t3 := Try.underlying3
  a3 := Try.isAgg3
  z3 := Try.sizeOf3
  v3 := Try.zeroValue3
  t4 := Try.underlying4
  a4 := Try.isAgg4
  z4 := Try.sizeOf4
  v4 := Try.zeroValue4
  t5 := Try.underlying5
  a5 := Try.isAgg5
  z5 := Try.sizeOf5
  v5 := Try.zeroValue5
  t9 := Try.underlying9
  a9 := Try.isAgg9
  z9 := Try.sizeOf9
  v9 := Try.zeroValue9
  t46 := Try.underlying81
  a46 := Try.isAgg81
  z46 := Try.sizeOf81
  v46 := Try.zeroValue81
  t51 := Try.underlying116
  a51 := Try.isAgg116
  z51 := Try.sizeOf116
  v51 := Try.zeroValue116 }
/-- bits.Len32: "Len32 returns the minimum number of bits required to represent x; the result is 0 for x == 0.": IT RETURNS 'Lib.bitLen x'; the world is as it was. ('h0', 'h1': x is a uint32.) (LAID: no walk: one application.) -/
theorem Try.bits_Len32 (x : Int) (w : World) (h0 : 0 ≤ x) (h1 : x ≤ 4294967295) :
    Calls Try.prog 72 #[.int .u32 x] w fun e w' => e = .returned (.int .i64 (Lib.bitLen x.toNat)) ∧ w' = w := Any.bits_Len32 Try.lays128 x w h0 h1
def Try.lays125_ren : Go.Shelf.Ren := ⟨fun | 125 => 47 | 128 => 72 | 129 => 73 | n => n, fun | 46 => 81 | 3 => 3 | 51 => 116 | 53 => 101 | 4 => 4 | 5 => 5 | 9 => 9 | n => n, fun | n => n⟩
theorem Try.lays125 : Go.Proofs.Lays.n125 Try.prog Try.lays125_ren := {
  mixed := by kernel_rfl
  f125 := Try.func47.trans (congrArg some (by kernel_rfl))
  f128 := Try.func72.trans (congrArg some (by kernel_rfl))
  f129 := Try.func73.trans (congrArg some (by kernel_rfl))
  t3 := Try.underlying3
  a3 := Try.isAgg3
  z3 := Try.sizeOf3
  v3 := Try.zeroValue3
  t4 := Try.underlying4
  a4 := Try.isAgg4
  z4 := Try.sizeOf4
  v4 := Try.zeroValue4
  t5 := Try.underlying5
  a5 := Try.isAgg5
  z5 := Try.sizeOf5
  v5 := Try.zeroValue5
  t9 := Try.underlying9
  a9 := Try.isAgg9
  z9 := Try.sizeOf9
  v9 := Try.zeroValue9
  t46 := Try.underlying81
  a46 := Try.isAgg81
  z46 := Try.sizeOf81
  v46 := Try.zeroValue81
  t51 := Try.underlying116
  a51 := Try.isAgg116
  z51 := Try.sizeOf116
  v51 := Try.zeroValue116
  t53 := Try.underlying101
  a53 := Try.isAgg101
  z53 := Try.sizeOf101
  v53 := Try.zeroValue101 }
/-- bits.Len: "Len returns the minimum number of bits required to represent x; the result is 0 for x == 0.": IT RETURNS 'Lib.bitLen x'; the world is as it was. (A uint has 64 bits in the model.) ITS CALLEE bits.Len64 IS MET BY ITS OWN CONTRACT OFF THE SHELF (lay that first). (LAID: no walk: one application.) -/
theorem Try.bits_Len (x : Int) (w : World) (h0 : 0 ≤ x) (h1 : x ≤ 18446744073709551615) :
    Calls Try.prog 47 #[.int .u64 x] w fun e w' => e = .returned (.int .i64 (Lib.bitLen x.toNat)) ∧ w' = w := Any.bits_Len Try.lays125 x w h0 h1
def Try.lays215_ren : Go.Shelf.Ren := ⟨fun | 215 => 32 | n => n, fun | 3 => 3 | 4 => 4 | n => n, fun | n => n⟩
theorem Try.lays215 : Go.Proofs.Lays.n215 Try.prog Try.lays215_ren := {
  mixed := by kernel_rfl
  f215 := Try.func32.trans (congrArg some (by kernel_rfl))
  t3 := Try.underlying3
  a3 := Try.isAgg3
  z3 := Try.sizeOf3
  v3 := Try.zeroValue3
  t4 := Try.underlying4
  a4 := Try.isAgg4
  z4 := Try.sizeOf4
  v4 := Try.zeroValue4 }
open Go.RowKit in
/-- cmp.isNaN at int: 'x != x': false. (LAID: no walk: one application.) -/
theorem Try.cmp_isNaN_int (x : Int) (w : World) :
    Calls Try.prog 32 #[.int .i64 x] w fun e w' => e = .returned (.bool false) ∧ w' = w := Any.cmp_isNaN_int Try.lays215 x w
def Try.lays122_ren : Go.Shelf.Ren := ⟨fun | 122 => 16 | 215 => 32 | n => n, fun | 3 => 3 | 4 => 4 | n => n, fun | n => n⟩
theorem Try.lays122 : Go.Proofs.Lays.n122 Try.prog Try.lays122_ren := {
  mixed := by kernel_rfl
  f122 := Try.func16.trans (congrArg some (by kernel_rfl))
  f215 := Try.func32.trans (congrArg some (by kernel_rfl))
  t3 := Try.underlying3
  a3 := Try.isAgg3
  z3 := Try.sizeOf3
  v3 := Try.zeroValue3
  t4 := Try.underlying4
  a4 := Try.isAgg4
  z4 := Try.sizeOf4
  v4 := Try.zeroValue4 }
open Go.RowKit in
/-- cmp.Compare at int: "Compare returns -1 if x is less than y, 0 if x equals y, +1 if x is greater than y.": IT RETURNS 'Lib.compareInt x y'; the world is as it was. (LAID: no walk: one application.) -/
theorem Try.cmp_Compare_int (x y : Int) (w : World) :
    Calls Try.prog 16 #[.int .i64 x, .int .i64 y] w fun e w' => e = .returned (.int .i64 (Lib.compareInt x y)) ∧ w' = w := Any.cmp_Compare_int Try.lays122 x y w
def Try.lays129_ren : Go.Shelf.Ren := ⟨fun | 129 => 73 | n => n, fun | 53 => 101 | 3 => 3 | 4 => 4 | 46 => 81 | 5 => 5 | 9 => 9 | n => n, fun | n => n⟩
theorem Try.lays129 : Go.Proofs.Lays.n129 Try.prog Try.lays129_ren := {
  mixed := by kernel_rfl
  f129 := Try.func73.trans (congrArg some (by kernel_rfl))
  t3 := Try.underlying3
  a3 := Try.isAgg3
  z3 := Try.sizeOf3
  v3 := Try.zeroValue3
  t4 := Try.underlying4
  a4 := Try.isAgg4
  z4 := Try.sizeOf4
  v4 := Try.zeroValue4
  t5 := Try.underlying5
  a5 := Try.isAgg5
  z5 := Try.sizeOf5
  v5 := Try.zeroValue5
  t9 := Try.underlying9
  a9 := Try.isAgg9
  z9 := Try.sizeOf9
  v9 := Try.zeroValue9
  t46 := Try.underlying81
  a46 := Try.isAgg81
  z46 := Try.sizeOf81
  v46 := Try.zeroValue81
  t53 := Try.underlying101
  a53 := Try.isAgg101
  z53 := Try.sizeOf101
  v53 := Try.zeroValue101 }
/-- bits.Len64: "Len64 returns the minimum number of bits required to represent x; the result is 0 for x == 0.": IT RETURNS 'Lib.bitLen x'; the world is as it was. ('h0', 'h1': x is a uint64.) (LAID: no walk: one application.) -/
theorem Try.bits_Len64 (x : Int) (w : World) (h0 : 0 ≤ x) (h1 : x ≤ 18446744073709551615) :
    Calls Try.prog 73 #[.int .u64 x] w fun e w' => e = .returned (.int .i64 (Lib.bitLen x.toNat)) ∧ w' = w := Any.bits_Len64 Try.lays129 x w h0 h1
def Try.lays189_ren : Go.Shelf.Ren := ⟨fun | 189 => 38 | 125 => 47 | 257 => 52 | 128 => 72 | 129 => 73 | 294 => 82 | 295 => 83 | 296 => 84 | 297 => 85 | 298 => 86 | 299 => 87 | 216 => 88 | 300 => 89 | 301 => 90 | 328 => 110 | 329 => 102 | 330 => 103 | 331 => 111 | 332 => 112 | 215 => 32 | 343 => 121 | n => n, fun | 28 => 37 | 3 => 3 | 46 => 81 | 0 => 0 | 51 => 116 | 53 => 101 | 4 => 4 | 183 => 109 | 182 => 108 | 131 => 113 | 5 => 5 | 9 => 9 | 218 => 143 | 222 => 147 | 228 => 162 | 229 => 163 | n => n, fun | n => n⟩
theorem Try.lays189 : Go.Proofs.Lays.n189 Try.prog Try.lays189_ren := {
  mixed := by kernel_rfl
  f125 := Try.func47.trans (congrArg some (by kernel_rfl))
  f128 := Try.func72.trans (congrArg some (by kernel_rfl))
  f129 := Try.func73.trans (congrArg some (by kernel_rfl))
  f189 := Try.func38.trans (congrArg some (by kernel_rfl))
  f215 := Try.func32.trans (congrArg some (by kernel_rfl))
  f216 := Try.func88.trans (congrArg some (by kernel_rfl))
  f257 := Try.func52.trans (congrArg some (by kernel_rfl))
  f294 := Try.func82.trans (congrArg some (by kernel_rfl))
  f295 := Try.func83.trans (congrArg some (by kernel_rfl))
  f296 := Try.func84.trans (congrArg some (by kernel_rfl))
  f297 := Try.func85.trans (congrArg some (by kernel_rfl))
  f298 := Try.func86.trans (congrArg some (by kernel_rfl))
  f299 := Try.func87.trans (congrArg some (by kernel_rfl))
  f300 := Try.func89.trans (congrArg some (by kernel_rfl))
  f301 := Try.func90.trans (congrArg some (by kernel_rfl))
  f328 := Try.func110.trans (congrArg some (by kernel_rfl))
  f329 := Try.func102.trans (congrArg some (by kernel_rfl))
  f330 := Try.func103.trans (congrArg some (by kernel_rfl))
  f331 := Try.func111.trans (congrArg some (by kernel_rfl))
  f332 := Try.func112.trans (congrArg some (by kernel_rfl))
  f343 := Try.func121.trans (congrArg some (by kernel_rfl))
  t0 := Try.underlying0
  a0 := Try.isAgg0
  z0 := Try.sizeOf0
  v0 := Try.zeroValue0
  t3 := Try.underlying3
  a3 := Try.isAgg3
  z3 := Try.sizeOf3
  v3 := Try.zeroValue3
  t4 := Try.underlying4
  a4 := Try.isAgg4
  z4 := Try.sizeOf4
  v4 := Try.zeroValue4
  t5 := Try.underlying5
  a5 := Try.isAgg5
  z5 := Try.sizeOf5
  v5 := Try.zeroValue5
  t9 := Try.underlying9
  a9 := Try.isAgg9
  z9 := Try.sizeOf9
  v9 := Try.zeroValue9
  t28 := Try.underlying37
  a28 := Try.isAgg37
  z28 := Try.sizeOf37
  v28 := Try.zeroValue37
  t46 := Try.underlying81
  a46 := Try.isAgg81
  z46 := Try.sizeOf81
  v46 := Try.zeroValue81
  t51 := Try.underlying116
  a51 := Try.isAgg116
  z51 := Try.sizeOf116
  v51 := Try.zeroValue116
  t53 := Try.underlying101
  a53 := Try.isAgg101
  z53 := Try.sizeOf101
  v53 := Try.zeroValue101
  t131 := Try.underlying113
  a131 := Try.isAgg113
  z131 := Try.sizeOf113
  v131 := Try.zeroValue113
  t182 := Try.underlying108
  a182 := Try.isAgg108
  z182 := Try.sizeOf108
  v182 := Try.zeroValue108
  t183 := Try.underlying109
  a183 := Try.isAgg109
  z183 := Try.sizeOf109
  v183 := Try.zeroValue109
  t218 := Try.underlying143
  a218 := Try.isAgg143
  z218 := Try.sizeOf143
  v218 := Try.zeroValue143
  t222 := Try.underlying147
  a222 := Try.isAgg147
  z222 := Try.sizeOf147
  v222 := Try.zeroValue147
  t228 := Try.underlying162
  a228 := Try.isAgg162
  z228 := Try.sizeOf162
  v228 := Try.zeroValue162
  t229 := Try.underlying163
  a229 := Try.isAgg163
  z229 := Try.sizeOf163
  v229 := Try.zeroValue163 }
open Go.Sort Go.RowKit in
theorem Try.slices_Sort_int (blk off cap : Nat) (zs : List Int) (w : World) (hH : Holds (Value.int .i64) w blk off zs.toArray) (hblk : blk < w.heap.size) (hsz : zs.length < 4611686018427387904) :
    Calls Try.prog 38 #[.slice (some ⟨blk, off, none⟩) zs.length cap] w fun e w' =>
      e = .returned (.tuple #[]) ∧ ∃ n os, w' = grow (putRow (Value.int .i64) (Sort.ahead w n) blk off (zs.mergeSort fun x y => decide (x ≤ y)).toArray) os := Any.slices_Sort_int Try.lays189 blk off cap zs w hH hblk hsz
def Try.laysGt33_ren : Go.Shelf.Ren := ⟨fun | 33 => 91 | n => n, fun | 45 => 97 | 3 => 3 | 4 => 4 | 0 => 0 | 43 => 98 | 26 => 132 | 38 => 158 | n => n, fun | n => n⟩
theorem Try.laysGt33 : Go.Proofs.LaysGt.n33 Try.prog Try.laysGt33_ren := {
  mixed := by kernel_rfl
  f33 := Try.func91.trans (congrArg some (by kernel_rfl))
  t0 := Try.underlying0
  a0 := Try.isAgg0
  z0 := Try.sizeOf0
  v0 := Try.zeroValue0
  i0 := by kernel_rfl
  t3 := Try.underlying3
  a3 := Try.isAgg3
  z3 := Try.sizeOf3
  v3 := Try.zeroValue3
  i3 := by kernel_rfl
  t4 := Try.underlying4
  a4 := Try.isAgg4
  z4 := Try.sizeOf4
  v4 := Try.zeroValue4
  i4 := by kernel_rfl
  t26 := Try.underlying132
  a26 := Try.isAgg132
  z26 := Try.sizeOf132
  v26 := Try.zeroValue132
  i26 := by kernel_rfl
  t38 := Try.underlying158
  a38 := Try.isAgg158
  z38 := Try.sizeOf158
  v38 := Try.zeroValue158
  i38 := by kernel_rfl
  t43 := Try.underlying98
  a43 := Try.isAgg98
  z43 := Try.sizeOf98
  v43 := Try.zeroValue98
  i43 := by kernel_rfl
  t45 := Try.underlying97
  a45 := Try.isAgg97
  z45 := Try.sizeOf97
  v45 := Try.zeroValue97
  i45 := by kernel_rfl }
open Go.RowKit Go.Lib Go.Sort in
theorem Try.insertionSort_iface {α : Type} [Inhabited α] (T : TypeId) (rv : Value) (gl gs : Nat) (rL : Reaches Try.prog T rv "Less" gl) (rS : Reaches Try.prog T rv "Swap" gs) (enc : α → Value) (lt : α → α → Bool) (blk off a b : Nat) (d : Array α) (w : World) (hless : LessM Try.prog gl rv enc lt blk off d.size w) (hswap : SwapM Try.prog gs rv enc blk off d.size) (hH : Holds enc w blk off d) (hab : a ≤ b) (hb : b ≤ d.size) (hsz : d.size < 4611686018427387904) :
    Calls Try.prog 91 #[.iface T rv, .int .i64 a, .int .i64 b] w fun e w' =>
      e = .returned (.tuple #[]) ∧ ∃ n, w' = putRow enc (Sort.ahead w n) blk off (Sort.insertionSort lt d a b) := Any.insertionSort_iface Try.laysGt33 T rv gl gs rL rS enc lt blk off a b d w hless hswap hH hab hb hsz
open Go.RowKit Go.Lib Go.Sort in
/-- sort.insertionSort, from a world to a 'sortWorld' of it. (LAID: no walk: one application.) -/
theorem Try.insertionSort_iface_w {α : Type} [Inhabited α] (T : TypeId) (rv : Value) (gl gs : Nat) (rL : Reaches Try.prog T rv "Less" gl) (rS : Reaches Try.prog T rv "Swap" gs) (enc : α → Value) (lt : α → α → Bool) (blk off a b : Nat) (d : Array α) (w : World) (hless : LessM Try.prog gl rv enc lt blk off d.size w) (hswap : SwapM Try.prog gs rv enc blk off d.size) (hH : Holds enc w blk off d) (hab : a ≤ b) (hb : b ≤ d.size) (hsz : d.size < 4611686018427387904) :
    Calls Try.prog 91 #[.iface T rv, .int .i64 a, .int .i64 b] w fun e w' => e = .returned (.tuple #[]) ∧ ∃ n os, w' = sortWorld enc w blk off n (Sort.insertionSort lt d a b) os := Any.insertionSort_iface_w Try.laysGt33 T rv gl gs rL rS enc lt blk off a b d w hless hswap hH hab hb hsz
def Try.laysGt37_ren : Go.Shelf.Ren := ⟨fun | 37 => 95 | n => n, fun | 45 => 97 | 3 => 3 | 4 => 4 | 0 => 0 | 43 => 98 | 26 => 132 | 38 => 158 | n => n, fun | n => n⟩
theorem Try.laysGt37 : Go.Proofs.LaysGt.n37 Try.prog Try.laysGt37_ren := {
  mixed := by kernel_rfl
  f37 := Try.func95.trans (congrArg some (by kernel_rfl))
  t0 := Try.underlying0
  a0 := Try.isAgg0
  z0 := Try.sizeOf0
  v0 := Try.zeroValue0
  i0 := by kernel_rfl
  t3 := Try.underlying3
  a3 := Try.isAgg3
  z3 := Try.sizeOf3
  v3 := Try.zeroValue3
  i3 := by kernel_rfl
  t4 := Try.underlying4
  a4 := Try.isAgg4
  z4 := Try.sizeOf4
  v4 := Try.zeroValue4
  i4 := by kernel_rfl
  t26 := Try.underlying132
  a26 := Try.isAgg132
  z26 := Try.sizeOf132
  v26 := Try.zeroValue132
  i26 := by kernel_rfl
  t38 := Try.underlying158
  a38 := Try.isAgg158
  z38 := Try.sizeOf158
  v38 := Try.zeroValue158
  i38 := by kernel_rfl
  t43 := Try.underlying98
  a43 := Try.isAgg98
  z43 := Try.sizeOf98
  v43 := Try.zeroValue98
  i43 := by kernel_rfl
  t45 := Try.underlying97
  a45 := Try.isAgg97
  z45 := Try.sizeOf97
  v45 := Try.zeroValue97
  i45 := by kernel_rfl }
open Go.RowKit Go.Lib Go.Sort in
theorem Try.reverseRange_iface {α : Type} [Inhabited α] (T : TypeId) (rv : Value) (gs : Nat) (rS : Reaches Try.prog T rv "Swap" gs) (enc : α → Value) (blk off a b : Nat) (d : Array α) (w : World) (hswap : SwapM Try.prog gs rv enc blk off d.size) (hH : Holds enc w blk off d) (hab : a ≤ b) (hb : b ≤ d.size) (hsz : d.size < 4611686018427387904) :
    Calls Try.prog 95 #[.iface T rv, .int .i64 a, .int .i64 b] w fun e w' => e = .returned (.tuple #[]) ∧ ∃ n, w' = putRow enc (Sort.ahead w n) blk off (reverseRange d a b) := Any.reverseRange_iface Try.laysGt37 T rv gs rS enc blk off a b d w hswap hH hab hb hsz
open Go.RowKit Go.Lib Go.Sort in
theorem Try.reverseRange_iface_w {α : Type} [Inhabited α] (T : TypeId) (rv : Value) (gs : Nat) (rS : Reaches Try.prog T rv "Swap" gs) (enc : α → Value) (blk off a b : Nat) (d : Array α) (w : World) (hswap : SwapM Try.prog gs rv enc blk off d.size) (hH : Holds enc w blk off d) (hab : a ≤ b) (hb : b ≤ d.size) (hsz : d.size < 4611686018427387904) :
    Calls Try.prog 95 #[.iface T rv, .int .i64 a, .int .i64 b] w fun e w' => e = .returned (.tuple #[]) ∧ ∃ n os, w' = sortWorld enc w blk off n (reverseRange d a b) os := Any.reverseRange_iface_w Try.laysGt37 T rv gs rS enc blk off a b d w hswap hH hab hb hsz
def Try.laysGt50_ren : Go.Shelf.Ren := ⟨fun | 50 => 122 | n => n, fun | 45 => 97 | 3 => 3 | 71 => 147 | 4 => 4 | 0 => 0 | 43 => 98 | 26 => 132 | 38 => 158 | n => n, fun | n => n⟩
theorem Try.laysGt50 : Go.Proofs.LaysGt.n50 Try.prog Try.laysGt50_ren := {
  mixed := by kernel_rfl
  f50 := Try.func122.trans (congrArg some (by kernel_rfl))
  t0 := Try.underlying0
  a0 := Try.isAgg0
  z0 := Try.sizeOf0
  v0 := Try.zeroValue0
  i0 := by kernel_rfl
  t3 := Try.underlying3
  a3 := Try.isAgg3
  z3 := Try.sizeOf3
  v3 := Try.zeroValue3
  i3 := by kernel_rfl
  t4 := Try.underlying4
  a4 := Try.isAgg4
  z4 := Try.sizeOf4
  v4 := Try.zeroValue4
  i4 := by kernel_rfl
  t26 := Try.underlying132
  a26 := Try.isAgg132
  z26 := Try.sizeOf132
  v26 := Try.zeroValue132
  i26 := by kernel_rfl
  t38 := Try.underlying158
  a38 := Try.isAgg158
  z38 := Try.sizeOf158
  v38 := Try.zeroValue158
  i38 := by kernel_rfl
  t43 := Try.underlying98
  a43 := Try.isAgg98
  z43 := Try.sizeOf98
  v43 := Try.zeroValue98
  i43 := by kernel_rfl
  t45 := Try.underlying97
  a45 := Try.isAgg97
  z45 := Try.sizeOf97
  v45 := Try.zeroValue97
  i45 := by kernel_rfl
  t71 := Try.underlying147
  a71 := Try.isAgg147
  z71 := Try.sizeOf147
  v71 := Try.zeroValue147
  i71 := by kernel_rfl }
open Go.RowKit Go.Lib Go.Sort in
theorem Try.order2_iface {α : Type} [Inhabited α] (T : TypeId) (rv : Value) (gl : Nat) (rL : Reaches Try.prog T rv "Less" gl) (enc : α → Value) (lt : α → α → Bool) (blk off : Nat) (w0 W : World) (d : Array α) (a b cb co s : Nat) (hL : LessM Try.prog gl rv enc lt blk off d.size w0) (hW : SW enc w0 blk off d W) (ha : a < d.size) (hb : b < d.size) (hS : Holds (Value.int .i64) W cb co (one s)) (hs : s < 4611686018427387904) :
    Calls Try.prog 122 #[.iface T rv, .int .i64 a, .int .i64 b, .pointer (some ⟨cb, co, none⟩)] W fun e w' =>
      e = .returned (.tuple #[.int .i64 (order2 lt d a b s).1, .int .i64 (order2 lt d a b s).2.1]) ∧ ∃ n os, w' = sortWorld (Value.int .i64) W cb co n (one (order2 lt d a b s).2.2) os := Any.order2_iface Try.laysGt50 T rv gl rL enc lt blk off w0 W d a b cb co s hL hW ha hb hS hs
def Try.laysGt47_ren : Go.Shelf.Ren := ⟨fun | 47 => 117 | 50 => 122 | n => n, fun | 45 => 97 | 3 => 3 | 71 => 147 | 74 => 163 | 4 => 4 | 0 => 0 | 43 => 98 | 26 => 132 | 38 => 158 | n => n, fun | n => n⟩
theorem Try.laysGt47 : Go.Proofs.LaysGt.n47 Try.prog Try.laysGt47_ren := {
  mixed := by kernel_rfl
  f47 := Try.func117.trans (congrArg some (by kernel_rfl))
  f50 := Try.func122.trans (congrArg some (by kernel_rfl))
  t0 := Try.underlying0
  a0 := Try.isAgg0
  z0 := Try.sizeOf0
  v0 := Try.zeroValue0
  i0 := by kernel_rfl
  t3 := Try.underlying3
  a3 := Try.isAgg3
  z3 := Try.sizeOf3
  v3 := Try.zeroValue3
  i3 := by kernel_rfl
  t4 := Try.underlying4
  a4 := Try.isAgg4
  z4 := Try.sizeOf4
  v4 := Try.zeroValue4
  i4 := by kernel_rfl
  t26 := Try.underlying132
  a26 := Try.isAgg132
  z26 := Try.sizeOf132
  v26 := Try.zeroValue132
  i26 := by kernel_rfl
  t38 := Try.underlying158
  a38 := Try.isAgg158
  z38 := Try.sizeOf158
  v38 := Try.zeroValue158
  i38 := by kernel_rfl
  t43 := Try.underlying98
  a43 := Try.isAgg98
  z43 := Try.sizeOf98
  v43 := Try.zeroValue98
  i43 := by kernel_rfl
  t45 := Try.underlying97
  a45 := Try.isAgg97
  z45 := Try.sizeOf97
  v45 := Try.zeroValue97
  i45 := by kernel_rfl
  t71 := Try.underlying147
  a71 := Try.isAgg147
  z71 := Try.sizeOf147
  v71 := Try.zeroValue147
  i71 := by kernel_rfl
  t74 := Try.underlying163
  a74 := Try.isAgg163
  z74 := Try.sizeOf163
  v74 := Try.zeroValue163
  i74 := by kernel_rfl }
open Go.RowKit Go.Lib Go.Sort in
theorem Try.median_iface {α : Type} [Inhabited α] (T : TypeId) (rv : Value) (gl : Nat) (rL : Reaches Try.prog T rv "Less" gl) (enc : α → Value) (lt : α → α → Bool) (blk off : Nat) (w0 W : World) (d : Array α) (a b c cb co s : Nat) (hL : LessM Try.prog gl rv enc lt blk off d.size w0) (hW : SW enc w0 blk off d W) (ha : a < d.size) (hb : b < d.size) (hc : c < d.size) (hS : Holds (Value.int .i64) W cb co (one s)) (hcb0 : w0.heap.size ≤ cb) (hcb : cb < W.heap.size) (hs : s + 3 < 4611686018427387904) :
    Calls Try.prog 117 #[.iface T rv, .int .i64 a, .int .i64 b, .int .i64 c, .pointer (some ⟨cb, co, none⟩)] W fun e w' =>
      e = .returned (.int .i64 (median lt d a b c s).1) ∧ ∃ n os, w' = sortWorld (Value.int .i64) W cb co n (one (median lt d a b c s).2) os := Any.median_iface Try.laysGt47 T rv gl rL enc lt blk off w0 W d a b c cb co s hL hW ha hb hc hS hcb0 hcb hs
def Try.laysGt46_ren : Go.Shelf.Ren := ⟨fun | 46 => 116 | 47 => 117 | 50 => 122 | n => n, fun | 45 => 97 | 3 => 3 | 71 => 147 | 74 => 163 | 4 => 4 | 0 => 0 | 43 => 98 | 26 => 132 | 38 => 158 | n => n, fun | n => n⟩
theorem Try.laysGt46 : Go.Proofs.LaysGt.n46 Try.prog Try.laysGt46_ren := {
  mixed := by kernel_rfl
  f46 := Try.func116.trans (congrArg some (by kernel_rfl))
  f47 := Try.func117.trans (congrArg some (by kernel_rfl))
  f50 := Try.func122.trans (congrArg some (by kernel_rfl))
  t0 := Try.underlying0
  a0 := Try.isAgg0
  z0 := Try.sizeOf0
  v0 := Try.zeroValue0
  i0 := by kernel_rfl
  t3 := Try.underlying3
  a3 := Try.isAgg3
  z3 := Try.sizeOf3
  v3 := Try.zeroValue3
  i3 := by kernel_rfl
  t4 := Try.underlying4
  a4 := Try.isAgg4
  z4 := Try.sizeOf4
  v4 := Try.zeroValue4
  i4 := by kernel_rfl
  t26 := Try.underlying132
  a26 := Try.isAgg132
  z26 := Try.sizeOf132
  v26 := Try.zeroValue132
  i26 := by kernel_rfl
  t38 := Try.underlying158
  a38 := Try.isAgg158
  z38 := Try.sizeOf158
  v38 := Try.zeroValue158
  i38 := by kernel_rfl
  t43 := Try.underlying98
  a43 := Try.isAgg98
  z43 := Try.sizeOf98
  v43 := Try.zeroValue98
  i43 := by kernel_rfl
  t45 := Try.underlying97
  a45 := Try.isAgg97
  z45 := Try.sizeOf97
  v45 := Try.zeroValue97
  i45 := by kernel_rfl
  t71 := Try.underlying147
  a71 := Try.isAgg147
  z71 := Try.sizeOf147
  v71 := Try.zeroValue147
  i71 := by kernel_rfl
  t74 := Try.underlying163
  a74 := Try.isAgg163
  z74 := Try.sizeOf163
  v74 := Try.zeroValue163
  i74 := by kernel_rfl }
open Go.RowKit Go.Lib Go.Sort in
theorem Try.medianAdjacent_iface {α : Type} [Inhabited α] (T : TypeId) (rv : Value) (gl : Nat) (rL : Reaches Try.prog T rv "Less" gl) (enc : α → Value) (lt : α → α → Bool) (blk off : Nat) (w0 W : World) (d : Array α) (a cb co s : Nat) (hL : LessM Try.prog gl rv enc lt blk off d.size w0) (hW : SW enc w0 blk off d W) (ha1 : 1 ≤ a) (ha2 : a + 1 < d.size) (hsz : d.size < 4611686018427387904) (hS : Holds (Value.int .i64) W cb co (one s)) (hcb0 : w0.heap.size ≤ cb) (hcb : cb < W.heap.size) (hs : s + 3 < 4611686018427387904) :
    Calls Try.prog 116 #[.iface T rv, .int .i64 a, .pointer (some ⟨cb, co, none⟩)] W fun e w' =>
      e = .returned (.int .i64 (medianAdjacent lt d a s).1) ∧ ∃ n os, w' = sortWorld (Value.int .i64) W cb co n (one (medianAdjacent lt d a s).2) os := Any.medianAdjacent_iface Try.laysGt46 T rv gl rL enc lt blk off w0 W d a cb co s hL hW ha1 ha2 hsz hS hcb0 hcb hs
def Try.laysGt36_ren : Go.Shelf.Ren := ⟨fun | 36 => 94 | 46 => 116 | 47 => 117 | 50 => 122 | n => n, fun | 45 => 97 | 3 => 3 | 60 => 136 | 0 => 0 | 4 => 4 | 71 => 147 | 74 => 163 | 43 => 98 | 26 => 132 | 38 => 158 | n => n, fun | n => n⟩
theorem Try.laysGt36 : Go.Proofs.LaysGt.n36 Try.prog Try.laysGt36_ren := {
  mixed := by kernel_rfl
  f36 := Try.func94.trans (congrArg some (by kernel_rfl))
  f46 := Try.func116.trans (congrArg some (by kernel_rfl))
  f47 := Try.func117.trans (congrArg some (by kernel_rfl))
  f50 := Try.func122.trans (congrArg some (by kernel_rfl))
  t0 := Try.underlying0
  a0 := Try.isAgg0
  z0 := Try.sizeOf0
  v0 := Try.zeroValue0
  i0 := by kernel_rfl
  t3 := Try.underlying3
  a3 := Try.isAgg3
  z3 := Try.sizeOf3
  v3 := Try.zeroValue3
  i3 := by kernel_rfl
  t4 := Try.underlying4
  a4 := Try.isAgg4
  z4 := Try.sizeOf4
  v4 := Try.zeroValue4
  i4 := by kernel_rfl
  t26 := Try.underlying132
  a26 := Try.isAgg132
  z26 := Try.sizeOf132
  v26 := Try.zeroValue132
  i26 := by kernel_rfl
  t38 := Try.underlying158
  a38 := Try.isAgg158
  z38 := Try.sizeOf158
  v38 := Try.zeroValue158
  i38 := by kernel_rfl
  t43 := Try.underlying98
  a43 := Try.isAgg98
  z43 := Try.sizeOf98
  v43 := Try.zeroValue98
  i43 := by kernel_rfl
  t45 := Try.underlying97
  a45 := Try.isAgg97
  z45 := Try.sizeOf97
  v45 := Try.zeroValue97
  i45 := by kernel_rfl
  t60 := Try.underlying136
  a60 := Try.isAgg136
  z60 := Try.sizeOf136
  v60 := Try.zeroValue136
  i60 := by kernel_rfl
  t71 := Try.underlying147
  a71 := Try.isAgg147
  z71 := Try.sizeOf147
  v71 := Try.zeroValue147
  i71 := by kernel_rfl
  t74 := Try.underlying163
  a74 := Try.isAgg163
  z74 := Try.sizeOf163
  v74 := Try.zeroValue163
  i74 := by kernel_rfl }
open Go.RowKit Go.Lib Go.Sort in
/-- sort.choosePivot (zsortinterface.go): THE LIBRARY's OWN TEXT COMPUTES 'Sort.choosePivot lt d a b'; the row is not turned; W is grown. (Derived/Shelf/GgSortFunc/Pivot.lean's text, turned by program.) (LAID: no walk: one application.) -/
theorem Try.choosePivot_iface {α : Type} [Inhabited α] (T : TypeId) (rv : Value) (gl : Nat) (rL : Reaches Try.prog T rv "Less" gl) (enc : α → Value) (lt : α → α → Bool) (blk off a b : Nat) (W : World) (d : Array α) (hless : LessM Try.prog gl rv enc lt blk off d.size W) (hH : Holds enc W blk off d) (hab : a < b) (hb : b ≤ d.size) (hsz : d.size < 4611686018427387904) :
    Calls Try.prog 94 #[.iface T rv, .int .i64 a, .int .i64 b] W fun e w' =>
      e = .returned (.tuple #[.int .i64 (choosePivot lt d a b).1, .int .i64 (hintCode (choosePivot lt d a b).2)]) ∧ ∃ n os, w' = grow (Sort.ahead W n) os := Any.choosePivot_iface Try.laysGt36 T rv gl rL enc lt blk off a b W d hless hH hab hb hsz
def Try.laysGt39_ren : Go.Shelf.Ren := ⟨fun | 39 => 97 | n => n, fun | 45 => 97 | 3 => 3 | 0 => 0 | 4 => 4 | 43 => 98 | 26 => 132 | 38 => 158 | n => n, fun | n => n⟩
theorem Try.laysGt39 : Go.Proofs.LaysGt.n39 Try.prog Try.laysGt39_ren := {
  mixed := by kernel_rfl
  f39 := Try.func97.trans (congrArg some (by kernel_rfl))
  t0 := Try.underlying0
  a0 := Try.isAgg0
  z0 := Try.sizeOf0
  v0 := Try.zeroValue0
  i0 := by kernel_rfl
  t3 := Try.underlying3
  a3 := Try.isAgg3
  z3 := Try.sizeOf3
  v3 := Try.zeroValue3
  i3 := by kernel_rfl
  t4 := Try.underlying4
  a4 := Try.isAgg4
  z4 := Try.sizeOf4
  v4 := Try.zeroValue4
  i4 := by kernel_rfl
  t26 := Try.underlying132
  a26 := Try.isAgg132
  z26 := Try.sizeOf132
  v26 := Try.zeroValue132
  i26 := by kernel_rfl
  t38 := Try.underlying158
  a38 := Try.isAgg158
  z38 := Try.sizeOf158
  v38 := Try.zeroValue158
  i38 := by kernel_rfl
  t43 := Try.underlying98
  a43 := Try.isAgg98
  z43 := Try.sizeOf98
  v43 := Try.zeroValue98
  i43 := by kernel_rfl
  t45 := Try.underlying97
  a45 := Try.isAgg97
  z45 := Try.sizeOf97
  v45 := Try.zeroValue97
  i45 := by kernel_rfl }
open Go.RowKit Go.Lib Go.Sort in
theorem Try.partitionEqual_iface {α : Type} [Inhabited α] (T : TypeId) (rv : Value) (gl gs : Nat) (rL : Reaches Try.prog T rv "Less" gl) (rS : Reaches Try.prog T rv "Swap" gs) (enc : α → Value) (lt : α → α → Bool) (blk off a b pivot : Nat) (d : Array α) (W : World) (hless : LessM Try.prog gl rv enc lt blk off d.size W) (hswap : SwapM Try.prog gs rv enc blk off d.size) (hH : Holds enc W blk off d) (hap : a ≤ pivot) (hpb : pivot < b) (hb : b ≤ d.size) (hsz : d.size < 4611686018427387904) :
    Calls Try.prog 97 #[.iface T rv, .int .i64 a, .int .i64 b, .int .i64 pivot] W fun e w' =>
      e = .returned (.int .i64 (Sort.partitionEqual lt d a b pivot).1) ∧ ∃ n, w' = (putRow enc W blk off (Sort.partitionEqual lt d a b pivot).2).drewN n := Any.partitionEqual_iface Try.laysGt39 T rv gl gs rL rS enc lt blk off a b pivot d W hless hswap hH hap hpb hb hsz
def Try.laysGt40_ren : Go.Shelf.Ren := ⟨fun | 40 => 98 | n => n, fun | 45 => 97 | 3 => 3 | 4 => 4 | 0 => 0 | 43 => 98 | 26 => 132 | 38 => 158 | n => n, fun | n => n⟩
theorem Try.laysGt40 : Go.Proofs.LaysGt.n40 Try.prog Try.laysGt40_ren := {
  mixed := by kernel_rfl
  f40 := Try.func98.trans (congrArg some (by kernel_rfl))
  t0 := Try.underlying0
  a0 := Try.isAgg0
  z0 := Try.sizeOf0
  v0 := Try.zeroValue0
  i0 := by kernel_rfl
  t3 := Try.underlying3
  a3 := Try.isAgg3
  z3 := Try.sizeOf3
  v3 := Try.zeroValue3
  i3 := by kernel_rfl
  t4 := Try.underlying4
  a4 := Try.isAgg4
  z4 := Try.sizeOf4
  v4 := Try.zeroValue4
  i4 := by kernel_rfl
  t26 := Try.underlying132
  a26 := Try.isAgg132
  z26 := Try.sizeOf132
  v26 := Try.zeroValue132
  i26 := by kernel_rfl
  t38 := Try.underlying158
  a38 := Try.isAgg158
  z38 := Try.sizeOf158
  v38 := Try.zeroValue158
  i38 := by kernel_rfl
  t43 := Try.underlying98
  a43 := Try.isAgg98
  z43 := Try.sizeOf98
  v43 := Try.zeroValue98
  i43 := by kernel_rfl
  t45 := Try.underlying97
  a45 := Try.isAgg97
  z45 := Try.sizeOf97
  v45 := Try.zeroValue97
  i45 := by kernel_rfl }
open Go.RowKit Go.Lib Go.Sort in
theorem Try.partition_iface {α : Type} [Inhabited α] (T : TypeId) (rv : Value) (gl gs : Nat) (rL : Reaches Try.prog T rv "Less" gl) (rS : Reaches Try.prog T rv "Swap" gs) (enc : α → Value) (lt : α → α → Bool) (blk off a b pivot : Nat) (d : Array α) (W : World) (hless : LessM Try.prog gl rv enc lt blk off d.size W) (hswap : SwapM Try.prog gs rv enc blk off d.size) (hH : Holds enc W blk off d) (hap : a ≤ pivot) (hpb : pivot < b) (hb : b ≤ d.size) (hsz : d.size < 4611686018427387904) :
    Calls Try.prog 98 #[.iface T rv, .int .i64 a, .int .i64 b, .int .i64 pivot] W fun e w' =>
      e = .returned (.tuple #[.int .i64 (Sort.partition lt d a b pivot).1, .bool (Sort.partition lt d a b pivot).2.1]) ∧ ∃ n, w' = (putRow enc W blk off (Sort.partition lt d a b pivot).2.2).drewN n := Any.partition_iface Try.laysGt40 T rv gl gs rL rS enc lt blk off a b pivot d W hless hswap hH hap hpb hb hsz
open Go.RowKit Go.Lib Go.Sort in
theorem Try.partitionEqual_iface_w {α : Type} [Inhabited α] (T : TypeId) (rv : Value) (gl gs : Nat) (rL : Reaches Try.prog T rv "Less" gl) (rS : Reaches Try.prog T rv "Swap" gs) (enc : α → Value) (lt : α → α → Bool) (blk off a b pivot : Nat) (d : Array α) (W : World) (hless : LessM Try.prog gl rv enc lt blk off d.size W) (hswap : SwapM Try.prog gs rv enc blk off d.size) (hH : Holds enc W blk off d) (hap : a ≤ pivot) (hpb : pivot < b) (hb : b ≤ d.size) (hsz : d.size < 4611686018427387904) :
    Calls Try.prog 97 #[.iface T rv, .int .i64 a, .int .i64 b, .int .i64 pivot] W fun e w' => e = .returned (.int .i64 (Sort.partitionEqual lt d a b pivot).1) ∧ ∃ n os, w' = sortWorld enc W blk off n (Sort.partitionEqual lt d a b pivot).2 os := Any.partitionEqual_iface_w Try.laysGt39 T rv gl gs rL rS enc lt blk off a b pivot d W hless hswap hH hap hpb hb hsz
open Go.RowKit Go.Lib Go.Sort in
theorem Try.partition_iface_w {α : Type} [Inhabited α] (T : TypeId) (rv : Value) (gl gs : Nat) (rL : Reaches Try.prog T rv "Less" gl) (rS : Reaches Try.prog T rv "Swap" gs) (enc : α → Value) (lt : α → α → Bool) (blk off a b pivot : Nat) (d : Array α) (W : World) (hless : LessM Try.prog gl rv enc lt blk off d.size W) (hswap : SwapM Try.prog gs rv enc blk off d.size) (hH : Holds enc W blk off d) (hap : a ≤ pivot) (hpb : pivot < b) (hb : b ≤ d.size) (hsz : d.size < 4611686018427387904) :
    Calls Try.prog 98 #[.iface T rv, .int .i64 a, .int .i64 b, .int .i64 pivot] W fun e w' => e = .returned (.tuple #[.int .i64 (Sort.partition lt d a b pivot).1, .bool (Sort.partition lt d a b pivot).2.1]) ∧ ∃ n os, w' = sortWorld enc W blk off n (Sort.partition lt d a b pivot).2.2 os := Any.partition_iface_w Try.laysGt40 T rv gl gs rL rS enc lt blk off a b pivot d W hless hswap hH hap hpb hb hsz
def Try.laysGt18_ren : Go.Shelf.Ren := ⟨fun | 18 => 55 | 33 => 91 | 34 => 92 | 35 => 93 | 36 => 94 | 37 => 95 | 38 => 96 | 39 => 97 | 40 => 98 | 43 => 113 | 44 => 114 | 45 => 115 | 46 => 116 | 47 => 117 | 17 => 47 | 50 => 122 | 31 => 72 | 32 => 73 | n => n, fun | 45 => 97 | 3 => 3 | 4 => 4 | 0 => 0 | 61 => 137 | 60 => 136 | 65 => 113 | 67 => 159 | 47 => 81 | 58 => 101 | 71 => 147 | 73 => 170 | 74 => 163 | 56 => 116 | 5 => 5 | 9 => 9 | 43 => 98 | 26 => 132 | 38 => 158 | n => n, fun | n => n⟩
theorem Try.laysGt18 : Go.Proofs.LaysGt.n18 Try.prog Try.laysGt18_ren := {
  mixed := by kernel_rfl
  f17 := Try.func47.trans (congrArg some (by kernel_rfl))
  f18 := Try.func55.trans (congrArg some (by kernel_rfl))
  f31 := Try.func72.trans (congrArg some (by kernel_rfl))
  f32 := Try.func73.trans (congrArg some (by kernel_rfl))
  f33 := Try.func91.trans (congrArg some (by kernel_rfl))
  f34 := Try.func92.trans (congrArg some (by kernel_rfl))
  f35 := Try.func93.trans (congrArg some (by kernel_rfl))
  f36 := Try.func94.trans (congrArg some (by kernel_rfl))
  f37 := Try.func95.trans (congrArg some (by kernel_rfl))
  f38 := Try.func96.trans (congrArg some (by kernel_rfl))
  f39 := Try.func97.trans (congrArg some (by kernel_rfl))
  f40 := Try.func98.trans (congrArg some (by kernel_rfl))
  f43 := Try.func113.trans (congrArg some (by kernel_rfl))
  f44 := Try.func114.trans (congrArg some (by kernel_rfl))
  f45 := Try.func115.trans (congrArg some (by kernel_rfl))
  f46 := Try.func116.trans (congrArg some (by kernel_rfl))
  f47 := Try.func117.trans (congrArg some (by kernel_rfl))
  f50 := Try.func122.trans (congrArg some (by kernel_rfl))
  t0 := Try.underlying0
  a0 := Try.isAgg0
  z0 := Try.sizeOf0
  v0 := Try.zeroValue0
  i0 := by kernel_rfl
  t3 := Try.underlying3
  a3 := Try.isAgg3
  z3 := Try.sizeOf3
  v3 := Try.zeroValue3
  i3 := by kernel_rfl
  t4 := Try.underlying4
  a4 := Try.isAgg4
  z4 := Try.sizeOf4
  v4 := Try.zeroValue4
  i4 := by kernel_rfl
  t5 := Try.underlying5
  a5 := Try.isAgg5
  z5 := Try.sizeOf5
  v5 := Try.zeroValue5
  i5 := by kernel_rfl
  t9 := Try.underlying9
  a9 := Try.isAgg9
  z9 := Try.sizeOf9
  v9 := Try.zeroValue9
  i9 := by kernel_rfl
  t26 := Try.underlying132
  a26 := Try.isAgg132
  z26 := Try.sizeOf132
  v26 := Try.zeroValue132
  i26 := by kernel_rfl
  t38 := Try.underlying158
  a38 := Try.isAgg158
  z38 := Try.sizeOf158
  v38 := Try.zeroValue158
  i38 := by kernel_rfl
  t43 := Try.underlying98
  a43 := Try.isAgg98
  z43 := Try.sizeOf98
  v43 := Try.zeroValue98
  i43 := by kernel_rfl
  t45 := Try.underlying97
  a45 := Try.isAgg97
  z45 := Try.sizeOf97
  v45 := Try.zeroValue97
  i45 := by kernel_rfl
  t47 := Try.underlying81
  a47 := Try.isAgg81
  z47 := Try.sizeOf81
  v47 := Try.zeroValue81
  i47 := by kernel_rfl
  t56 := Try.underlying116
  a56 := Try.isAgg116
  z56 := Try.sizeOf116
  v56 := Try.zeroValue116
  i56 := by kernel_rfl
  t58 := Try.underlying101
  a58 := Try.isAgg101
  z58 := Try.sizeOf101
  v58 := Try.zeroValue101
  i58 := by kernel_rfl
  t60 := Try.underlying136
  a60 := Try.isAgg136
  z60 := Try.sizeOf136
  v60 := Try.zeroValue136
  i60 := by kernel_rfl
  t61 := Try.underlying137
  a61 := Try.isAgg137
  z61 := Try.sizeOf137
  v61 := Try.zeroValue137
  i61 := by kernel_rfl
  t65 := Try.underlying113
  a65 := Try.isAgg113
  z65 := Try.sizeOf113
  v65 := Try.zeroValue113
  i65 := by kernel_rfl
  t67 := Try.underlying159
  a67 := Try.isAgg159
  z67 := Try.sizeOf159
  v67 := Try.zeroValue159
  i67 := by kernel_rfl
  t71 := Try.underlying147
  a71 := Try.isAgg147
  z71 := Try.sizeOf147
  v71 := Try.zeroValue147
  i71 := by kernel_rfl
  t73 := Try.underlying170
  a73 := Try.isAgg170
  z73 := Try.sizeOf170
  v73 := Try.zeroValue170
  i73 := by kernel_rfl
  t74 := Try.underlying163
  a74 := Try.isAgg163
  z74 := Try.sizeOf163
  v74 := Try.zeroValue163
  i74 := by kernel_rfl }
open Go.RowKit Go.Lib Go.Sort in
theorem Try.pdqsort_iface {α : Type} [Inhabited α] (T : TypeId) (rv : Value) (gl gs : Nat) (rL : Reaches Try.prog T rv "Less" gl) (rS : Reaches Try.prog T rv "Swap" gs) (enc : α → Value) (lt : α → α → Bool) (hO : SWO lt) (C : IfaceThree Try.prog Try.laysGt18_ren T rv gl gs enc lt) :
    ∀ (N blk off a b limit : Nat) (d : Array α) (w : World), b - a < N → LessM Try.prog gl rv enc lt blk off d.size w → SwapM Try.prog gs rv enc blk off d.size → Holds enc w blk off d → blk < w.heap.size → a ≤ b → b ≤ d.size → d.size < 4611686018427387904 → limit < 4611686018427387904 → Below lt a b d →
    Calls Try.prog 55 #[.iface T rv, .int .i64 a, .int .i64 b, .int .i64 limit] w fun e w' => e = .returned (.tuple #[]) ∧ At enc w blk off (pdq lt d a b limit true true) w' := Any.pdqsort_iface Try.laysGt18 T rv gl gs rL rS enc lt hO C
def Try.laysGt11_ren : Go.Shelf.Ren := ⟨fun | 11 => 41 | 17 => 47 | 18 => 55 | 31 => 72 | 32 => 73 | 33 => 91 | 34 => 92 | 35 => 93 | 36 => 94 | 37 => 95 | 38 => 96 | 39 => 97 | 40 => 98 | 43 => 113 | 44 => 114 | 45 => 115 | 46 => 116 | 47 => 117 | 50 => 122 | n => n, fun | 45 => 97 | 3 => 3 | 4 => 4 | 47 => 81 | 0 => 0 | 56 => 116 | 58 => 101 | 61 => 137 | 60 => 136 | 65 => 113 | 5 => 5 | 9 => 9 | 67 => 159 | 71 => 147 | 73 => 170 | 74 => 163 | 43 => 98 | 26 => 132 | 38 => 158 | n => n, fun | n => n⟩
theorem Try.laysGt11 : Go.Proofs.LaysGt.n11 Try.prog Try.laysGt11_ren := {
  mixed := by kernel_rfl
  f11 := Try.func41.trans (congrArg some (by kernel_rfl))
  f17 := Try.func47.trans (congrArg some (by kernel_rfl))
  f18 := Try.func55.trans (congrArg some (by kernel_rfl))
  f31 := Try.func72.trans (congrArg some (by kernel_rfl))
  f32 := Try.func73.trans (congrArg some (by kernel_rfl))
  f33 := Try.func91.trans (congrArg some (by kernel_rfl))
  f34 := Try.func92.trans (congrArg some (by kernel_rfl))
  f35 := Try.func93.trans (congrArg some (by kernel_rfl))
  f36 := Try.func94.trans (congrArg some (by kernel_rfl))
  f37 := Try.func95.trans (congrArg some (by kernel_rfl))
  f38 := Try.func96.trans (congrArg some (by kernel_rfl))
  f39 := Try.func97.trans (congrArg some (by kernel_rfl))
  f40 := Try.func98.trans (congrArg some (by kernel_rfl))
  f43 := Try.func113.trans (congrArg some (by kernel_rfl))
  f44 := Try.func114.trans (congrArg some (by kernel_rfl))
  f45 := Try.func115.trans (congrArg some (by kernel_rfl))
  f46 := Try.func116.trans (congrArg some (by kernel_rfl))
  f47 := Try.func117.trans (congrArg some (by kernel_rfl))
  f50 := Try.func122.trans (congrArg some (by kernel_rfl))
  t0 := Try.underlying0
  a0 := Try.isAgg0
  z0 := Try.sizeOf0
  v0 := Try.zeroValue0
  i0 := by kernel_rfl
  t3 := Try.underlying3
  a3 := Try.isAgg3
  z3 := Try.sizeOf3
  v3 := Try.zeroValue3
  i3 := by kernel_rfl
  t4 := Try.underlying4
  a4 := Try.isAgg4
  z4 := Try.sizeOf4
  v4 := Try.zeroValue4
  i4 := by kernel_rfl
  t5 := Try.underlying5
  a5 := Try.isAgg5
  z5 := Try.sizeOf5
  v5 := Try.zeroValue5
  i5 := by kernel_rfl
  t9 := Try.underlying9
  a9 := Try.isAgg9
  z9 := Try.sizeOf9
  v9 := Try.zeroValue9
  i9 := by kernel_rfl
  t26 := Try.underlying132
  a26 := Try.isAgg132
  z26 := Try.sizeOf132
  v26 := Try.zeroValue132
  i26 := by kernel_rfl
  t38 := Try.underlying158
  a38 := Try.isAgg158
  z38 := Try.sizeOf158
  v38 := Try.zeroValue158
  i38 := by kernel_rfl
  t43 := Try.underlying98
  a43 := Try.isAgg98
  z43 := Try.sizeOf98
  v43 := Try.zeroValue98
  i43 := by kernel_rfl
  t45 := Try.underlying97
  a45 := Try.isAgg97
  z45 := Try.sizeOf97
  v45 := Try.zeroValue97
  i45 := by kernel_rfl
  t47 := Try.underlying81
  a47 := Try.isAgg81
  z47 := Try.sizeOf81
  v47 := Try.zeroValue81
  i47 := by kernel_rfl
  t56 := Try.underlying116
  a56 := Try.isAgg116
  z56 := Try.sizeOf116
  v56 := Try.zeroValue116
  i56 := by kernel_rfl
  t58 := Try.underlying101
  a58 := Try.isAgg101
  z58 := Try.sizeOf101
  v58 := Try.zeroValue101
  i58 := by kernel_rfl
  t60 := Try.underlying136
  a60 := Try.isAgg136
  z60 := Try.sizeOf136
  v60 := Try.zeroValue136
  i60 := by kernel_rfl
  t61 := Try.underlying137
  a61 := Try.isAgg137
  z61 := Try.sizeOf137
  v61 := Try.zeroValue137
  i61 := by kernel_rfl
  t65 := Try.underlying113
  a65 := Try.isAgg113
  z65 := Try.sizeOf113
  v65 := Try.zeroValue113
  i65 := by kernel_rfl
  t67 := Try.underlying159
  a67 := Try.isAgg159
  z67 := Try.sizeOf159
  v67 := Try.zeroValue159
  i67 := by kernel_rfl
  t71 := Try.underlying147
  a71 := Try.isAgg147
  z71 := Try.sizeOf147
  v71 := Try.zeroValue147
  i71 := by kernel_rfl
  t73 := Try.underlying170
  a73 := Try.isAgg170
  z73 := Try.sizeOf170
  v73 := Try.zeroValue170
  i73 := by kernel_rfl
  t74 := Try.underlying163
  a74 := Try.isAgg163
  z74 := Try.sizeOf163
  v74 := Try.zeroValue163
  i74 := by kernel_rfl }
open Go.RowKit Go.Lib Go.Sort in
theorem Try.sort_Sort_tiny {α : Type} [Inhabited α] (T : TypeId) (rv : Value) (gn : Nat) (rN : Reaches Try.prog T rv "Len" gn) (n : Nat) (hn : n ≤ 1) (w : World) (hlen : LenM Try.prog gn rv n w) :
    Calls Try.prog 41 #[.iface T rv] w fun e w' => e = .returned (.tuple #[]) ∧ ∃ q, w' = w.drewN q := Any.sort_Sort_tiny Try.laysGt11 T rv gn rN n hn w hlen
open Go.RowKit Go.Lib Go.Sort in
/-- **sort.Sort: WHAT THE ROW HOLDS, TO THE ELEMENT.** (LAID: no walk: one application.) -/
theorem Try.sort_Sort_eq {α : Type} [Inhabited α] (T : TypeId) (rv : Value) (gn gl gs : Nat) (rN : Reaches Try.prog T rv "Len" gn) (rL : Reaches Try.prog T rv "Less" gl) (rS : Reaches Try.prog T rv "Swap" gs) (enc : α → Value) (lt : α → α → Bool) (hO : SWO lt) (blk off : Nat) (d : Array α) (h2 : 2 ≤ d.size) (hsz : d.size < 4611686018427387904) (w : World) (hlen : LenM Try.prog gn rv d.size w) (hless : LessM Try.prog gl rv enc lt blk off d.size w) (hswap : SwapM Try.prog gs rv enc blk off d.size) (hH : Holds enc w blk off d) (hblk : blk < w.heap.size) :
    Calls Try.prog 41 #[.iface T rv] w fun e w' => e = .returned (.tuple #[]) ∧ ∃ n os, w' = grow (putRow enc (Sort.ahead w n) blk off (pdq lt d 0 d.size (Lib.bitLen d.size) true true)) os := Any.sort_Sort_eq Try.laysGt11 T rv gn gl gs rN rL rS enc lt hO blk off d h2 hsz w hlen hless hswap hH hblk
open Go.RowKit Go.Lib Go.Sort in
/-- **sort.Sort, IN THE DOCUMENTATION's OWN TERMS ("Sort sorts data in ascending order as determined by the Less method. .. The sort is not guaranteed to be stable"): A PERMUTATION OF WHAT THE ROW HELD, SORTED BY 'lt'.** (LAID: no walk: one application.) -/
theorem Try.sort_Sort_sorted {α : Type} [Inhabited α] (T : TypeId) (rv : Value) (gn gl gs : Nat) (rN : Reaches Try.prog T rv "Len" gn) (rL : Reaches Try.prog T rv "Less" gl) (rS : Reaches Try.prog T rv "Swap" gs) (enc : α → Value) (lt : α → α → Bool) (hO : SWO lt) (blk off : Nat) (d : Array α) (h2 : 2 ≤ d.size) (hsz : d.size < 4611686018427387904) (w : World) (hlen : LenM Try.prog gn rv d.size w) (hless : LessM Try.prog gl rv enc lt blk off d.size w) (hswap : SwapM Try.prog gs rv enc blk off d.size) (hH : Holds enc w blk off d) (hblk : blk < w.heap.size) :
    Calls Try.prog 41 #[.iface T rv] w fun e w' => e = .returned (.tuple #[]) ∧ ∃ d' n os, PermIn 0 d.size d d' ∧ SortedIn lt 0 d.size d' ∧ w' = grow (putRow enc (Sort.ahead w n) blk off d') os := Any.sort_Sort_sorted Try.laysGt11 T rv gn gl gs rN rL rS enc lt hO blk off d h2 hsz w hlen hless hswap hH hblk
open Go.RowKit Go.Sort in
/-- .. and plain. (LAID: no walk: one application.) -/
theorem Try.slices_Sort_int_none (p : Option Addr) (cap : Nat) (w : World) :
    Calls Try.prog 38 #[.slice p 0 cap] w fun e w' => e = .returned (.tuple #[]) ∧ w' = w := Any.slices_Sort_int_none Try.lays189 p cap w
def Try.laysGg36_ren : Go.Shelf.Ren := ⟨fun | 36 => 115 | n => n, fun | 66 => 170 | 51 => 101 | 0 => 0 | 60 => 159 | 41 => 81 | n => n, fun | n => n⟩
theorem Try.laysGg36 : Go.Proofs.LaysGg.n36 Try.prog Try.laysGg36_ren := {
  mixed := by kernel_rfl
  f36 := Try.func115.trans (congrArg some (by kernel_rfl))
  t0 := Try.underlying0
  a0 := Try.isAgg0
  z0 := Try.sizeOf0
  v0 := Try.zeroValue0
  i0 := by kernel_rfl
  t41 := Try.underlying81
  a41 := Try.isAgg81
  z41 := Try.sizeOf81
  v41 := Try.zeroValue81
  i41 := by kernel_rfl
  t51 := Try.underlying101
  a51 := Try.isAgg101
  z51 := Try.sizeOf101
  v51 := Try.zeroValue101
  i51 := by kernel_rfl
  t60 := Try.underlying159
  a60 := Try.isAgg159
  z60 := Try.sizeOf159
  v60 := Try.zeroValue159
  i60 := by kernel_rfl
  t66 := Try.underlying170
  a66 := Try.isAgg170
  z66 := Try.sizeOf170
  v66 := Try.zeroValue170
  i66 := by kernel_rfl }
open Go.RowKit Go.Lib Go.Sort in
/-- '*r ^= *r << 13; *r ^= *r >> 7; *r ^= *r << 17; return uint64(*r)': the cell holds 'xorNextN X' and that is handed back; three draws; nothing else turns. (LAID: no walk: one application.) -/
theorem Try.xorshift_Next (rb ro X : Nat) (hX : X < 18446744073709551616) (w : World) (hc : w.cell? ⟨rb, ro, none⟩ = some (.int .u64 X)) (hf : w.frozen? ⟨rb, ro, none⟩ = false) :
    Calls Try.prog 115 #[.pointer (some ⟨rb, ro, none⟩)] w fun e w' => e = .returned (.int .u64 (xorNextN X : Nat)) ∧ w' = (w.setCell ⟨rb, ro, none⟩ (.int .u64 (xorNextN X : Nat))).drewN 3 := Any.xorshift_Next Try.laysGg36 rb ro X hX w hc hf
def Try.laysGg35_ren : Go.Shelf.Ren := ⟨fun | 35 => 114 | 13 => 47 | 24 => 72 | 25 => 73 | n => n, fun | 3 => 3 | 41 => 81 | 49 => 116 | 51 => 101 | 4 => 4 | 5 => 5 | 9 => 9 | n => n, fun | n => n⟩
theorem Try.laysGg35 : Go.Proofs.LaysGg.n35 Try.prog Try.laysGg35_ren := {
  mixed := by kernel_rfl
  f13 := Try.func47.trans (congrArg some (by kernel_rfl))
  f24 := Try.func72.trans (congrArg some (by kernel_rfl))
  f25 := Try.func73.trans (congrArg some (by kernel_rfl))
  f35 := Try.func114.trans (congrArg some (by kernel_rfl))
  t3 := Try.underlying3
  a3 := Try.isAgg3
  z3 := Try.sizeOf3
  v3 := Try.zeroValue3
  i3 := by kernel_rfl
  t4 := Try.underlying4
  a4 := Try.isAgg4
  z4 := Try.sizeOf4
  v4 := Try.zeroValue4
  i4 := by kernel_rfl
  t5 := Try.underlying5
  a5 := Try.isAgg5
  z5 := Try.sizeOf5
  v5 := Try.zeroValue5
  i5 := by kernel_rfl
  t9 := Try.underlying9
  a9 := Try.isAgg9
  z9 := Try.sizeOf9
  v9 := Try.zeroValue9
  i9 := by kernel_rfl
  t41 := Try.underlying81
  a41 := Try.isAgg81
  z41 := Try.sizeOf81
  v41 := Try.zeroValue81
  i41 := by kernel_rfl
  t49 := Try.underlying116
  a49 := Try.isAgg116
  z49 := Try.sizeOf116
  v49 := Try.zeroValue116
  i49 := by kernel_rfl
  t51 := Try.underlying101
  a51 := Try.isAgg101
  z51 := Try.sizeOf101
  v51 := Try.zeroValue101
  i51 := by kernel_rfl }
open Go.RowKit Go.Lib Go.Sort in
/-- 'return 1 << bits.Len(uint(length))'. (LAID: no walk: one application.) -/
theorem Try.nextPowerOfTwo (n : Nat) (hn : n < 4611686018427387904) (w : World) :
    Calls Try.prog 114 #[.int .i64 n] w fun e w' => e = .returned (.int .u64 ((1 <<< bitsLen n : Nat) : Int)) ∧ w' = w := Any.nextPowerOfTwo Try.laysGg35 n hn w
def Try.laysGt43_ren : Go.Shelf.Ren := ⟨fun | 43 => 113 | n => n, fun | 45 => 97 | 3 => 3 | 4 => 4 | 0 => 0 | 43 => 98 | 26 => 132 | 38 => 158 | n => n, fun | n => n⟩
theorem Try.laysGt43 : Go.Proofs.LaysGt.n43 Try.prog Try.laysGt43_ren := {
  mixed := by kernel_rfl
  f43 := Try.func113.trans (congrArg some (by kernel_rfl))
  t0 := Try.underlying0
  a0 := Try.isAgg0
  z0 := Try.sizeOf0
  v0 := Try.zeroValue0
  i0 := by kernel_rfl
  t3 := Try.underlying3
  a3 := Try.isAgg3
  z3 := Try.sizeOf3
  v3 := Try.zeroValue3
  i3 := by kernel_rfl
  t4 := Try.underlying4
  a4 := Try.isAgg4
  z4 := Try.sizeOf4
  v4 := Try.zeroValue4
  i4 := by kernel_rfl
  t26 := Try.underlying132
  a26 := Try.isAgg132
  z26 := Try.sizeOf132
  v26 := Try.zeroValue132
  i26 := by kernel_rfl
  t38 := Try.underlying158
  a38 := Try.isAgg158
  z38 := Try.sizeOf158
  v38 := Try.zeroValue158
  i38 := by kernel_rfl
  t43 := Try.underlying98
  a43 := Try.isAgg98
  z43 := Try.sizeOf98
  v43 := Try.zeroValue98
  i43 := by kernel_rfl
  t45 := Try.underlying97
  a45 := Try.isAgg97
  z45 := Try.sizeOf97
  v45 := Try.zeroValue97
  i45 := by kernel_rfl }
open Go.RowKit Go.Lib Go.Sort in
theorem Try.siftDown_iface {α : Type} [Inhabited α] (T : TypeId) (rv : Value) (gl gs : Nat) (rL : Reaches Try.prog T rv "Less" gl) (rS : Reaches Try.prog T rv "Swap" gs) (enc : α → Value) (lt : α → α → Bool) (blk off lo hi first : Nat) (d : Array α) (w : World) (hless : LessM Try.prog gl rv enc lt blk off d.size w) (hswap : SwapM Try.prog gs rv enc blk off d.size) (hH : Holds enc w blk off d) (hlo : lo ≤ hi) (hb : first + hi ≤ d.size) (hsz : d.size < 4611686018427387904) :
    Calls Try.prog 113 #[.iface T rv, .int .i64 lo, .int .i64 hi, .int .i64 first] w fun e w' =>
      e = .returned (.tuple #[]) ∧ ∃ n, w' = putRow enc (Sort.ahead w n) blk off (siftDown lt hi first lo d) := Any.siftDown_iface Try.laysGt43 T rv gl gs rL rS enc lt blk off lo hi first d w hless hswap hH hlo hb hsz
open Go.RowKit Go.Lib Go.Sort in
/-- sort.siftDown, from a world to a 'sortWorld' of it. (LAID: no walk: one application.) -/
theorem Try.siftDown_iface_w {α : Type} [Inhabited α] (T : TypeId) (rv : Value) (gl gs : Nat) (rL : Reaches Try.prog T rv "Less" gl) (rS : Reaches Try.prog T rv "Swap" gs) (enc : α → Value) (lt : α → α → Bool) (blk off lo hi first : Nat) (d : Array α) (w : World) (hless : LessM Try.prog gl rv enc lt blk off d.size w) (hswap : SwapM Try.prog gs rv enc blk off d.size) (hH : Holds enc w blk off d) (hlo : lo ≤ hi) (hb : first + hi ≤ d.size) (hsz : d.size < 4611686018427387904) :
    Calls Try.prog 113 #[.iface T rv, .int .i64 lo, .int .i64 hi, .int .i64 first] w fun e w' => e = .returned (.tuple #[]) ∧ ∃ n os, w' = sortWorld enc w blk off n (siftDown lt hi first lo d) os := Any.siftDown_iface_w Try.laysGt43 T rv gl gs rL rS enc lt blk off lo hi first d w hless hswap hH hlo hb hsz
def Try.laysGt34_ren : Go.Shelf.Ren := ⟨fun | 34 => 92 | 43 => 113 | n => n, fun | 45 => 97 | 3 => 3 | 4 => 4 | 0 => 0 | 43 => 98 | 26 => 132 | 38 => 158 | n => n, fun | n => n⟩
theorem Try.laysGt34 : Go.Proofs.LaysGt.n34 Try.prog Try.laysGt34_ren := {
  mixed := by kernel_rfl
  f34 := Try.func92.trans (congrArg some (by kernel_rfl))
  f43 := Try.func113.trans (congrArg some (by kernel_rfl))
  t0 := Try.underlying0
  a0 := Try.isAgg0
  z0 := Try.sizeOf0
  v0 := Try.zeroValue0
  i0 := by kernel_rfl
  t3 := Try.underlying3
  a3 := Try.isAgg3
  z3 := Try.sizeOf3
  v3 := Try.zeroValue3
  i3 := by kernel_rfl
  t4 := Try.underlying4
  a4 := Try.isAgg4
  z4 := Try.sizeOf4
  v4 := Try.zeroValue4
  i4 := by kernel_rfl
  t26 := Try.underlying132
  a26 := Try.isAgg132
  z26 := Try.sizeOf132
  v26 := Try.zeroValue132
  i26 := by kernel_rfl
  t38 := Try.underlying158
  a38 := Try.isAgg158
  z38 := Try.sizeOf158
  v38 := Try.zeroValue158
  i38 := by kernel_rfl
  t43 := Try.underlying98
  a43 := Try.isAgg98
  z43 := Try.sizeOf98
  v43 := Try.zeroValue98
  i43 := by kernel_rfl
  t45 := Try.underlying97
  a45 := Try.isAgg97
  z45 := Try.sizeOf97
  v45 := Try.zeroValue97
  i45 := by kernel_rfl }
open Go.RowKit Go.Lib Go.Sort in
theorem Try.heapSort_iface_w {α : Type} [Inhabited α] (T : TypeId) (rv : Value) (gl gs : Nat) (rL : Reaches Try.prog T rv "Less" gl) (rS : Reaches Try.prog T rv "Swap" gs) (enc : α → Value) (lt : α → α → Bool) (blk off a b : Nat) (d : Array α) (w : World) (hless : LessM Try.prog gl rv enc lt blk off d.size w) (hswap : SwapM Try.prog gs rv enc blk off d.size) (hH : Holds enc w blk off d) (hblk : blk < w.heap.size) (hab : a ≤ b) (hb : b ≤ d.size) (hsz : d.size < 4611686018427387904) :
    Calls Try.prog 92 #[.iface T rv, .int .i64 a, .int .i64 b] w fun e w' => e = .returned (.tuple #[]) ∧ ∃ n os, w' = sortWorld enc w blk off n (heapSort lt d a b) os := Any.heapSort_iface_w Try.laysGt34 T rv gl gs rL rS enc lt blk off a b d w hless hswap hH hblk hab hb hsz
def Try.laysGt38_ren : Go.Shelf.Ren := ⟨fun | 38 => 96 | n => n, fun | 45 => 97 | 3 => 3 | 4 => 4 | 0 => 0 | 43 => 98 | 26 => 132 | 38 => 158 | n => n, fun | n => n⟩
theorem Try.laysGt38 : Go.Proofs.LaysGt.n38 Try.prog Try.laysGt38_ren := {
  mixed := by kernel_rfl
  f38 := Try.func96.trans (congrArg some (by kernel_rfl))
  t0 := Try.underlying0
  a0 := Try.isAgg0
  z0 := Try.sizeOf0
  v0 := Try.zeroValue0
  i0 := by kernel_rfl
  t3 := Try.underlying3
  a3 := Try.isAgg3
  z3 := Try.sizeOf3
  v3 := Try.zeroValue3
  i3 := by kernel_rfl
  t4 := Try.underlying4
  a4 := Try.isAgg4
  z4 := Try.sizeOf4
  v4 := Try.zeroValue4
  i4 := by kernel_rfl
  t26 := Try.underlying132
  a26 := Try.isAgg132
  z26 := Try.sizeOf132
  v26 := Try.zeroValue132
  i26 := by kernel_rfl
  t38 := Try.underlying158
  a38 := Try.isAgg158
  z38 := Try.sizeOf158
  v38 := Try.zeroValue158
  i38 := by kernel_rfl
  t43 := Try.underlying98
  a43 := Try.isAgg98
  z43 := Try.sizeOf98
  v43 := Try.zeroValue98
  i43 := by kernel_rfl
  t45 := Try.underlying97
  a45 := Try.isAgg97
  z45 := Try.sizeOf97
  v45 := Try.zeroValue97
  i45 := by kernel_rfl }
open Go.RowKit Go.Lib Go.Sort in
theorem Try.partialInsertionSort_iface {α : Type} [Inhabited α] (T : TypeId) (rv : Value) (gl gs : Nat) (rL : Reaches Try.prog T rv "Less" gl) (rS : Reaches Try.prog T rv "Swap" gs) (enc : α → Value) (lt : α → α → Bool) (blk off a b : Nat) (d : Array α) (w : World) (hless : LessM Try.prog gl rv enc lt blk off d.size w) (hswap : SwapM Try.prog gs rv enc blk off d.size) (hH : Holds enc w blk off d) (hab : a < b) (hb : b ≤ d.size) (hsz : d.size < 4611686018427387904) :
    Calls Try.prog 96 #[.iface T rv, .int .i64 a, .int .i64 b] w fun e w' =>
      e = .returned (.bool (Sort.partialInsertionSort lt d a b).2) ∧ ∃ n, w' = putRow enc (Sort.ahead w n) blk off (Sort.partialInsertionSort lt d a b).1 := Any.partialInsertionSort_iface Try.laysGt38 T rv gl gs rL rS enc lt blk off a b d w hless hswap hH hab hb hsz
open Go.RowKit Go.Lib Go.Sort in
/-- sort.partialInsertionSort, from a world to a 'sortWorld' of it. (LAID: no walk: one application.) -/
theorem Try.partialInsertionSort_iface_w {α : Type} [Inhabited α] (T : TypeId) (rv : Value) (gl gs : Nat) (rL : Reaches Try.prog T rv "Less" gl) (rS : Reaches Try.prog T rv "Swap" gs) (enc : α → Value) (lt : α → α → Bool) (blk off a b : Nat) (d : Array α) (w : World) (hless : LessM Try.prog gl rv enc lt blk off d.size w) (hswap : SwapM Try.prog gs rv enc blk off d.size) (hH : Holds enc w blk off d) (hab : a < b) (hb : b ≤ d.size) (hsz : d.size < 4611686018427387904) :
    Calls Try.prog 96 #[.iface T rv, .int .i64 a, .int .i64 b] w fun e w' => e = .returned (.bool (Sort.partialInsertionSort lt d a b).2) ∧ ∃ n os, w' = sortWorld enc w blk off n (Sort.partialInsertionSort lt d a b).1 os := Any.partialInsertionSort_iface_w Try.laysGt38 T rv gl gs rL rS enc lt blk off a b d w hless hswap hH hab hb hsz
def Try.laysSlN33_f9_ren : Go.Shelf.Ren := ⟨fun | 33 => 9 | n => n, fun | 22 => 22 | 23 => 2 | 4 => 4 | 3 => 3 | 0 => 0 | n => n, fun | n => n⟩
theorem Try.laysSlN33_f9 : Go.Proofs.SlLaysN.n33 Try.prog Try.laysSlN33_f9_ren := {
  mixed := by kernel_rfl
  f33 := ⟨Try.f9.name, by decide, Try.func9.trans (congrArg some (by kernel_rfl))⟩
  t0 := Try.underlying0
  a0 := Try.isAgg0
  z0 := Try.sizeOf0
  v0 := Try.zeroValue0
  t3 := Try.underlying3
  a3 := Try.isAgg3
  z3 := Try.sizeOf3
  v3 := Try.zeroValue3
  t4 := Try.underlying4
  a4 := Try.isAgg4
  z4 := Try.sizeOf4
  v4 := Try.zeroValue4
  t22 := Try.underlying22
  a22 := Try.isAgg22
  z22 := Try.sizeOf22
  v22 := Try.zeroValue22
  t23 := Try.underlying2
  a23 := Try.isAgg2
  z23 := Try.sizeOf2
  v23 := Try.zeroValue2 }
open Go.RowKit Go.Lib in
/-- slices.Equal at []int: "Equal reports whether two slices are equal: the same length and all elements equal. If the lengths are different, Equal returns false. Otherwise, the elements are compared in increasing index order, and the comparison stops at the first unequal pair. Empty and nil slices are considered equal.": IT RETURNS WHETHER THE TWO LISTS OF ELEMENTS ARE ONE; the world is as it was but for the count of draws (the test 's1[i] != s2[i]' has two reads, whose order the model draws, once a round). 'xs', 'ys': what the cells behind the two addresses hold (the spare capacity too, if you have it); 'xs.take n', 'ys.take m': the elements. THE TWO SLICES MAY OVERLAP. (LAID AT THE INSTANCE 'slices.Equal[[]int64,int64]': no walk: one application.) -/
theorem Try.slices_Equal_int_f9 (b1 o1 n c b2 o2 m d : Nat) (xs ys : List Int) (w : World) (hx : n ≤ xs.length) (hy : m ≤ ys.length) (hbig : n ≤ 9223372036854775807) (hbig2 : m ≤ 9223372036854775807) (hc1 : ∀ j, j < xs.length → w.cell? ⟨b1, o1 + j, none⟩ = some (.int .i64 (xs.getD j 0))) (hc2 : ∀ j, j < ys.length → w.cell? ⟨b2, o2 + j, none⟩ = some (.int .i64 (ys.getD j 0))) :
    Calls Try.prog 9 #[.slice (some ⟨b1, o1, none⟩) n c, .slice (some ⟨b2, o2, none⟩) m d] w fun e w' => e = .returned (.bool (xs.take n == ys.take m)) ∧ ∃ q, w' = w.drewN q := AnyG.slices_Equal_int Try.laysSlN33_f9 b1 o1 n c b2 o2 m d xs ys w hx hy hbig hbig2 hc1 hc2
def Try.laysSlN33_f39_ren : Go.Shelf.Ren := ⟨fun | 33 => 39 | n => n, fun | 22 => 37 | 23 => 3 | 4 => 4 | 3 => 3 | 0 => 0 | n => n, fun | n => n⟩
theorem Try.laysSlN33_f39 : Go.Proofs.SlLaysN.n33 Try.prog Try.laysSlN33_f39_ren := {
  mixed := by kernel_rfl
  f33 := ⟨Try.f39.name, by decide, Try.func39.trans (congrArg some (by kernel_rfl))⟩
  t0 := Try.underlying0
  a0 := Try.isAgg0
  z0 := Try.sizeOf0
  v0 := Try.zeroValue0
  t3 := Try.underlying3
  a3 := Try.isAgg3
  z3 := Try.sizeOf3
  v3 := Try.zeroValue3
  t4 := Try.underlying4
  a4 := Try.isAgg4
  z4 := Try.sizeOf4
  v4 := Try.zeroValue4
  t22 := Try.underlying37
  a22 := Try.isAgg37
  z22 := Try.sizeOf37
  v22 := Try.zeroValue37
  t23 := Try.underlying3
  a23 := Try.isAgg3
  z23 := Try.sizeOf3
  v23 := Try.zeroValue3 }
open Go.RowKit Go.Lib in
/-- slices.Equal at []int: "Equal reports whether two slices are equal: the same length and all elements equal. If the lengths are different, Equal returns false. Otherwise, the elements are compared in increasing index order, and the comparison stops at the first unequal pair. Empty and nil slices are considered equal.": IT RETURNS WHETHER THE TWO LISTS OF ELEMENTS ARE ONE; the world is as it was but for the count of draws (the test 's1[i] != s2[i]' has two reads, whose order the model draws, once a round). 'xs', 'ys': what the cells behind the two addresses hold (the spare capacity too, if you have it); 'xs.take n', 'ys.take m': the elements. THE TWO SLICES MAY OVERLAP. (LAID AT THE INSTANCE 'slices.Equal[[]int,int]': no walk: one application.) -/
theorem Try.slices_Equal_int_f39 (b1 o1 n c b2 o2 m d : Nat) (xs ys : List Int) (w : World) (hx : n ≤ xs.length) (hy : m ≤ ys.length) (hbig : n ≤ 9223372036854775807) (hbig2 : m ≤ 9223372036854775807) (hc1 : ∀ j, j < xs.length → w.cell? ⟨b1, o1 + j, none⟩ = some (.int .i64 (xs.getD j 0))) (hc2 : ∀ j, j < ys.length → w.cell? ⟨b2, o2 + j, none⟩ = some (.int .i64 (ys.getD j 0))) :
    Calls Try.prog 39 #[.slice (some ⟨b1, o1, none⟩) n c, .slice (some ⟨b2, o2, none⟩) m d] w fun e w' => e = .returned (.bool (xs.take n == ys.take m)) ∧ ∃ q, w' = w.drewN q := AnyG.slices_Equal_int Try.laysSlN33_f39 b1 o1 n c b2 o2 m d xs ys w hx hy hbig hbig2 hc1 hc2
open Go.RowKit Go.Lib in
/-- The same where the first is of length 0 (a nil one too): no cell is asked for. (LAID AT THE INSTANCE 'slices.Equal[[]int64,int64]': no walk: one application.) -/
theorem Try.slices_Equal_int_empty_f9 (a1 a2 : Option Addr) (c m d : Nat) (w : World) (hbig2 : m ≤ 9223372036854775807) :
    Calls Try.prog 9 #[.slice a1 0 c, .slice a2 m d] w fun e w' => e = .returned (.bool (decide (m = 0))) ∧ w' = w := AnyG.slices_Equal_int_empty Try.laysSlN33_f9 a1 a2 c m d w hbig2
open Go.RowKit Go.Lib in
/-- The same where the first is of length 0 (a nil one too): no cell is asked for. (LAID AT THE INSTANCE 'slices.Equal[[]int,int]': no walk: one application.) -/
theorem Try.slices_Equal_int_empty_f39 (a1 a2 : Option Addr) (c m d : Nat) (w : World) (hbig2 : m ≤ 9223372036854775807) :
    Calls Try.prog 39 #[.slice a1 0 c, .slice a2 m d] w fun e w' => e = .returned (.bool (decide (m = 0))) ∧ w' = w := AnyG.slices_Equal_int_empty Try.laysSlN33_f39 a1 a2 c m d w hbig2
def Try.laysSlE33_f9_ren : Go.Shelf.Ren := ⟨fun | 33 => 9 | n => n, fun | 22 => 22 | 23 => 2 | 4 => 4 | 3 => 3 | 0 => 0 | n => n, fun | n => n⟩
theorem Try.laysSlE33_f9 : Go.Proofs.SlLaysE.n33 Try.prog Try.laysSlE33_f9_ren := {
  mixed := by kernel_rfl
  f33 := ⟨Try.f9.name, by decide, Try.func9.trans (congrArg some (by kernel_rfl))⟩
  t0 := Try.underlying0
  a0 := Try.isAgg0
  z0 := Try.sizeOf0
  v0 := Try.zeroValue0
  t3 := Try.underlying3
  a3 := Try.isAgg3
  z3 := Try.sizeOf3
  v3 := Try.zeroValue3
  t4 := Try.underlying4
  a4 := Try.isAgg4
  z4 := Try.sizeOf4
  v4 := Try.zeroValue4
  t22 := Try.underlying22
  a22 := Try.isAgg22
  z22 := Try.sizeOf22
  v22 := Try.zeroValue22
  a23 := Try.isAgg2
  z23 := Try.sizeOf2 }
open Go.RowKit Go.Lib in
/-- slices.Equal: "Equal reports whether two slices are equal: the same length and all elements equal. .. Empty and nil slices are considered equal. Floating point NaNs are not considered equal.": IT RETURNS 'Lib.allEq eq (the one's elements) (the other's)'; the world is as it was but for the count of draws. (LAID AT THE INSTANCE 'slices.Equal[[]int64,int64]': no walk: one application.) -/
theorem Try.slices_Equal_f9 {α : Type} [Inhabited α] (enc : α → Value) (eq : α → α → Bool) (hne : NeqAt Try.prog 2 enc eq) (b1 o1 n c b2 o2 m d : Nat) (xs ys : List α) (w : World) (hx : n ≤ xs.length) (hy : m ≤ ys.length) (hbig : n ≤ 9223372036854775807) (hbig2 : m ≤ 9223372036854775807) (hc1 : ∀ j, j < xs.length → w.cell? ⟨b1, o1 + j, none⟩ = some (enc xs[j]!)) (hc2 : ∀ j, j < ys.length → w.cell? ⟨b2, o2 + j, none⟩ = some (enc ys[j]!)) :
    Calls Try.prog 9 #[.slice (some ⟨b1, o1, none⟩) n c, .slice (some ⟨b2, o2, none⟩) m d] w fun e w' => e = .returned (.bool (Lib.allEq eq (xs.take n) (ys.take m))) ∧ ∃ q, w' = w.drewN q := AnyE.slices_Equal Try.laysSlE33_f9 enc eq hne b1 o1 n c b2 o2 m d xs ys w hx hy hbig hbig2 hc1 hc2
def Try.laysSlE33_f39_ren : Go.Shelf.Ren := ⟨fun | 33 => 39 | n => n, fun | 22 => 37 | 23 => 3 | 4 => 4 | 3 => 3 | 0 => 0 | n => n, fun | n => n⟩
theorem Try.laysSlE33_f39 : Go.Proofs.SlLaysE.n33 Try.prog Try.laysSlE33_f39_ren := {
  mixed := by kernel_rfl
  f33 := ⟨Try.f39.name, by decide, Try.func39.trans (congrArg some (by kernel_rfl))⟩
  t0 := Try.underlying0
  a0 := Try.isAgg0
  z0 := Try.sizeOf0
  v0 := Try.zeroValue0
  t3 := Try.underlying3
  a3 := Try.isAgg3
  z3 := Try.sizeOf3
  v3 := Try.zeroValue3
  t4 := Try.underlying4
  a4 := Try.isAgg4
  z4 := Try.sizeOf4
  v4 := Try.zeroValue4
  t22 := Try.underlying37
  a22 := Try.isAgg37
  z22 := Try.sizeOf37
  v22 := Try.zeroValue37
  a23 := Try.isAgg3
  z23 := Try.sizeOf3 }
open Go.RowKit Go.Lib in
/-- slices.Equal: "Equal reports whether two slices are equal: the same length and all elements equal. .. Empty and nil slices are considered equal. Floating point NaNs are not considered equal.": IT RETURNS 'Lib.allEq eq (the one's elements) (the other's)'; the world is as it was but for the count of draws. (LAID AT THE INSTANCE 'slices.Equal[[]int,int]': no walk: one application.) -/
theorem Try.slices_Equal_f39 {α : Type} [Inhabited α] (enc : α → Value) (eq : α → α → Bool) (hne : NeqAt Try.prog 3 enc eq) (b1 o1 n c b2 o2 m d : Nat) (xs ys : List α) (w : World) (hx : n ≤ xs.length) (hy : m ≤ ys.length) (hbig : n ≤ 9223372036854775807) (hbig2 : m ≤ 9223372036854775807) (hc1 : ∀ j, j < xs.length → w.cell? ⟨b1, o1 + j, none⟩ = some (enc xs[j]!)) (hc2 : ∀ j, j < ys.length → w.cell? ⟨b2, o2 + j, none⟩ = some (enc ys[j]!)) :
    Calls Try.prog 39 #[.slice (some ⟨b1, o1, none⟩) n c, .slice (some ⟨b2, o2, none⟩) m d] w fun e w' => e = .returned (.bool (Lib.allEq eq (xs.take n) (ys.take m))) ∧ ∃ q, w' = w.drewN q := AnyE.slices_Equal Try.laysSlE33_f39 enc eq hne b1 o1 n c b2 o2 m d xs ys w hx hy hbig hbig2 hc1 hc2
def Try.laysSlE43_f10_ren : Go.Shelf.Ren := ⟨fun | 43 => 10 | n => n, fun | 22 => 22 | 23 => 2 | 3 => 3 | 4 => 4 | 0 => 0 | n => n, fun | n => n⟩
theorem Try.laysSlE43_f10 : Go.Proofs.SlLaysE.n43 Try.prog Try.laysSlE43_f10_ren := {
  mixed := by kernel_rfl
  f43 := ⟨Try.f10.name, by decide, Try.func10.trans (congrArg some (by kernel_rfl))⟩
  t0 := Try.underlying0
  a0 := Try.isAgg0
  z0 := Try.sizeOf0
  v0 := Try.zeroValue0
  t3 := Try.underlying3
  a3 := Try.isAgg3
  z3 := Try.sizeOf3
  v3 := Try.zeroValue3
  t4 := Try.underlying4
  a4 := Try.isAgg4
  z4 := Try.sizeOf4
  v4 := Try.zeroValue4
  t22 := Try.underlying22
  a22 := Try.isAgg22
  z22 := Try.sizeOf22
  v22 := Try.zeroValue22
  a23 := Try.isAgg2
  z23 := Try.sizeOf2 }
open Go.RowKit Go.Lib Go.Sort in
/-- slices.Compact: "Compact replaces consecutive runs of equal elements with a single copy. .. Compact zeroes the elements between the new length and the original length.": IT RETURNS THE SLICE CUT TO 'compactUpTo d d.size'; ITS CELLS HOLD THAT, THEN ZERO VALUES up to the old length; the library's two loops are walked. (LAID AT THE INSTANCE 'slices.Compact[[]int64,int64]': no walk: one application.) -/
theorem Try.slices_Compact {α : Type} [Inhabited α] [DecidableEq α] (enc : α → Value) (hO : OneCell enc) (heq : EqlAt Try.prog 2 enc (fun x y => decide (x = y))) (hne : NeqAt Try.prog 2 enc (fun x y => decide (x = y))) (zr : α) (v23 : ∀ w, (zeroValue 2).run Try.prog w = .ok (enc zr) w) (blk off cap : Nat) (d : Array α) (w : World) (hH : Holds enc w blk off d) (hsz : d.size ≤ 9223372036854775807) (hcap : d.size ≤ cap) :
    Calls Try.prog 10 #[.slice (some ⟨blk, off, none⟩) d.size cap] w fun e w' => e = .returned (.slice (some ⟨blk, off, none⟩) (compactUpTo d d.size).length cap) ∧ ∃ q, w' = putRow enc (Sort.ahead w q) blk off (compactUpTo d d.size ++ List.replicate (d.size - (compactUpTo d d.size).length) zr).toArray := AnyE.slices_Compact Try.laysSlE43_f10 enc hO heq hne zr v23 blk off cap d w hH hsz hcap
def Try.laysSlE041_f37_ren : Go.Shelf.Ren := ⟨fun | 41 => 37 | n => n, fun | 22 => 37 | 23 => 3 | 4 => 4 | n => n, fun | n => n⟩
theorem Try.laysSlE041_f37 : Go.Proofs.SlLaysE0.n41 Try.prog Try.laysSlE041_f37_ren := {
  mixed := by kernel_rfl
  f41 := ⟨Try.f37.name, by decide, Try.func37.trans (congrArg some (by kernel_rfl))⟩
  t4 := Try.underlying4
  a4 := Try.isAgg4
  z4 := Try.sizeOf4
  v4 := Try.zeroValue4
  t22 := Try.underlying37
  a22 := Try.isAgg37
  z22 := Try.sizeOf37
  v22 := Try.zeroValue37 }
open Go.RowKit Go.Lib in
/-- slices.Clone: "Clone returns a copy of the slice. The elements are copied using assignment, so this is a shallow clone. The result may have additional unused capacity. The result preserves the nilness of s.": OF A SLICE THAT IS NOT nil IT RETURNS A SLICE THAT IS NOT nil, OF THE SAME CELLS, IN MEMORY OF THE CALL's OWN ('ownsRow': the how-to's 6f); below the heap's size at the call all is as it was. (LAID AT THE INSTANCE 'slices.Clone[[]int,int]': no walk: one application.) -/
theorem Try.slices_Clone (i0 : TypeInfo) (z : Value) (size bytes : Nat) (hi : Try.prog.info? 3 = some i0) (hz0 : i0.zero = some z) (hz1 : i0.size = size) (hz2 : i0.bytes = bytes) (hzs : z.cells.size = size) (hsz : 0 < size) (z23 : ∀ w, (Go.sizeOf 3).run Try.prog w = .ok size w) (b off n c : Nat) (news : List Value) (w : World) (hl : news.length = n * size) (hn : n ≤ maxLen) (hbig : n * bytes ≤ 140737488355328) (hc : ∀ j u, news[j]? = some u → w.cell? ⟨b, off + j, none⟩ = some u) (h1 : ∀ u ∈ news, u.oneCell' = true) :
    Calls Try.prog 37 #[.slice (some ⟨b, off, none⟩) n c] w fun e w' => ∃ v', e = .returned v' ∧ w'.ownsRow w.heap.size 3 size v' n news ∧ v' ≠ .slice none 0 0 ∧ Below w.heap.size w w' := AnyE.slices_Clone Try.laysSlE041_f37 i0 z size bytes hi hz0 hz1 hz2 hzs hsz z23 b off n c news w hl hn hbig hc h1
open Go.RowKit Go.Lib in
/-- The same at nil: nil comes back; the world is as it was; nothing is asked of the element's type. (LAID AT THE INSTANCE 'slices.Clone[[]int,int]': no walk: one application.) -/
theorem Try.slices_Clone_nil (n c : Nat) (w : World) :
    Calls Try.prog 37 #[.slice none n c] w fun e w' => e = .returned (.slice none 0 0) ∧ w' = w := AnyE.slices_Clone_nil Try.laysSlE041_f37 n c w
end Go.Proofs
