/-
  DERIVED: THE SHELF's CONTRACTS AT THIS DUMP, IN PLAIN WORDS (tools/lay-plain.mjs out of 'TryShelf.lean', which tools/lay-shelf.mjs wrote): THE SAME DECLARATIONS UNDER THE SAME NAMES: 'import', 'namespace', 'open', 'def', 'theorem' AND NOTHING ELSE: no command of the shelf's: FOR A HAND-IN. Each laying: the table of numbers ('.._ren') and one theorem, a field a fact of the dump's own or the kernel's comparison; each contract: ONE APPLICATION.
-/
import Derived.Shelf.Small.Bits
import Derived.Shelf.Strconv.Itoa0
import Derived.Shelf.Sort.Plain
import Derived.Ground.GgtProg
import Derived.Shelf.GgSortMore.Iface
import Derived.Shelf.GgSortMore.IfaceD
import Derived.Shelf.GgSortMore.IfacePart
import Derived.Shelf.GgSortMore.IfacePdq
import Derived.Shelf.GgSortMore.SortSort
import Derived.Shelf.Slices.Equal
import Derived.Ground.Names2Prog
import Derived.Shelf.Slices.Clone
import Derived.Shelf.Slices.CompactS
import Derived.Shelf.Slices.Cells
import Derived.Shelf.Slices.In.SortNone
import Derived.Shelf.Slices.Empties2
import Derived.Ground.GgsProg
import Derived.Shelf.SlSortFunc.Xorshift
import Derived.Shelf.SlSortIface.SiftDown
import Derived.Shelf.SlSortIface.HeapSort
import Derived.Shelf.SlSortIface.PartialInsertion
import Derived.Ground.SlgnProg
import Derived.Shelf.SlicesE.Clone
import Derived.Test.YthcgojhfbcgaiaaProg
namespace Go.Proofs
open Go.Shelf
def Try.lays128_ren : Go.Shelf.Ren := ⟨fun | 128 => 80 | n => n, fun | 51 => 134 | 3 => 3 | 4 => 4 | 46 => 110 | 5 => 5 | 9 => 9 | n => n, fun | n => n⟩
theorem Try.lays128 : Go.Proofs.Lays.n128 Try.prog Try.lays128_ren := {
  mixed := by kernel_rfl
  f128 := Try.func80.trans (congrArg some (by kernel_rfl))
  t3 := Try.underlying3
  a3 := Try.isAgg3
  z3 := Try.sizeOf3
  v3 := Try.zeroValue3
  t4 := Try.underlying4
  a4 := Try.isAgg4
  z4 := Try.sizeOf4
  v4 := Try.zeroValue4
  t5 := Try.underlying5
  a5 := Try.isAgg5
  z5 := Try.sizeOf5
  v5 := Try.zeroValue5
  t9 := Try.underlying9
  a9 := Try.isAgg9
  z9 := Try.sizeOf9
  v9 := Try.zeroValue9
  t46 := Try.underlying110
  a46 := Try.isAgg110
  z46 := Try.sizeOf110
  v46 := Try.zeroValue110
  t51 := Try.underlying134
  a51 := Try.isAgg134
  z51 := Try.sizeOf134
  v51 := Try.zeroValue134 }
/-- bits.Len32: "Len32 returns the minimum number of bits required to represent x; the result is 0 for x == 0.": IT RETURNS 'Lib.bitLen x'; the world is as it was. ('h0', 'h1': x is a uint32.) (LAID: no walk: one application.) -/
theorem Try.bits_Len32 (x : Int) (w : World) (h0 : 0 ≤ x) (h1 : x ≤ 4294967295) :
    Calls Try.prog 80 #[.int .u32 x] w fun e w' => e = .returned (.int .i64 (Lib.bitLen x.toNat)) ∧ w' = w := Any.bits_Len32 Try.lays128 x w h0 h1
def Try.lays125_ren : Go.Shelf.Ren := ⟨fun | 125 => 57 | 128 => 80 | 129 => 81 | n => n, fun | 46 => 110 | 3 => 3 | 51 => 134 | 53 => 136 | 4 => 4 | 5 => 5 | 9 => 9 | n => n, fun | n => n⟩
theorem Try.lays125 : Go.Proofs.Lays.n125 Try.prog Try.lays125_ren := {
  mixed := by kernel_rfl
  f125 := Try.func57.trans (congrArg some (by kernel_rfl))
  f128 := Try.func80.trans (congrArg some (by kernel_rfl))
  f129 := Try.func81.trans (congrArg some (by kernel_rfl))
  t3 := Try.underlying3
  a3 := Try.isAgg3
  z3 := Try.sizeOf3
  v3 := Try.zeroValue3
  t4 := Try.underlying4
  a4 := Try.isAgg4
  z4 := Try.sizeOf4
  v4 := Try.zeroValue4
  t5 := Try.underlying5
  a5 := Try.isAgg5
  z5 := Try.sizeOf5
  v5 := Try.zeroValue5
  t9 := Try.underlying9
  a9 := Try.isAgg9
  z9 := Try.sizeOf9
  v9 := Try.zeroValue9
  t46 := Try.underlying110
  a46 := Try.isAgg110
  z46 := Try.sizeOf110
  v46 := Try.zeroValue110
  t51 := Try.underlying134
  a51 := Try.isAgg134
  z51 := Try.sizeOf134
  v51 := Try.zeroValue134
  t53 := Try.underlying136
  a53 := Try.isAgg136
  z53 := Try.sizeOf136
  v53 := Try.zeroValue136 }
/-- bits.Len: "Len returns the minimum number of bits required to represent x; the result is 0 for x == 0.": IT RETURNS 'Lib.bitLen x'; the world is as it was. (A uint has 64 bits in the model.) ITS CALLEE bits.Len64 IS MET BY ITS OWN CONTRACT OFF THE SHELF (lay that first). (LAID: no walk: one application.) -/
theorem Try.bits_Len (x : Int) (w : World) (h0 : 0 ≤ x) (h1 : x ≤ 18446744073709551615) :
    Calls Try.prog 57 #[.int .u64 x] w fun e w' => e = .returned (.int .i64 (Lib.bitLen x.toNat)) ∧ w' = w := Any.bits_Len Try.lays125 x w h0 h1
def Try.lays129_ren : Go.Shelf.Ren := ⟨fun | 129 => 81 | n => n, fun | 53 => 136 | 3 => 3 | 4 => 4 | 46 => 110 | 5 => 5 | 9 => 9 | n => n, fun | n => n⟩
theorem Try.lays129 : Go.Proofs.Lays.n129 Try.prog Try.lays129_ren := {
  mixed := by kernel_rfl
  f129 := Try.func81.trans (congrArg some (by kernel_rfl))
  t3 := Try.underlying3
  a3 := Try.isAgg3
  z3 := Try.sizeOf3
  v3 := Try.zeroValue3
  t4 := Try.underlying4
  a4 := Try.isAgg4
  z4 := Try.sizeOf4
  v4 := Try.zeroValue4
  t5 := Try.underlying5
  a5 := Try.isAgg5
  z5 := Try.sizeOf5
  v5 := Try.zeroValue5
  t9 := Try.underlying9
  a9 := Try.isAgg9
  z9 := Try.sizeOf9
  v9 := Try.zeroValue9
  t46 := Try.underlying110
  a46 := Try.isAgg110
  z46 := Try.sizeOf110
  v46 := Try.zeroValue110
  t53 := Try.underlying136
  a53 := Try.isAgg136
  z53 := Try.sizeOf136
  v53 := Try.zeroValue136 }
/-- bits.Len64: "Len64 returns the minimum number of bits required to represent x; the result is 0 for x == 0.": IT RETURNS 'Lib.bitLen x'; the world is as it was. ('h0', 'h1': x is a uint64.) (LAID: no walk: one application.) -/
theorem Try.bits_Len64 (x : Int) (w : World) (h0 : 0 ≤ x) (h1 : x ≤ 18446744073709551615) :
    Calls Try.prog 81 #[.int .u64 x] w fun e w' => e = .returned (.int .i64 (Lib.bitLen x.toNat)) ∧ w' = w := Any.bits_Len64 Try.lays129 x w h0 h1
def Try.lays190_ren : Go.Shelf.Ren := ⟨fun | 190 => 33 | 125 => 57 | 258 => 56 | 128 => 80 | 129 => 81 | 302 => 71 | 303 => 72 | 304 => 73 | 305 => 74 | 306 => 75 | 307 => 76 | 308 => 77 | 309 => 78 | 310 => 79 | 333 => 103 | 329 => 104 | 330 => 105 | 334 => 106 | 335 => 107 | 336 => 108 | 344 => 122 | n => n, fun | 31 => 40 | 9 => 9 | 3 => 3 | 46 => 110 | 0 => 0 | 51 => 134 | 53 => 136 | 4 => 4 | 183 => 126 | 182 => 125 | 131 => 131 | 5 => 5 | 218 => 156 | 222 => 160 | 228 => 170 | 229 => 171 | n => n, fun | n => n⟩
theorem Try.lays190 : Go.Proofs.Lays.n190 Try.prog Try.lays190_ren := {
  mixed := by kernel_rfl
  f125 := Try.func57.trans (congrArg some (by kernel_rfl))
  f128 := Try.func80.trans (congrArg some (by kernel_rfl))
  f129 := Try.func81.trans (congrArg some (by kernel_rfl))
  f190 := Try.func33.trans (congrArg some (by kernel_rfl))
  f258 := Try.func56.trans (congrArg some (by kernel_rfl))
  f302 := Try.func71.trans (congrArg some (by kernel_rfl))
  f303 := Try.func72.trans (congrArg some (by kernel_rfl))
  f304 := Try.func73.trans (congrArg some (by kernel_rfl))
  f305 := Try.func74.trans (congrArg some (by kernel_rfl))
  f306 := Try.func75.trans (congrArg some (by kernel_rfl))
  f307 := Try.func76.trans (congrArg some (by kernel_rfl))
  f308 := Try.func77.trans (congrArg some (by kernel_rfl))
  f309 := Try.func78.trans (congrArg some (by kernel_rfl))
  f310 := Try.func79.trans (congrArg some (by kernel_rfl))
  f329 := Try.func104.trans (congrArg some (by kernel_rfl))
  f330 := Try.func105.trans (congrArg some (by kernel_rfl))
  f333 := Try.func103.trans (congrArg some (by kernel_rfl))
  f334 := Try.func106.trans (congrArg some (by kernel_rfl))
  f335 := Try.func107.trans (congrArg some (by kernel_rfl))
  f336 := Try.func108.trans (congrArg some (by kernel_rfl))
  f344 := Try.func122.trans (congrArg some (by kernel_rfl))
  t0 := Try.underlying0
  a0 := Try.isAgg0
  z0 := Try.sizeOf0
  v0 := Try.zeroValue0
  t3 := Try.underlying3
  a3 := Try.isAgg3
  z3 := Try.sizeOf3
  v3 := Try.zeroValue3
  t4 := Try.underlying4
  a4 := Try.isAgg4
  z4 := Try.sizeOf4
  v4 := Try.zeroValue4
  t5 := Try.underlying5
  a5 := Try.isAgg5
  z5 := Try.sizeOf5
  v5 := Try.zeroValue5
  t9 := Try.underlying9
  a9 := Try.isAgg9
  z9 := Try.sizeOf9
  v9 := Try.zeroValue9
  t31 := Try.underlying40
  a31 := Try.isAgg40
  z31 := Try.sizeOf40
  v31 := Try.zeroValue40
  t46 := Try.underlying110
  a46 := Try.isAgg110
  z46 := Try.sizeOf110
  v46 := Try.zeroValue110
  t51 := Try.underlying134
  a51 := Try.isAgg134
  z51 := Try.sizeOf134
  v51 := Try.zeroValue134
  t53 := Try.underlying136
  a53 := Try.isAgg136
  z53 := Try.sizeOf136
  v53 := Try.zeroValue136
  t131 := Try.underlying131
  a131 := Try.isAgg131
  z131 := Try.sizeOf131
  v131 := Try.zeroValue131
  t182 := Try.underlying125
  a182 := Try.isAgg125
  z182 := Try.sizeOf125
  v182 := Try.zeroValue125
  t183 := Try.underlying126
  a183 := Try.isAgg126
  z183 := Try.sizeOf126
  v183 := Try.zeroValue126
  t218 := Try.underlying156
  a218 := Try.isAgg156
  z218 := Try.sizeOf156
  v218 := Try.zeroValue156
  t222 := Try.underlying160
  a222 := Try.isAgg160
  z222 := Try.sizeOf160
  v222 := Try.zeroValue160
  t228 := Try.underlying170
  a228 := Try.isAgg170
  z228 := Try.sizeOf170
  v228 := Try.zeroValue170
  t229 := Try.underlying171
  a229 := Try.isAgg171
  z229 := Try.sizeOf171
  v229 := Try.zeroValue171 }
open Go.Sort Go.RowKit in
theorem Try.slices_Sort_string (blk off cap : Nat) (ss : List (List UInt8)) (w : World) (hH : Holds encStr w blk off ss.toArray) (hblk : blk < w.heap.size) (hsz : ss.length < 4611686018427387904) :
    Calls Try.prog 33 #[.slice (some ⟨blk, off, none⟩) ss.length cap] w fun e w' =>
      e = .returned (.tuple #[]) ∧ ∃ n os, w' = grow (putRow encStr (Sort.ahead w n) blk off (ss.mergeSort fun x y => decide (x ≤ y)).toArray) os := Any.slices_Sort_string Try.lays190 blk off cap ss w hH hblk hsz
def Try.laysGt33_ren : Go.Shelf.Ren := ⟨fun | 33 => 95 | n => n, fun | 45 => 106 | 3 => 3 | 4 => 4 | 0 => 0 | 43 => 52 | 26 => 153 | 38 => 163 | n => n, fun | n => n⟩
theorem Try.laysGt33 : Go.Proofs.LaysGt.n33 Try.prog Try.laysGt33_ren := {
  mixed := by kernel_rfl
  f33 := Try.func95.trans (congrArg some (by kernel_rfl))
  t0 := Try.underlying0
  a0 := Try.isAgg0
  z0 := Try.sizeOf0
  v0 := Try.zeroValue0
  i0 := by kernel_rfl
  t3 := Try.underlying3
  a3 := Try.isAgg3
  z3 := Try.sizeOf3
  v3 := Try.zeroValue3
  i3 := by kernel_rfl
  t4 := Try.underlying4
  a4 := Try.isAgg4
  z4 := Try.sizeOf4
  v4 := Try.zeroValue4
  i4 := by kernel_rfl
  t26 := Try.underlying153
  a26 := Try.isAgg153
  z26 := Try.sizeOf153
  v26 := Try.zeroValue153
  i26 := by kernel_rfl
  t38 := Try.underlying163
  a38 := Try.isAgg163
  z38 := Try.sizeOf163
  v38 := Try.zeroValue163
  i38 := by kernel_rfl
  t43 := Try.underlying52
  a43 := Try.isAgg52
  z43 := Try.sizeOf52
  v43 := Try.zeroValue52
  i43 := by kernel_rfl
  t45 := Try.underlying106
  a45 := Try.isAgg106
  z45 := Try.sizeOf106
  v45 := Try.zeroValue106
  i45 := by kernel_rfl }
open Go.RowKit Go.Lib Go.Sort in
theorem Try.insertionSort_iface {α : Type} [Inhabited α] (T : TypeId) (rv : Value) (gl gs : Nat) (rL : Reaches Try.prog T rv "Less" gl) (rS : Reaches Try.prog T rv "Swap" gs) (enc : α → Value) (lt : α → α → Bool) (blk off a b : Nat) (d : Array α) (w : World) (hless : LessM Try.prog gl rv enc lt blk off d.size w) (hswap : SwapM Try.prog gs rv enc blk off d.size) (hH : Holds enc w blk off d) (hab : a ≤ b) (hb : b ≤ d.size) (hsz : d.size < 4611686018427387904) :
    Calls Try.prog 95 #[.iface T rv, .int .i64 a, .int .i64 b] w fun e w' =>
      e = .returned (.tuple #[]) ∧ ∃ n, w' = putRow enc (Sort.ahead w n) blk off (Sort.insertionSort lt d a b) := Any.insertionSort_iface Try.laysGt33 T rv gl gs rL rS enc lt blk off a b d w hless hswap hH hab hb hsz
open Go.RowKit Go.Lib Go.Sort in
/-- sort.insertionSort, from a world to a 'sortWorld' of it. (LAID: no walk: one application.) -/
theorem Try.insertionSort_iface_w {α : Type} [Inhabited α] (T : TypeId) (rv : Value) (gl gs : Nat) (rL : Reaches Try.prog T rv "Less" gl) (rS : Reaches Try.prog T rv "Swap" gs) (enc : α → Value) (lt : α → α → Bool) (blk off a b : Nat) (d : Array α) (w : World) (hless : LessM Try.prog gl rv enc lt blk off d.size w) (hswap : SwapM Try.prog gs rv enc blk off d.size) (hH : Holds enc w blk off d) (hab : a ≤ b) (hb : b ≤ d.size) (hsz : d.size < 4611686018427387904) :
    Calls Try.prog 95 #[.iface T rv, .int .i64 a, .int .i64 b] w fun e w' => e = .returned (.tuple #[]) ∧ ∃ n os, w' = sortWorld enc w blk off n (Sort.insertionSort lt d a b) os := Any.insertionSort_iface_w Try.laysGt33 T rv gl gs rL rS enc lt blk off a b d w hless hswap hH hab hb hsz
def Try.laysGt37_ren : Go.Shelf.Ren := ⟨fun | 37 => 99 | n => n, fun | 45 => 106 | 3 => 3 | 4 => 4 | 0 => 0 | 43 => 52 | 26 => 153 | 38 => 163 | n => n, fun | n => n⟩
theorem Try.laysGt37 : Go.Proofs.LaysGt.n37 Try.prog Try.laysGt37_ren := {
  mixed := by kernel_rfl
  f37 := Try.func99.trans (congrArg some (by kernel_rfl))
  t0 := Try.underlying0
  a0 := Try.isAgg0
  z0 := Try.sizeOf0
  v0 := Try.zeroValue0
  i0 := by kernel_rfl
  t3 := Try.underlying3
  a3 := Try.isAgg3
  z3 := Try.sizeOf3
  v3 := Try.zeroValue3
  i3 := by kernel_rfl
  t4 := Try.underlying4
  a4 := Try.isAgg4
  z4 := Try.sizeOf4
  v4 := Try.zeroValue4
  i4 := by kernel_rfl
  t26 := Try.underlying153
  a26 := Try.isAgg153
  z26 := Try.sizeOf153
  v26 := Try.zeroValue153
  i26 := by kernel_rfl
  t38 := Try.underlying163
  a38 := Try.isAgg163
  z38 := Try.sizeOf163
  v38 := Try.zeroValue163
  i38 := by kernel_rfl
  t43 := Try.underlying52
  a43 := Try.isAgg52
  z43 := Try.sizeOf52
  v43 := Try.zeroValue52
  i43 := by kernel_rfl
  t45 := Try.underlying106
  a45 := Try.isAgg106
  z45 := Try.sizeOf106
  v45 := Try.zeroValue106
  i45 := by kernel_rfl }
open Go.RowKit Go.Lib Go.Sort in
theorem Try.reverseRange_iface {α : Type} [Inhabited α] (T : TypeId) (rv : Value) (gs : Nat) (rS : Reaches Try.prog T rv "Swap" gs) (enc : α → Value) (blk off a b : Nat) (d : Array α) (w : World) (hswap : SwapM Try.prog gs rv enc blk off d.size) (hH : Holds enc w blk off d) (hab : a ≤ b) (hb : b ≤ d.size) (hsz : d.size < 4611686018427387904) :
    Calls Try.prog 99 #[.iface T rv, .int .i64 a, .int .i64 b] w fun e w' => e = .returned (.tuple #[]) ∧ ∃ n, w' = putRow enc (Sort.ahead w n) blk off (reverseRange d a b) := Any.reverseRange_iface Try.laysGt37 T rv gs rS enc blk off a b d w hswap hH hab hb hsz
open Go.RowKit Go.Lib Go.Sort in
theorem Try.reverseRange_iface_w {α : Type} [Inhabited α] (T : TypeId) (rv : Value) (gs : Nat) (rS : Reaches Try.prog T rv "Swap" gs) (enc : α → Value) (blk off a b : Nat) (d : Array α) (w : World) (hswap : SwapM Try.prog gs rv enc blk off d.size) (hH : Holds enc w blk off d) (hab : a ≤ b) (hb : b ≤ d.size) (hsz : d.size < 4611686018427387904) :
    Calls Try.prog 99 #[.iface T rv, .int .i64 a, .int .i64 b] w fun e w' => e = .returned (.tuple #[]) ∧ ∃ n os, w' = sortWorld enc w blk off n (reverseRange d a b) os := Any.reverseRange_iface_w Try.laysGt37 T rv gs rS enc blk off a b d w hswap hH hab hb hsz
def Try.laysGt50_ren : Go.Shelf.Ren := ⟨fun | 50 => 130 | n => n, fun | 45 => 106 | 3 => 3 | 71 => 160 | 4 => 4 | 0 => 0 | 43 => 52 | 26 => 153 | 38 => 163 | n => n, fun | n => n⟩
theorem Try.laysGt50 : Go.Proofs.LaysGt.n50 Try.prog Try.laysGt50_ren := {
  mixed := by kernel_rfl
  f50 := Try.func130.trans (congrArg some (by kernel_rfl))
  t0 := Try.underlying0
  a0 := Try.isAgg0
  z0 := Try.sizeOf0
  v0 := Try.zeroValue0
  i0 := by kernel_rfl
  t3 := Try.underlying3
  a3 := Try.isAgg3
  z3 := Try.sizeOf3
  v3 := Try.zeroValue3
  i3 := by kernel_rfl
  t4 := Try.underlying4
  a4 := Try.isAgg4
  z4 := Try.sizeOf4
  v4 := Try.zeroValue4
  i4 := by kernel_rfl
  t26 := Try.underlying153
  a26 := Try.isAgg153
  z26 := Try.sizeOf153
  v26 := Try.zeroValue153
  i26 := by kernel_rfl
  t38 := Try.underlying163
  a38 := Try.isAgg163
  z38 := Try.sizeOf163
  v38 := Try.zeroValue163
  i38 := by kernel_rfl
  t43 := Try.underlying52
  a43 := Try.isAgg52
  z43 := Try.sizeOf52
  v43 := Try.zeroValue52
  i43 := by kernel_rfl
  t45 := Try.underlying106
  a45 := Try.isAgg106
  z45 := Try.sizeOf106
  v45 := Try.zeroValue106
  i45 := by kernel_rfl
  t71 := Try.underlying160
  a71 := Try.isAgg160
  z71 := Try.sizeOf160
  v71 := Try.zeroValue160
  i71 := by kernel_rfl }
open Go.RowKit Go.Lib Go.Sort in
theorem Try.order2_iface {α : Type} [Inhabited α] (T : TypeId) (rv : Value) (gl : Nat) (rL : Reaches Try.prog T rv "Less" gl) (enc : α → Value) (lt : α → α → Bool) (blk off : Nat) (w0 W : World) (d : Array α) (a b cb co s : Nat) (hL : LessM Try.prog gl rv enc lt blk off d.size w0) (hW : SW enc w0 blk off d W) (ha : a < d.size) (hb : b < d.size) (hS : Holds (Value.int .i64) W cb co (one s)) (hs : s < 4611686018427387904) :
    Calls Try.prog 130 #[.iface T rv, .int .i64 a, .int .i64 b, .pointer (some ⟨cb, co, none⟩)] W fun e w' =>
      e = .returned (.tuple #[.int .i64 (order2 lt d a b s).1, .int .i64 (order2 lt d a b s).2.1]) ∧ ∃ n os, w' = sortWorld (Value.int .i64) W cb co n (one (order2 lt d a b s).2.2) os := Any.order2_iface Try.laysGt50 T rv gl rL enc lt blk off w0 W d a b cb co s hL hW ha hb hS hs
def Try.laysGt47_ren : Go.Shelf.Ren := ⟨fun | 47 => 121 | 50 => 130 | n => n, fun | 45 => 106 | 3 => 3 | 71 => 160 | 74 => 171 | 4 => 4 | 0 => 0 | 43 => 52 | 26 => 153 | 38 => 163 | n => n, fun | n => n⟩
theorem Try.laysGt47 : Go.Proofs.LaysGt.n47 Try.prog Try.laysGt47_ren := {
  mixed := by kernel_rfl
  f47 := Try.func121.trans (congrArg some (by kernel_rfl))
  f50 := Try.func130.trans (congrArg some (by kernel_rfl))
  t0 := Try.underlying0
  a0 := Try.isAgg0
  z0 := Try.sizeOf0
  v0 := Try.zeroValue0
  i0 := by kernel_rfl
  t3 := Try.underlying3
  a3 := Try.isAgg3
  z3 := Try.sizeOf3
  v3 := Try.zeroValue3
  i3 := by kernel_rfl
  t4 := Try.underlying4
  a4 := Try.isAgg4
  z4 := Try.sizeOf4
  v4 := Try.zeroValue4
  i4 := by kernel_rfl
  t26 := Try.underlying153
  a26 := Try.isAgg153
  z26 := Try.sizeOf153
  v26 := Try.zeroValue153
  i26 := by kernel_rfl
  t38 := Try.underlying163
  a38 := Try.isAgg163
  z38 := Try.sizeOf163
  v38 := Try.zeroValue163
  i38 := by kernel_rfl
  t43 := Try.underlying52
  a43 := Try.isAgg52
  z43 := Try.sizeOf52
  v43 := Try.zeroValue52
  i43 := by kernel_rfl
  t45 := Try.underlying106
  a45 := Try.isAgg106
  z45 := Try.sizeOf106
  v45 := Try.zeroValue106
  i45 := by kernel_rfl
  t71 := Try.underlying160
  a71 := Try.isAgg160
  z71 := Try.sizeOf160
  v71 := Try.zeroValue160
  i71 := by kernel_rfl
  t74 := Try.underlying171
  a74 := Try.isAgg171
  z74 := Try.sizeOf171
  v74 := Try.zeroValue171
  i74 := by kernel_rfl }
open Go.RowKit Go.Lib Go.Sort in
theorem Try.median_iface {α : Type} [Inhabited α] (T : TypeId) (rv : Value) (gl : Nat) (rL : Reaches Try.prog T rv "Less" gl) (enc : α → Value) (lt : α → α → Bool) (blk off : Nat) (w0 W : World) (d : Array α) (a b c cb co s : Nat) (hL : LessM Try.prog gl rv enc lt blk off d.size w0) (hW : SW enc w0 blk off d W) (ha : a < d.size) (hb : b < d.size) (hc : c < d.size) (hS : Holds (Value.int .i64) W cb co (one s)) (hcb0 : w0.heap.size ≤ cb) (hcb : cb < W.heap.size) (hs : s + 3 < 4611686018427387904) :
    Calls Try.prog 121 #[.iface T rv, .int .i64 a, .int .i64 b, .int .i64 c, .pointer (some ⟨cb, co, none⟩)] W fun e w' =>
      e = .returned (.int .i64 (median lt d a b c s).1) ∧ ∃ n os, w' = sortWorld (Value.int .i64) W cb co n (one (median lt d a b c s).2) os := Any.median_iface Try.laysGt47 T rv gl rL enc lt blk off w0 W d a b c cb co s hL hW ha hb hc hS hcb0 hcb hs
def Try.laysGt46_ren : Go.Shelf.Ren := ⟨fun | 46 => 120 | 47 => 121 | 50 => 130 | n => n, fun | 45 => 106 | 3 => 3 | 71 => 160 | 74 => 171 | 4 => 4 | 0 => 0 | 43 => 52 | 26 => 153 | 38 => 163 | n => n, fun | n => n⟩
theorem Try.laysGt46 : Go.Proofs.LaysGt.n46 Try.prog Try.laysGt46_ren := {
  mixed := by kernel_rfl
  f46 := Try.func120.trans (congrArg some (by kernel_rfl))
  f47 := Try.func121.trans (congrArg some (by kernel_rfl))
  f50 := Try.func130.trans (congrArg some (by kernel_rfl))
  t0 := Try.underlying0
  a0 := Try.isAgg0
  z0 := Try.sizeOf0
  v0 := Try.zeroValue0
  i0 := by kernel_rfl
  t3 := Try.underlying3
  a3 := Try.isAgg3
  z3 := Try.sizeOf3
  v3 := Try.zeroValue3
  i3 := by kernel_rfl
  t4 := Try.underlying4
  a4 := Try.isAgg4
  z4 := Try.sizeOf4
  v4 := Try.zeroValue4
  i4 := by kernel_rfl
  t26 := Try.underlying153
  a26 := Try.isAgg153
  z26 := Try.sizeOf153
  v26 := Try.zeroValue153
  i26 := by kernel_rfl
  t38 := Try.underlying163
  a38 := Try.isAgg163
  z38 := Try.sizeOf163
  v38 := Try.zeroValue163
  i38 := by kernel_rfl
  t43 := Try.underlying52
  a43 := Try.isAgg52
  z43 := Try.sizeOf52
  v43 := Try.zeroValue52
  i43 := by kernel_rfl
  t45 := Try.underlying106
  a45 := Try.isAgg106
  z45 := Try.sizeOf106
  v45 := Try.zeroValue106
  i45 := by kernel_rfl
  t71 := Try.underlying160
  a71 := Try.isAgg160
  z71 := Try.sizeOf160
  v71 := Try.zeroValue160
  i71 := by kernel_rfl
  t74 := Try.underlying171
  a74 := Try.isAgg171
  z74 := Try.sizeOf171
  v74 := Try.zeroValue171
  i74 := by kernel_rfl }
open Go.RowKit Go.Lib Go.Sort in
theorem Try.medianAdjacent_iface {α : Type} [Inhabited α] (T : TypeId) (rv : Value) (gl : Nat) (rL : Reaches Try.prog T rv "Less" gl) (enc : α → Value) (lt : α → α → Bool) (blk off : Nat) (w0 W : World) (d : Array α) (a cb co s : Nat) (hL : LessM Try.prog gl rv enc lt blk off d.size w0) (hW : SW enc w0 blk off d W) (ha1 : 1 ≤ a) (ha2 : a + 1 < d.size) (hsz : d.size < 4611686018427387904) (hS : Holds (Value.int .i64) W cb co (one s)) (hcb0 : w0.heap.size ≤ cb) (hcb : cb < W.heap.size) (hs : s + 3 < 4611686018427387904) :
    Calls Try.prog 120 #[.iface T rv, .int .i64 a, .pointer (some ⟨cb, co, none⟩)] W fun e w' =>
      e = .returned (.int .i64 (medianAdjacent lt d a s).1) ∧ ∃ n os, w' = sortWorld (Value.int .i64) W cb co n (one (medianAdjacent lt d a s).2) os := Any.medianAdjacent_iface Try.laysGt46 T rv gl rL enc lt blk off w0 W d a cb co s hL hW ha1 ha2 hsz hS hcb0 hcb hs
def Try.laysGt36_ren : Go.Shelf.Ren := ⟨fun | 36 => 98 | 46 => 120 | 47 => 121 | 50 => 130 | n => n, fun | 45 => 106 | 3 => 3 | 60 => 149 | 0 => 0 | 4 => 4 | 71 => 160 | 74 => 171 | 43 => 52 | 26 => 153 | 38 => 163 | n => n, fun | n => n⟩
theorem Try.laysGt36 : Go.Proofs.LaysGt.n36 Try.prog Try.laysGt36_ren := {
  mixed := by kernel_rfl
  f36 := Try.func98.trans (congrArg some (by kernel_rfl))
  f46 := Try.func120.trans (congrArg some (by kernel_rfl))
  f47 := Try.func121.trans (congrArg some (by kernel_rfl))
  f50 := Try.func130.trans (congrArg some (by kernel_rfl))
  t0 := Try.underlying0
  a0 := Try.isAgg0
  z0 := Try.sizeOf0
  v0 := Try.zeroValue0
  i0 := by kernel_rfl
  t3 := Try.underlying3
  a3 := Try.isAgg3
  z3 := Try.sizeOf3
  v3 := Try.zeroValue3
  i3 := by kernel_rfl
  t4 := Try.underlying4
  a4 := Try.isAgg4
  z4 := Try.sizeOf4
  v4 := Try.zeroValue4
  i4 := by kernel_rfl
  t26 := Try.underlying153
  a26 := Try.isAgg153
  z26 := Try.sizeOf153
  v26 := Try.zeroValue153
  i26 := by kernel_rfl
  t38 := Try.underlying163
  a38 := Try.isAgg163
  z38 := Try.sizeOf163
  v38 := Try.zeroValue163
  i38 := by kernel_rfl
  t43 := Try.underlying52
  a43 := Try.isAgg52
  z43 := Try.sizeOf52
  v43 := Try.zeroValue52
  i43 := by kernel_rfl
  t45 := Try.underlying106
  a45 := Try.isAgg106
  z45 := Try.sizeOf106
  v45 := Try.zeroValue106
  i45 := by kernel_rfl
  t60 := Try.underlying149
  a60 := Try.isAgg149
  z60 := Try.sizeOf149
  v60 := Try.zeroValue149
  i60 := by kernel_rfl
  t71 := Try.underlying160
  a71 := Try.isAgg160
  z71 := Try.sizeOf160
  v71 := Try.zeroValue160
  i71 := by kernel_rfl
  t74 := Try.underlying171
  a74 := Try.isAgg171
  z74 := Try.sizeOf171
  v74 := Try.zeroValue171
  i74 := by kernel_rfl }
open Go.RowKit Go.Lib Go.Sort in
/-- sort.choosePivot (zsortinterface.go): THE LIBRARY's OWN TEXT COMPUTES 'Sort.choosePivot lt d a b'; the row is not turned; W is grown. (Derived/Shelf/GgSortFunc/Pivot.lean's text, turned by program.) (LAID: no walk: one application.) -/
theorem Try.choosePivot_iface {α : Type} [Inhabited α] (T : TypeId) (rv : Value) (gl : Nat) (rL : Reaches Try.prog T rv "Less" gl) (enc : α → Value) (lt : α → α → Bool) (blk off a b : Nat) (W : World) (d : Array α) (hless : LessM Try.prog gl rv enc lt blk off d.size W) (hH : Holds enc W blk off d) (hab : a < b) (hb : b ≤ d.size) (hsz : d.size < 4611686018427387904) :
    Calls Try.prog 98 #[.iface T rv, .int .i64 a, .int .i64 b] W fun e w' =>
      e = .returned (.tuple #[.int .i64 (choosePivot lt d a b).1, .int .i64 (hintCode (choosePivot lt d a b).2)]) ∧ ∃ n os, w' = grow (Sort.ahead W n) os := Any.choosePivot_iface Try.laysGt36 T rv gl rL enc lt blk off a b W d hless hH hab hb hsz
def Try.laysGt39_ren : Go.Shelf.Ren := ⟨fun | 39 => 101 | n => n, fun | 45 => 106 | 3 => 3 | 0 => 0 | 4 => 4 | 43 => 52 | 26 => 153 | 38 => 163 | n => n, fun | n => n⟩
theorem Try.laysGt39 : Go.Proofs.LaysGt.n39 Try.prog Try.laysGt39_ren := {
  mixed := by kernel_rfl
  f39 := Try.func101.trans (congrArg some (by kernel_rfl))
  t0 := Try.underlying0
  a0 := Try.isAgg0
  z0 := Try.sizeOf0
  v0 := Try.zeroValue0
  i0 := by kernel_rfl
  t3 := Try.underlying3
  a3 := Try.isAgg3
  z3 := Try.sizeOf3
  v3 := Try.zeroValue3
  i3 := by kernel_rfl
  t4 := Try.underlying4
  a4 := Try.isAgg4
  z4 := Try.sizeOf4
  v4 := Try.zeroValue4
  i4 := by kernel_rfl
  t26 := Try.underlying153
  a26 := Try.isAgg153
  z26 := Try.sizeOf153
  v26 := Try.zeroValue153
  i26 := by kernel_rfl
  t38 := Try.underlying163
  a38 := Try.isAgg163
  z38 := Try.sizeOf163
  v38 := Try.zeroValue163
  i38 := by kernel_rfl
  t43 := Try.underlying52
  a43 := Try.isAgg52
  z43 := Try.sizeOf52
  v43 := Try.zeroValue52
  i43 := by kernel_rfl
  t45 := Try.underlying106
  a45 := Try.isAgg106
  z45 := Try.sizeOf106
  v45 := Try.zeroValue106
  i45 := by kernel_rfl }
open Go.RowKit Go.Lib Go.Sort in
theorem Try.partitionEqual_iface {α : Type} [Inhabited α] (T : TypeId) (rv : Value) (gl gs : Nat) (rL : Reaches Try.prog T rv "Less" gl) (rS : Reaches Try.prog T rv "Swap" gs) (enc : α → Value) (lt : α → α → Bool) (blk off a b pivot : Nat) (d : Array α) (W : World) (hless : LessM Try.prog gl rv enc lt blk off d.size W) (hswap : SwapM Try.prog gs rv enc blk off d.size) (hH : Holds enc W blk off d) (hap : a ≤ pivot) (hpb : pivot < b) (hb : b ≤ d.size) (hsz : d.size < 4611686018427387904) :
    Calls Try.prog 101 #[.iface T rv, .int .i64 a, .int .i64 b, .int .i64 pivot] W fun e w' =>
      e = .returned (.int .i64 (Sort.partitionEqual lt d a b pivot).1) ∧ ∃ n, w' = (putRow enc W blk off (Sort.partitionEqual lt d a b pivot).2).drewN n := Any.partitionEqual_iface Try.laysGt39 T rv gl gs rL rS enc lt blk off a b pivot d W hless hswap hH hap hpb hb hsz
def Try.laysGt40_ren : Go.Shelf.Ren := ⟨fun | 40 => 102 | n => n, fun | 45 => 106 | 3 => 3 | 4 => 4 | 0 => 0 | 43 => 52 | 26 => 153 | 38 => 163 | n => n, fun | n => n⟩
theorem Try.laysGt40 : Go.Proofs.LaysGt.n40 Try.prog Try.laysGt40_ren := {
  mixed := by kernel_rfl
  f40 := Try.func102.trans (congrArg some (by kernel_rfl))
  t0 := Try.underlying0
  a0 := Try.isAgg0
  z0 := Try.sizeOf0
  v0 := Try.zeroValue0
  i0 := by kernel_rfl
  t3 := Try.underlying3
  a3 := Try.isAgg3
  z3 := Try.sizeOf3
  v3 := Try.zeroValue3
  i3 := by kernel_rfl
  t4 := Try.underlying4
  a4 := Try.isAgg4
  z4 := Try.sizeOf4
  v4 := Try.zeroValue4
  i4 := by kernel_rfl
  t26 := Try.underlying153
  a26 := Try.isAgg153
  z26 := Try.sizeOf153
  v26 := Try.zeroValue153
  i26 := by kernel_rfl
  t38 := Try.underlying163
  a38 := Try.isAgg163
  z38 := Try.sizeOf163
  v38 := Try.zeroValue163
  i38 := by kernel_rfl
  t43 := Try.underlying52
  a43 := Try.isAgg52
  z43 := Try.sizeOf52
  v43 := Try.zeroValue52
  i43 := by kernel_rfl
  t45 := Try.underlying106
  a45 := Try.isAgg106
  z45 := Try.sizeOf106
  v45 := Try.zeroValue106
  i45 := by kernel_rfl }
open Go.RowKit Go.Lib Go.Sort in
theorem Try.partition_iface {α : Type} [Inhabited α] (T : TypeId) (rv : Value) (gl gs : Nat) (rL : Reaches Try.prog T rv "Less" gl) (rS : Reaches Try.prog T rv "Swap" gs) (enc : α → Value) (lt : α → α → Bool) (blk off a b pivot : Nat) (d : Array α) (W : World) (hless : LessM Try.prog gl rv enc lt blk off d.size W) (hswap : SwapM Try.prog gs rv enc blk off d.size) (hH : Holds enc W blk off d) (hap : a ≤ pivot) (hpb : pivot < b) (hb : b ≤ d.size) (hsz : d.size < 4611686018427387904) :
    Calls Try.prog 102 #[.iface T rv, .int .i64 a, .int .i64 b, .int .i64 pivot] W fun e w' =>
      e = .returned (.tuple #[.int .i64 (Sort.partition lt d a b pivot).1, .bool (Sort.partition lt d a b pivot).2.1]) ∧ ∃ n, w' = (putRow enc W blk off (Sort.partition lt d a b pivot).2.2).drewN n := Any.partition_iface Try.laysGt40 T rv gl gs rL rS enc lt blk off a b pivot d W hless hswap hH hap hpb hb hsz
open Go.RowKit Go.Lib Go.Sort in
theorem Try.partitionEqual_iface_w {α : Type} [Inhabited α] (T : TypeId) (rv : Value) (gl gs : Nat) (rL : Reaches Try.prog T rv "Less" gl) (rS : Reaches Try.prog T rv "Swap" gs) (enc : α → Value) (lt : α → α → Bool) (blk off a b pivot : Nat) (d : Array α) (W : World) (hless : LessM Try.prog gl rv enc lt blk off d.size W) (hswap : SwapM Try.prog gs rv enc blk off d.size) (hH : Holds enc W blk off d) (hap : a ≤ pivot) (hpb : pivot < b) (hb : b ≤ d.size) (hsz : d.size < 4611686018427387904) :
    Calls Try.prog 101 #[.iface T rv, .int .i64 a, .int .i64 b, .int .i64 pivot] W fun e w' => e = .returned (.int .i64 (Sort.partitionEqual lt d a b pivot).1) ∧ ∃ n os, w' = sortWorld enc W blk off n (Sort.partitionEqual lt d a b pivot).2 os := Any.partitionEqual_iface_w Try.laysGt39 T rv gl gs rL rS enc lt blk off a b pivot d W hless hswap hH hap hpb hb hsz
open Go.RowKit Go.Lib Go.Sort in
theorem Try.partition_iface_w {α : Type} [Inhabited α] (T : TypeId) (rv : Value) (gl gs : Nat) (rL : Reaches Try.prog T rv "Less" gl) (rS : Reaches Try.prog T rv "Swap" gs) (enc : α → Value) (lt : α → α → Bool) (blk off a b pivot : Nat) (d : Array α) (W : World) (hless : LessM Try.prog gl rv enc lt blk off d.size W) (hswap : SwapM Try.prog gs rv enc blk off d.size) (hH : Holds enc W blk off d) (hap : a ≤ pivot) (hpb : pivot < b) (hb : b ≤ d.size) (hsz : d.size < 4611686018427387904) :
    Calls Try.prog 102 #[.iface T rv, .int .i64 a, .int .i64 b, .int .i64 pivot] W fun e w' => e = .returned (.tuple #[.int .i64 (Sort.partition lt d a b pivot).1, .bool (Sort.partition lt d a b pivot).2.1]) ∧ ∃ n os, w' = sortWorld enc W blk off n (Sort.partition lt d a b pivot).2.2 os := Any.partition_iface_w Try.laysGt40 T rv gl gs rL rS enc lt blk off a b pivot d W hless hswap hH hap hpb hb hsz
def Try.laysGt18_ren : Go.Shelf.Ren := ⟨fun | 18 => 70 | 33 => 95 | 34 => 96 | 35 => 97 | 36 => 98 | 37 => 99 | 38 => 100 | 39 => 101 | 40 => 102 | 43 => 117 | 44 => 118 | 45 => 119 | 46 => 120 | 47 => 121 | 17 => 57 | 50 => 130 | 31 => 80 | 32 => 81 | n => n, fun | 45 => 106 | 3 => 3 | 4 => 4 | 0 => 0 | 61 => 150 | 60 => 149 | 65 => 131 | 67 => 167 | 47 => 110 | 58 => 136 | 71 => 160 | 73 => 178 | 74 => 171 | 56 => 134 | 5 => 5 | 9 => 9 | 43 => 52 | 26 => 153 | 38 => 163 | n => n, fun | n => n⟩
theorem Try.laysGt18 : Go.Proofs.LaysGt.n18 Try.prog Try.laysGt18_ren := {
  mixed := by kernel_rfl
  f17 := Try.func57.trans (congrArg some (by kernel_rfl))
  f18 := Try.func70.trans (congrArg some (by kernel_rfl))
  f31 := Try.func80.trans (congrArg some (by kernel_rfl))
  f32 := Try.func81.trans (congrArg some (by kernel_rfl))
  f33 := Try.func95.trans (congrArg some (by kernel_rfl))
  f34 := Try.func96.trans (congrArg some (by kernel_rfl))
  f35 := Try.func97.trans (congrArg some (by kernel_rfl))
  f36 := Try.func98.trans (congrArg some (by kernel_rfl))
  f37 := Try.func99.trans (congrArg some (by kernel_rfl))
  f38 := Try.func100.trans (congrArg some (by kernel_rfl))
  f39 := Try.func101.trans (congrArg some (by kernel_rfl))
  f40 := Try.func102.trans (congrArg some (by kernel_rfl))
  f43 := Try.func117.trans (congrArg some (by kernel_rfl))
  f44 := Try.func118.trans (congrArg some (by kernel_rfl))
  f45 := Try.func119.trans (congrArg some (by kernel_rfl))
  f46 := Try.func120.trans (congrArg some (by kernel_rfl))
  f47 := Try.func121.trans (congrArg some (by kernel_rfl))
  f50 := Try.func130.trans (congrArg some (by kernel_rfl))
  t0 := Try.underlying0
  a0 := Try.isAgg0
  z0 := Try.sizeOf0
  v0 := Try.zeroValue0
  i0 := by kernel_rfl
  t3 := Try.underlying3
  a3 := Try.isAgg3
  z3 := Try.sizeOf3
  v3 := Try.zeroValue3
  i3 := by kernel_rfl
  t4 := Try.underlying4
  a4 := Try.isAgg4
  z4 := Try.sizeOf4
  v4 := Try.zeroValue4
  i4 := by kernel_rfl
  t5 := Try.underlying5
  a5 := Try.isAgg5
  z5 := Try.sizeOf5
  v5 := Try.zeroValue5
  i5 := by kernel_rfl
  t9 := Try.underlying9
  a9 := Try.isAgg9
  z9 := Try.sizeOf9
  v9 := Try.zeroValue9
  i9 := by kernel_rfl
  t26 := Try.underlying153
  a26 := Try.isAgg153
  z26 := Try.sizeOf153
  v26 := Try.zeroValue153
  i26 := by kernel_rfl
  t38 := Try.underlying163
  a38 := Try.isAgg163
  z38 := Try.sizeOf163
  v38 := Try.zeroValue163
  i38 := by kernel_rfl
  t43 := Try.underlying52
  a43 := Try.isAgg52
  z43 := Try.sizeOf52
  v43 := Try.zeroValue52
  i43 := by kernel_rfl
  t45 := Try.underlying106
  a45 := Try.isAgg106
  z45 := Try.sizeOf106
  v45 := Try.zeroValue106
  i45 := by kernel_rfl
  t47 := Try.underlying110
  a47 := Try.isAgg110
  z47 := Try.sizeOf110
  v47 := Try.zeroValue110
  i47 := by kernel_rfl
  t56 := Try.underlying134
  a56 := Try.isAgg134
  z56 := Try.sizeOf134
  v56 := Try.zeroValue134
  i56 := by kernel_rfl
  t58 := Try.underlying136
  a58 := Try.isAgg136
  z58 := Try.sizeOf136
  v58 := Try.zeroValue136
  i58 := by kernel_rfl
  t60 := Try.underlying149
  a60 := Try.isAgg149
  z60 := Try.sizeOf149
  v60 := Try.zeroValue149
  i60 := by kernel_rfl
  t61 := Try.underlying150
  a61 := Try.isAgg150
  z61 := Try.sizeOf150
  v61 := Try.zeroValue150
  i61 := by kernel_rfl
  t65 := Try.underlying131
  a65 := Try.isAgg131
  z65 := Try.sizeOf131
  v65 := Try.zeroValue131
  i65 := by kernel_rfl
  t67 := Try.underlying167
  a67 := Try.isAgg167
  z67 := Try.sizeOf167
  v67 := Try.zeroValue167
  i67 := by kernel_rfl
  t71 := Try.underlying160
  a71 := Try.isAgg160
  z71 := Try.sizeOf160
  v71 := Try.zeroValue160
  i71 := by kernel_rfl
  t73 := Try.underlying178
  a73 := Try.isAgg178
  z73 := Try.sizeOf178
  v73 := Try.zeroValue178
  i73 := by kernel_rfl
  t74 := Try.underlying171
  a74 := Try.isAgg171
  z74 := Try.sizeOf171
  v74 := Try.zeroValue171
  i74 := by kernel_rfl }
open Go.RowKit Go.Lib Go.Sort in
theorem Try.pdqsort_iface {α : Type} [Inhabited α] (T : TypeId) (rv : Value) (gl gs : Nat) (rL : Reaches Try.prog T rv "Less" gl) (rS : Reaches Try.prog T rv "Swap" gs) (enc : α → Value) (lt : α → α → Bool) (hO : SWO lt) (C : IfaceThree Try.prog Try.laysGt18_ren T rv gl gs enc lt) :
    ∀ (N blk off a b limit : Nat) (d : Array α) (w : World), b - a < N → LessM Try.prog gl rv enc lt blk off d.size w → SwapM Try.prog gs rv enc blk off d.size → Holds enc w blk off d → blk < w.heap.size → a ≤ b → b ≤ d.size → d.size < 4611686018427387904 → limit < 4611686018427387904 → Below lt a b d →
    Calls Try.prog 70 #[.iface T rv, .int .i64 a, .int .i64 b, .int .i64 limit] w fun e w' => e = .returned (.tuple #[]) ∧ At enc w blk off (pdq lt d a b limit true true) w' := Any.pdqsort_iface Try.laysGt18 T rv gl gs rL rS enc lt hO C
def Try.laysGt11_ren : Go.Shelf.Ren := ⟨fun | 11 => 54 | 17 => 57 | 18 => 70 | 31 => 80 | 32 => 81 | 33 => 95 | 34 => 96 | 35 => 97 | 36 => 98 | 37 => 99 | 38 => 100 | 39 => 101 | 40 => 102 | 43 => 117 | 44 => 118 | 45 => 119 | 46 => 120 | 47 => 121 | 50 => 130 | n => n, fun | 45 => 106 | 3 => 3 | 4 => 4 | 47 => 110 | 0 => 0 | 56 => 134 | 58 => 136 | 61 => 150 | 60 => 149 | 65 => 131 | 5 => 5 | 9 => 9 | 67 => 167 | 71 => 160 | 73 => 178 | 74 => 171 | 43 => 52 | 26 => 153 | 38 => 163 | n => n, fun | n => n⟩
theorem Try.laysGt11 : Go.Proofs.LaysGt.n11 Try.prog Try.laysGt11_ren := {
  mixed := by kernel_rfl
  f11 := Try.func54.trans (congrArg some (by kernel_rfl))
  f17 := Try.func57.trans (congrArg some (by kernel_rfl))
  f18 := Try.func70.trans (congrArg some (by kernel_rfl))
  f31 := Try.func80.trans (congrArg some (by kernel_rfl))
  f32 := Try.func81.trans (congrArg some (by kernel_rfl))
  f33 := Try.func95.trans (congrArg some (by kernel_rfl))
  f34 := Try.func96.trans (congrArg some (by kernel_rfl))
  f35 := Try.func97.trans (congrArg some (by kernel_rfl))
  f36 := Try.func98.trans (congrArg some (by kernel_rfl))
  f37 := Try.func99.trans (congrArg some (by kernel_rfl))
  f38 := Try.func100.trans (congrArg some (by kernel_rfl))
  f39 := Try.func101.trans (congrArg some (by kernel_rfl))
  f40 := Try.func102.trans (congrArg some (by kernel_rfl))
  f43 := Try.func117.trans (congrArg some (by kernel_rfl))
  f44 := Try.func118.trans (congrArg some (by kernel_rfl))
  f45 := Try.func119.trans (congrArg some (by kernel_rfl))
  f46 := Try.func120.trans (congrArg some (by kernel_rfl))
  f47 := Try.func121.trans (congrArg some (by kernel_rfl))
  f50 := Try.func130.trans (congrArg some (by kernel_rfl))
  t0 := Try.underlying0
  a0 := Try.isAgg0
  z0 := Try.sizeOf0
  v0 := Try.zeroValue0
  i0 := by kernel_rfl
  t3 := Try.underlying3
  a3 := Try.isAgg3
  z3 := Try.sizeOf3
  v3 := Try.zeroValue3
  i3 := by kernel_rfl
  t4 := Try.underlying4
  a4 := Try.isAgg4
  z4 := Try.sizeOf4
  v4 := Try.zeroValue4
  i4 := by kernel_rfl
  t5 := Try.underlying5
  a5 := Try.isAgg5
  z5 := Try.sizeOf5
  v5 := Try.zeroValue5
  i5 := by kernel_rfl
  t9 := Try.underlying9
  a9 := Try.isAgg9
  z9 := Try.sizeOf9
  v9 := Try.zeroValue9
  i9 := by kernel_rfl
  t26 := Try.underlying153
  a26 := Try.isAgg153
  z26 := Try.sizeOf153
  v26 := Try.zeroValue153
  i26 := by kernel_rfl
  t38 := Try.underlying163
  a38 := Try.isAgg163
  z38 := Try.sizeOf163
  v38 := Try.zeroValue163
  i38 := by kernel_rfl
  t43 := Try.underlying52
  a43 := Try.isAgg52
  z43 := Try.sizeOf52
  v43 := Try.zeroValue52
  i43 := by kernel_rfl
  t45 := Try.underlying106
  a45 := Try.isAgg106
  z45 := Try.sizeOf106
  v45 := Try.zeroValue106
  i45 := by kernel_rfl
  t47 := Try.underlying110
  a47 := Try.isAgg110
  z47 := Try.sizeOf110
  v47 := Try.zeroValue110
  i47 := by kernel_rfl
  t56 := Try.underlying134
  a56 := Try.isAgg134
  z56 := Try.sizeOf134
  v56 := Try.zeroValue134
  i56 := by kernel_rfl
  t58 := Try.underlying136
  a58 := Try.isAgg136
  z58 := Try.sizeOf136
  v58 := Try.zeroValue136
  i58 := by kernel_rfl
  t60 := Try.underlying149
  a60 := Try.isAgg149
  z60 := Try.sizeOf149
  v60 := Try.zeroValue149
  i60 := by kernel_rfl
  t61 := Try.underlying150
  a61 := Try.isAgg150
  z61 := Try.sizeOf150
  v61 := Try.zeroValue150
  i61 := by kernel_rfl
  t65 := Try.underlying131
  a65 := Try.isAgg131
  z65 := Try.sizeOf131
  v65 := Try.zeroValue131
  i65 := by kernel_rfl
  t67 := Try.underlying167
  a67 := Try.isAgg167
  z67 := Try.sizeOf167
  v67 := Try.zeroValue167
  i67 := by kernel_rfl
  t71 := Try.underlying160
  a71 := Try.isAgg160
  z71 := Try.sizeOf160
  v71 := Try.zeroValue160
  i71 := by kernel_rfl
  t73 := Try.underlying178
  a73 := Try.isAgg178
  z73 := Try.sizeOf178
  v73 := Try.zeroValue178
  i73 := by kernel_rfl
  t74 := Try.underlying171
  a74 := Try.isAgg171
  z74 := Try.sizeOf171
  v74 := Try.zeroValue171
  i74 := by kernel_rfl }
open Go.RowKit Go.Lib Go.Sort in
theorem Try.sort_Sort_tiny {α : Type} [Inhabited α] (T : TypeId) (rv : Value) (gn : Nat) (rN : Reaches Try.prog T rv "Len" gn) (n : Nat) (hn : n ≤ 1) (w : World) (hlen : LenM Try.prog gn rv n w) :
    Calls Try.prog 54 #[.iface T rv] w fun e w' => e = .returned (.tuple #[]) ∧ ∃ q, w' = w.drewN q := Any.sort_Sort_tiny Try.laysGt11 T rv gn rN n hn w hlen
open Go.RowKit Go.Lib Go.Sort in
/-- **sort.Sort: WHAT THE ROW HOLDS, TO THE ELEMENT.** (LAID: no walk: one application.) -/
theorem Try.sort_Sort_eq {α : Type} [Inhabited α] (T : TypeId) (rv : Value) (gn gl gs : Nat) (rN : Reaches Try.prog T rv "Len" gn) (rL : Reaches Try.prog T rv "Less" gl) (rS : Reaches Try.prog T rv "Swap" gs) (enc : α → Value) (lt : α → α → Bool) (hO : SWO lt) (blk off : Nat) (d : Array α) (h2 : 2 ≤ d.size) (hsz : d.size < 4611686018427387904) (w : World) (hlen : LenM Try.prog gn rv d.size w) (hless : LessM Try.prog gl rv enc lt blk off d.size w) (hswap : SwapM Try.prog gs rv enc blk off d.size) (hH : Holds enc w blk off d) (hblk : blk < w.heap.size) :
    Calls Try.prog 54 #[.iface T rv] w fun e w' => e = .returned (.tuple #[]) ∧ ∃ n os, w' = grow (putRow enc (Sort.ahead w n) blk off (pdq lt d 0 d.size (Lib.bitLen d.size) true true)) os := Any.sort_Sort_eq Try.laysGt11 T rv gn gl gs rN rL rS enc lt hO blk off d h2 hsz w hlen hless hswap hH hblk
open Go.RowKit Go.Lib Go.Sort in
/-- **sort.Sort, IN THE DOCUMENTATION's OWN TERMS ("Sort sorts data in ascending order as determined by the Less method. .. The sort is not guaranteed to be stable"): A PERMUTATION OF WHAT THE ROW HELD, SORTED BY 'lt'.** (LAID: no walk: one application.) -/
theorem Try.sort_Sort_sorted {α : Type} [Inhabited α] (T : TypeId) (rv : Value) (gn gl gs : Nat) (rN : Reaches Try.prog T rv "Len" gn) (rL : Reaches Try.prog T rv "Less" gl) (rS : Reaches Try.prog T rv "Swap" gs) (enc : α → Value) (lt : α → α → Bool) (hO : SWO lt) (blk off : Nat) (d : Array α) (h2 : 2 ≤ d.size) (hsz : d.size < 4611686018427387904) (w : World) (hlen : LenM Try.prog gn rv d.size w) (hless : LessM Try.prog gl rv enc lt blk off d.size w) (hswap : SwapM Try.prog gs rv enc blk off d.size) (hH : Holds enc w blk off d) (hblk : blk < w.heap.size) :
    Calls Try.prog 54 #[.iface T rv] w fun e w' => e = .returned (.tuple #[]) ∧ ∃ d' n os, PermIn 0 d.size d d' ∧ SortedIn lt 0 d.size d' ∧ w' = grow (putRow enc (Sort.ahead w n) blk off d') os := Any.sort_Sort_sorted Try.laysGt11 T rv gn gl gs rN rL rS enc lt hO blk off d h2 hsz w hlen hless hswap hH hblk
def Try.lays111_ren : Go.Shelf.Ren := ⟨fun | 111 => 37 | n => n, fun | 28 => 34 | 3 => 3 | 4 => 4 | 0 => 0 | n => n, fun | n => n⟩
theorem Try.lays111 : Go.Proofs.Lays.n111 Try.prog Try.lays111_ren := {
  mixed := by kernel_rfl
  f111 := Try.func37.trans (congrArg some (by kernel_rfl))
  t0 := Try.underlying0
  a0 := Try.isAgg0
  z0 := Try.sizeOf0
  v0 := Try.zeroValue0
  t3 := Try.underlying3
  a3 := Try.isAgg3
  z3 := Try.sizeOf3
  v3 := Try.zeroValue3
  t4 := Try.underlying4
  a4 := Try.isAgg4
  z4 := Try.sizeOf4
  v4 := Try.zeroValue4
  t28 := Try.underlying34
  a28 := Try.isAgg34
  z28 := Try.sizeOf34
  v28 := Try.zeroValue34 }
open Go.RowKit Go.Lib in
/-- slices.Equal at []int: "Equal reports whether two slices are equal: the same length and all elements equal. If the lengths are different, Equal returns false. Otherwise, the elements are compared in increasing index order, and the comparison stops at the first unequal pair. Empty and nil slices are considered equal.": IT RETURNS WHETHER THE TWO LISTS OF ELEMENTS ARE ONE; the world is as it was but for the count of draws (the test 's1[i] != s2[i]' has two reads, whose order the model draws, once a round). 'xs', 'ys': what the cells behind the two addresses hold (the spare capacity too, if you have it); 'xs.take n', 'ys.take m': the elements. THE TWO SLICES MAY OVERLAP. (LAID: no walk: one application.) -/
theorem Try.slices_Equal_int (b1 o1 n c b2 o2 m d : Nat) (xs ys : List Int) (w : World) (hx : n ≤ xs.length) (hy : m ≤ ys.length) (hbig : n ≤ 9223372036854775807) (hbig2 : m ≤ 9223372036854775807) (hc1 : ∀ j, j < xs.length → w.cell? ⟨b1, o1 + j, none⟩ = some (.int .i64 (xs.getD j 0))) (hc2 : ∀ j, j < ys.length → w.cell? ⟨b2, o2 + j, none⟩ = some (.int .i64 (ys.getD j 0))) :
    Calls Try.prog 37 #[.slice (some ⟨b1, o1, none⟩) n c, .slice (some ⟨b2, o2, none⟩) m d] w fun e w' => e = .returned (.bool (xs.take n == ys.take m)) ∧ ∃ q, w' = w.drewN q := Any.slices_Equal_int Try.lays111 b1 o1 n c b2 o2 m d xs ys w hx hy hbig hbig2 hc1 hc2
open Go.RowKit Go.Lib in
/-- The same where the first is of length 0 (a nil one too): no cell is asked for. (LAID: no walk: one application.) -/
theorem Try.slices_Equal_int_empty (a1 a2 : Option Addr) (c m d : Nat) (w : World) (hbig2 : m ≤ 9223372036854775807) :
    Calls Try.prog 37 #[.slice a1 0 c, .slice a2 m d] w fun e w' => e = .returned (.bool (decide (m = 0))) ∧ w' = w := Any.slices_Equal_int_empty Try.lays111 a1 a2 c m d w hbig2
def Try.lays193_ren : Go.Shelf.Ren := ⟨fun | 193 => 36 | n => n, fun | 31 => 40 | 9 => 9 | 4 => 4 | 3 => 3 | 0 => 0 | n => n, fun | n => n⟩
theorem Try.lays193 : Go.Proofs.Lays.n193 Try.prog Try.lays193_ren := {
  mixed := by kernel_rfl
  f193 := Try.func36.trans (congrArg some (by kernel_rfl))
  t0 := Try.underlying0
  a0 := Try.isAgg0
  z0 := Try.sizeOf0
  v0 := Try.zeroValue0
  t3 := Try.underlying3
  a3 := Try.isAgg3
  z3 := Try.sizeOf3
  v3 := Try.zeroValue3
  t4 := Try.underlying4
  a4 := Try.isAgg4
  z4 := Try.sizeOf4
  v4 := Try.zeroValue4
  t9 := Try.underlying9
  a9 := Try.isAgg9
  z9 := Try.sizeOf9
  v9 := Try.zeroValue9
  t31 := Try.underlying40
  a31 := Try.isAgg40
  z31 := Try.sizeOf40
  v31 := Try.zeroValue40 }
open Go.RowKit Go.Lib in
/-- slices.Equal at []string: "Equal reports whether two slices are equal: the same length and all elements equal. If the lengths are different, Equal returns false. Otherwise, the elements are compared in increasing index order, and the comparison stops at the first unequal pair. Empty and nil slices are considered equal.": IT RETURNS WHETHER THE TWO LISTS OF ELEMENTS ARE ONE; the world is as it was but for the count of draws (the test 's1[i] != s2[i]' has two reads, whose order the model draws, once a round). 'xs', 'ys': what the cells behind the two addresses hold (the spare capacity too, if you have it); 'xs.take n', 'ys.take m': the elements. THE TWO SLICES MAY OVERLAP. (LAID: no walk: one application.) -/
theorem Try.slices_Equal_string (b1 o1 n c b2 o2 m d : Nat) (xs ys : List ByteArray) (w : World) (hx : n ≤ xs.length) (hy : m ≤ ys.length) (hbig : n ≤ 9223372036854775807) (hbig2 : m ≤ 9223372036854775807) (hc1 : ∀ j, j < xs.length → w.cell? ⟨b1, o1 + j, none⟩ = some (.string (xs.getD j ByteArray.empty))) (hc2 : ∀ j, j < ys.length → w.cell? ⟨b2, o2 + j, none⟩ = some (.string (ys.getD j ByteArray.empty))) :
    Calls Try.prog 36 #[.slice (some ⟨b1, o1, none⟩) n c, .slice (some ⟨b2, o2, none⟩) m d] w fun e w' => e = .returned (.bool (decide (xs.take n = ys.take m))) ∧ ∃ q, w' = w.drewN q := Any.slices_Equal_string Try.lays193 b1 o1 n c b2 o2 m d xs ys w hx hy hbig hbig2 hc1 hc2
open Go.RowKit Go.Lib in
/-- The same where the first is of length 0 (a nil one too): no cell is asked for. (LAID: no walk: one application.) -/
theorem Try.slices_Equal_string_empty (a1 a2 : Option Addr) (c m d : Nat) (w : World) (hbig2 : m ≤ 9223372036854775807) :
    Calls Try.prog 36 #[.slice a1 0 c, .slice a2 m d] w fun e w' => e = .returned (.bool (decide (m = 0))) ∧ w' = w := Any.slices_Equal_string_empty Try.lays193 a1 a2 c m d w hbig2
def Try.laysNm216_ren : Go.Shelf.Ren := ⟨fun | 16 => 34 | n => n, fun | 24 => 40 | 9 => 9 | 4 => 4 | n => n, fun | n => n⟩
theorem Try.laysNm216 : Go.Proofs.Lays2.n16 Try.prog Try.laysNm216_ren := {
  mixed := by kernel_rfl
  f16 := Try.func34.trans (congrArg some (by kernel_rfl))
  t4 := Try.underlying4
  a4 := Try.isAgg4
  z4 := Try.sizeOf4
  v4 := Try.zeroValue4
  t9 := Try.underlying9
  a9 := Try.isAgg9
  z9 := Try.sizeOf9
  v9 := Try.zeroValue9
  t24 := Try.underlying40
  a24 := Try.isAgg40
  z24 := Try.sizeOf40
  v24 := Try.zeroValue40
  i9 := by kernel_rfl }
open Go.RowKit Go.Lib in
/-- slices.Clone at []string: "Clone returns a copy of the slice. The elements are copied using assignment, so this is a shallow clone. The result may have additional unused capacity. The result preserves the nilness of s.": OF A SLICE THAT IS NOT nil IT RETURNS A SLICE THAT IS NOT nil, OF THE SAME ELEMENTS, IN MEMORY OF THE CALL's OWN: in the how-to's words (6f): 'w'.ownsRow B e 1 v' n cells': v' begins at the head of a row among the blocks from B on (B: the heap's size at the call), not frozen, whose first cells are the elements · 'Below B w w'': below B all is as it was. The capacity is whatever the run-time gives. 'zs': what the cells behind the slice's address hold; 'zs.take n': its elements. (LAID: no walk: one application.) -/
theorem Try.slices_Clone_string (b off n c : Nat) (zs : List ByteArray) (w : World) (hz : n ≤ zs.length) (hbig : n * 16 ≤ 140737488355328) (hc : ∀ j, j < zs.length → w.cell? ⟨b, off + j, none⟩ = some (.string (zs.getD j ByteArray.empty))) :
    Calls Try.prog 34 #[.slice (some ⟨b, off, none⟩) n c] w fun e w' => ∃ v', e = .returned v' ∧ w'.ownsRow w.heap.size 9 1 v' n ((zs.take n).map (Value.string)) ∧ v' ≠ .slice none 0 0 ∧ Below w.heap.size w w' := Any.slices_Clone_string Try.laysNm216 b off n c zs w hz hbig hc
open Go.RowKit Go.Lib in
/-- The same at nil: nil comes back; the world is as it was. (LAID: no walk: one application.) -/
theorem Try.slices_Clone_string_nil (n c : Nat) (w : World) :
    Calls Try.prog 34 #[.slice none n c] w fun e w' => e = .returned (.slice none 0 0) ∧ w' = w := Any.slices_Clone_string_nil Try.laysNm216 n c w
open Go.RowKit Go.Lib in
/-- The same at a slice of length 0 that is not nil, WHATEVER ITS ADDRESS (no cell is asked for): a slice that is not nil and owns nothing comes back. (LAID: no walk: one application.) -/
theorem Try.slices_Clone_string_zero (a : Addr) (c : Nat) (w : World) :
    Calls Try.prog 34 #[.slice (some a) 0 c] w fun e w' => ∃ v', e = .returned v' ∧ w'.ownsRow w.heap.size 9 1 v' 0 [] ∧ v' ≠ .slice none 0 0 ∧ Below w.heap.size w w' := Any.slices_Clone_string_zero Try.laysNm216 a c w
def Try.lays194_ren : Go.Shelf.Ren := ⟨fun | 194 => 35 | n => n, fun | 31 => 40 | 9 => 9 | 3 => 3 | 4 => 4 | 0 => 0 | n => n, fun | n => n⟩
theorem Try.lays194 : Go.Proofs.Lays.n194 Try.prog Try.lays194_ren := {
  mixed := by kernel_rfl
  f194 := Try.func35.trans (congrArg some (by kernel_rfl))
  t0 := Try.underlying0
  a0 := Try.isAgg0
  z0 := Try.sizeOf0
  v0 := Try.zeroValue0
  t3 := Try.underlying3
  a3 := Try.isAgg3
  z3 := Try.sizeOf3
  v3 := Try.zeroValue3
  t4 := Try.underlying4
  a4 := Try.isAgg4
  z4 := Try.sizeOf4
  v4 := Try.zeroValue4
  t9 := Try.underlying9
  a9 := Try.isAgg9
  z9 := Try.sizeOf9
  v9 := Try.zeroValue9
  t31 := Try.underlying40
  a31 := Try.isAgg40
  z31 := Try.sizeOf40
  v31 := Try.zeroValue40 }
open Go.RowKit Go.Lib Go.Sort in
/-- slices.Compact at []string, over an array: the library's two loops are walked. (LAID: no walk: one application.) -/
theorem Try.slices_Compact_string_arr (blk off cap : Nat) (d : Array (List UInt8)) (w : World) (hH : Holds encStr w blk off d) (hsz : d.size ≤ 9223372036854775807) (hcap : d.size ≤ cap) :
    Calls Try.prog 35 #[.slice (some ⟨blk, off, none⟩) d.size cap] w fun e w' => e = .returned (.slice (some ⟨blk, off, none⟩) (compactUpTo d d.size).length cap) ∧ ∃ q, w' = putRow encStr (Sort.ahead w q) blk off (compactUpTo d d.size ++ List.replicate (d.size - (compactUpTo d d.size).length) []).toArray := Any.slices_Compact_string_arr Try.lays194 blk off cap d w hH hsz hcap
open Go.RowKit Go.Lib Go.Sort in
/-- slices.Compact at []string: "Compact replaces consecutive runs of equal elements with a single copy. This is like the uniq command found on Unix. Compact modifies the contents of the slice s and returns the modified slice, which may have a smaller length. Compact zeroes the elements between the new length and the original length. The result preserves the nilness of s.": IT RETURNS THE SLICE CUT TO 'Lib.compact zs'; ITS CELLS HOLD 'Lib.compact zs', THEN ZERO VALUES up to the old length; all else is as it was, but for the count of draws. IN THE WORDS OF slices.Sort's CONTRACT ('Holds', 'putRow'): so the everyday 'slices.Sort(xs); xs = slices.Compact(xs)' goes from the one contract to the other. It asks 'zs.length ≤ cap' (every slice's: the reslicing 's[:k]' looks at it). Length 0, nil: '.._empty'. (LAID: no walk: one application.) -/
theorem Try.slices_Compact_string (blk off cap : Nat) (zs : List (List UInt8)) (w : World) (hH : Holds encStr w blk off zs.toArray) (hsz : zs.length ≤ 9223372036854775807) (hcap : zs.length ≤ cap) :
    Calls Try.prog 35 #[.slice (some ⟨blk, off, none⟩) zs.length cap] w fun e w' => e = .returned (.slice (some ⟨blk, off, none⟩) (Lib.compact zs).length cap) ∧ ∃ q, w' = putRow encStr (Sort.ahead w q) blk off (Lib.compact zs ++ List.replicate (zs.length - (Lib.compact zs).length) []).toArray := Any.slices_Compact_string Try.lays194 blk off cap zs w hH hsz hcap
open Go.RowKit Go.Lib Go.Sort in
/-- The same at a slice of length 0, a nil one too: it comes back as it is. (LAID: no walk: one application.) -/
theorem Try.slices_Compact_string_empty (a : Option Addr) (cap : Nat) (w : World) :
    Calls Try.prog 35 #[.slice a 0 cap] w fun e w' => e = .returned (.slice a 0 cap) ∧ w' = w := Any.slices_Compact_string_empty Try.lays194 a cap w
open Go.RowKit Go.Lib Go.Sort in
/-- slices.Compact at []string, of an argument. (LAID: no walk: one application.) -/
theorem Try.slices_Compact_string_cells (b off n c : Nat) (Sx : Nat → ByteArray) (w : World) (hbig : n ≤ 9223372036854775807) (hcap : n ≤ c) (hc : ∀ i, i < n → w.cell? ⟨b, off + i, none⟩ = some (.string (Sx i))) (hf : ∀ j, j < n → w.frozen? ⟨b, off + j, none⟩ = false) :
    Calls Try.prog 35 #[.slice (some ⟨b, off, none⟩) n c] w fun e w' => e = .returned (.slice (some ⟨b, off, none⟩) (Lib.compact (Lib.strsOf Sx n)).length c) ∧ ∃ q, w' = (w.drewN q).setCells b off ((Lib.compact (Lib.strsOf Sx n) ++ List.replicate (n - (Lib.compact (Lib.strsOf Sx n)).length) []).map encStr) := Any.slices_Compact_string_cells Try.lays194 b off n c Sx w hbig hcap hc hf
open Go.RowKit Go.Sort in
/-- .. and plain. (LAID: no walk: one application.) -/
theorem Try.slices_Sort_string_none (p : Option Addr) (cap : Nat) (w : World) :
    Calls Try.prog 33 #[.slice p 0 cap] w fun e w' => e = .returned (.tuple #[]) ∧ w' = w := Any.slices_Sort_string_none Try.lays190 p cap w
open Go.RowKit Go.Lib in
theorem Try.slices_Equal_int_lens (a1 a2 : Option Addr) (n c m d : Nat) (w : World) (hnm : n ≠ m) :
    Calls Try.prog 37 #[.slice a1 n c, .slice a2 m d] w fun e w' => e = .returned (.bool false) ∧ w' = w := Any.slices_Equal_int_lens Try.lays111 a1 a2 n c m d w hnm
open Go.RowKit Go.Lib in
theorem Try.slices_Equal_string_lens (a1 a2 : Option Addr) (n c m d : Nat) (w : World) (hnm : n ≠ m) :
    Calls Try.prog 36 #[.slice a1 n c, .slice a2 m d] w fun e w' => e = .returned (.bool false) ∧ w' = w := Any.slices_Equal_string_lens Try.lays193 a1 a2 n c m d w hnm
def Try.laysGg36_ren : Go.Shelf.Ren := ⟨fun | 36 => 119 | n => n, fun | 66 => 178 | 51 => 136 | 0 => 0 | 60 => 167 | 41 => 110 | n => n, fun | n => n⟩
theorem Try.laysGg36 : Go.Proofs.LaysGg.n36 Try.prog Try.laysGg36_ren := {
  mixed := by kernel_rfl
  f36 := Try.func119.trans (congrArg some (by kernel_rfl))
  t0 := Try.underlying0
  a0 := Try.isAgg0
  z0 := Try.sizeOf0
  v0 := Try.zeroValue0
  i0 := by kernel_rfl
  t41 := Try.underlying110
  a41 := Try.isAgg110
  z41 := Try.sizeOf110
  v41 := Try.zeroValue110
  i41 := by kernel_rfl
  t51 := Try.underlying136
  a51 := Try.isAgg136
  z51 := Try.sizeOf136
  v51 := Try.zeroValue136
  i51 := by kernel_rfl
  t60 := Try.underlying167
  a60 := Try.isAgg167
  z60 := Try.sizeOf167
  v60 := Try.zeroValue167
  i60 := by kernel_rfl
  t66 := Try.underlying178
  a66 := Try.isAgg178
  z66 := Try.sizeOf178
  v66 := Try.zeroValue178
  i66 := by kernel_rfl }
open Go.RowKit Go.Lib Go.Sort in
/-- '*r ^= *r << 13; *r ^= *r >> 7; *r ^= *r << 17; return uint64(*r)': the cell holds 'xorNextN X' and that is handed back; three draws; nothing else turns. (LAID: no walk: one application.) -/
theorem Try.xorshift_Next (rb ro X : Nat) (hX : X < 18446744073709551616) (w : World) (hc : w.cell? ⟨rb, ro, none⟩ = some (.int .u64 X)) (hf : w.frozen? ⟨rb, ro, none⟩ = false) :
    Calls Try.prog 119 #[.pointer (some ⟨rb, ro, none⟩)] w fun e w' => e = .returned (.int .u64 (xorNextN X : Nat)) ∧ w' = (w.setCell ⟨rb, ro, none⟩ (.int .u64 (xorNextN X : Nat))).drewN 3 := Any.xorshift_Next Try.laysGg36 rb ro X hX w hc hf
def Try.laysGg35_ren : Go.Shelf.Ren := ⟨fun | 35 => 118 | 13 => 57 | 24 => 80 | 25 => 81 | n => n, fun | 3 => 3 | 41 => 110 | 49 => 134 | 51 => 136 | 4 => 4 | 5 => 5 | 9 => 9 | n => n, fun | n => n⟩
theorem Try.laysGg35 : Go.Proofs.LaysGg.n35 Try.prog Try.laysGg35_ren := {
  mixed := by kernel_rfl
  f13 := Try.func57.trans (congrArg some (by kernel_rfl))
  f24 := Try.func80.trans (congrArg some (by kernel_rfl))
  f25 := Try.func81.trans (congrArg some (by kernel_rfl))
  f35 := Try.func118.trans (congrArg some (by kernel_rfl))
  t3 := Try.underlying3
  a3 := Try.isAgg3
  z3 := Try.sizeOf3
  v3 := Try.zeroValue3
  i3 := by kernel_rfl
  t4 := Try.underlying4
  a4 := Try.isAgg4
  z4 := Try.sizeOf4
  v4 := Try.zeroValue4
  i4 := by kernel_rfl
  t5 := Try.underlying5
  a5 := Try.isAgg5
  z5 := Try.sizeOf5
  v5 := Try.zeroValue5
  i5 := by kernel_rfl
  t9 := Try.underlying9
  a9 := Try.isAgg9
  z9 := Try.sizeOf9
  v9 := Try.zeroValue9
  i9 := by kernel_rfl
  t41 := Try.underlying110
  a41 := Try.isAgg110
  z41 := Try.sizeOf110
  v41 := Try.zeroValue110
  i41 := by kernel_rfl
  t49 := Try.underlying134
  a49 := Try.isAgg134
  z49 := Try.sizeOf134
  v49 := Try.zeroValue134
  i49 := by kernel_rfl
  t51 := Try.underlying136
  a51 := Try.isAgg136
  z51 := Try.sizeOf136
  v51 := Try.zeroValue136
  i51 := by kernel_rfl }
open Go.RowKit Go.Lib Go.Sort in
/-- 'return 1 << bits.Len(uint(length))'. (LAID: no walk: one application.) -/
theorem Try.nextPowerOfTwo (n : Nat) (hn : n < 4611686018427387904) (w : World) :
    Calls Try.prog 118 #[.int .i64 n] w fun e w' => e = .returned (.int .u64 ((1 <<< bitsLen n : Nat) : Int)) ∧ w' = w := Any.nextPowerOfTwo Try.laysGg35 n hn w
def Try.laysGt43_ren : Go.Shelf.Ren := ⟨fun | 43 => 117 | n => n, fun | 45 => 106 | 3 => 3 | 4 => 4 | 0 => 0 | 43 => 52 | 26 => 153 | 38 => 163 | n => n, fun | n => n⟩
theorem Try.laysGt43 : Go.Proofs.LaysGt.n43 Try.prog Try.laysGt43_ren := {
  mixed := by kernel_rfl
  f43 := Try.func117.trans (congrArg some (by kernel_rfl))
  t0 := Try.underlying0
  a0 := Try.isAgg0
  z0 := Try.sizeOf0
  v0 := Try.zeroValue0
  i0 := by kernel_rfl
  t3 := Try.underlying3
  a3 := Try.isAgg3
  z3 := Try.sizeOf3
  v3 := Try.zeroValue3
  i3 := by kernel_rfl
  t4 := Try.underlying4
  a4 := Try.isAgg4
  z4 := Try.sizeOf4
  v4 := Try.zeroValue4
  i4 := by kernel_rfl
  t26 := Try.underlying153
  a26 := Try.isAgg153
  z26 := Try.sizeOf153
  v26 := Try.zeroValue153
  i26 := by kernel_rfl
  t38 := Try.underlying163
  a38 := Try.isAgg163
  z38 := Try.sizeOf163
  v38 := Try.zeroValue163
  i38 := by kernel_rfl
  t43 := Try.underlying52
  a43 := Try.isAgg52
  z43 := Try.sizeOf52
  v43 := Try.zeroValue52
  i43 := by kernel_rfl
  t45 := Try.underlying106
  a45 := Try.isAgg106
  z45 := Try.sizeOf106
  v45 := Try.zeroValue106
  i45 := by kernel_rfl }
open Go.RowKit Go.Lib Go.Sort in
theorem Try.siftDown_iface {α : Type} [Inhabited α] (T : TypeId) (rv : Value) (gl gs : Nat) (rL : Reaches Try.prog T rv "Less" gl) (rS : Reaches Try.prog T rv "Swap" gs) (enc : α → Value) (lt : α → α → Bool) (blk off lo hi first : Nat) (d : Array α) (w : World) (hless : LessM Try.prog gl rv enc lt blk off d.size w) (hswap : SwapM Try.prog gs rv enc blk off d.size) (hH : Holds enc w blk off d) (hlo : lo ≤ hi) (hb : first + hi ≤ d.size) (hsz : d.size < 4611686018427387904) :
    Calls Try.prog 117 #[.iface T rv, .int .i64 lo, .int .i64 hi, .int .i64 first] w fun e w' =>
      e = .returned (.tuple #[]) ∧ ∃ n, w' = putRow enc (Sort.ahead w n) blk off (siftDown lt hi first lo d) := Any.siftDown_iface Try.laysGt43 T rv gl gs rL rS enc lt blk off lo hi first d w hless hswap hH hlo hb hsz
open Go.RowKit Go.Lib Go.Sort in
/-- sort.siftDown, from a world to a 'sortWorld' of it. (LAID: no walk: one application.) -/
theorem Try.siftDown_iface_w {α : Type} [Inhabited α] (T : TypeId) (rv : Value) (gl gs : Nat) (rL : Reaches Try.prog T rv "Less" gl) (rS : Reaches Try.prog T rv "Swap" gs) (enc : α → Value) (lt : α → α → Bool) (blk off lo hi first : Nat) (d : Array α) (w : World) (hless : LessM Try.prog gl rv enc lt blk off d.size w) (hswap : SwapM Try.prog gs rv enc blk off d.size) (hH : Holds enc w blk off d) (hlo : lo ≤ hi) (hb : first + hi ≤ d.size) (hsz : d.size < 4611686018427387904) :
    Calls Try.prog 117 #[.iface T rv, .int .i64 lo, .int .i64 hi, .int .i64 first] w fun e w' => e = .returned (.tuple #[]) ∧ ∃ n os, w' = sortWorld enc w blk off n (siftDown lt hi first lo d) os := Any.siftDown_iface_w Try.laysGt43 T rv gl gs rL rS enc lt blk off lo hi first d w hless hswap hH hlo hb hsz
def Try.laysGt34_ren : Go.Shelf.Ren := ⟨fun | 34 => 96 | 43 => 117 | n => n, fun | 45 => 106 | 3 => 3 | 4 => 4 | 0 => 0 | 43 => 52 | 26 => 153 | 38 => 163 | n => n, fun | n => n⟩
theorem Try.laysGt34 : Go.Proofs.LaysGt.n34 Try.prog Try.laysGt34_ren := {
  mixed := by kernel_rfl
  f34 := Try.func96.trans (congrArg some (by kernel_rfl))
  f43 := Try.func117.trans (congrArg some (by kernel_rfl))
  t0 := Try.underlying0
  a0 := Try.isAgg0
  z0 := Try.sizeOf0
  v0 := Try.zeroValue0
  i0 := by kernel_rfl
  t3 := Try.underlying3
  a3 := Try.isAgg3
  z3 := Try.sizeOf3
  v3 := Try.zeroValue3
  i3 := by kernel_rfl
  t4 := Try.underlying4
  a4 := Try.isAgg4
  z4 := Try.sizeOf4
  v4 := Try.zeroValue4
  i4 := by kernel_rfl
  t26 := Try.underlying153
  a26 := Try.isAgg153
  z26 := Try.sizeOf153
  v26 := Try.zeroValue153
  i26 := by kernel_rfl
  t38 := Try.underlying163
  a38 := Try.isAgg163
  z38 := Try.sizeOf163
  v38 := Try.zeroValue163
  i38 := by kernel_rfl
  t43 := Try.underlying52
  a43 := Try.isAgg52
  z43 := Try.sizeOf52
  v43 := Try.zeroValue52
  i43 := by kernel_rfl
  t45 := Try.underlying106
  a45 := Try.isAgg106
  z45 := Try.sizeOf106
  v45 := Try.zeroValue106
  i45 := by kernel_rfl }
open Go.RowKit Go.Lib Go.Sort in
theorem Try.heapSort_iface_w {α : Type} [Inhabited α] (T : TypeId) (rv : Value) (gl gs : Nat) (rL : Reaches Try.prog T rv "Less" gl) (rS : Reaches Try.prog T rv "Swap" gs) (enc : α → Value) (lt : α → α → Bool) (blk off a b : Nat) (d : Array α) (w : World) (hless : LessM Try.prog gl rv enc lt blk off d.size w) (hswap : SwapM Try.prog gs rv enc blk off d.size) (hH : Holds enc w blk off d) (hblk : blk < w.heap.size) (hab : a ≤ b) (hb : b ≤ d.size) (hsz : d.size < 4611686018427387904) :
    Calls Try.prog 96 #[.iface T rv, .int .i64 a, .int .i64 b] w fun e w' => e = .returned (.tuple #[]) ∧ ∃ n os, w' = sortWorld enc w blk off n (heapSort lt d a b) os := Any.heapSort_iface_w Try.laysGt34 T rv gl gs rL rS enc lt blk off a b d w hless hswap hH hblk hab hb hsz
def Try.laysGt38_ren : Go.Shelf.Ren := ⟨fun | 38 => 100 | n => n, fun | 45 => 106 | 3 => 3 | 4 => 4 | 0 => 0 | 43 => 52 | 26 => 153 | 38 => 163 | n => n, fun | n => n⟩
theorem Try.laysGt38 : Go.Proofs.LaysGt.n38 Try.prog Try.laysGt38_ren := {
  mixed := by kernel_rfl
  f38 := Try.func100.trans (congrArg some (by kernel_rfl))
  t0 := Try.underlying0
  a0 := Try.isAgg0
  z0 := Try.sizeOf0
  v0 := Try.zeroValue0
  i0 := by kernel_rfl
  t3 := Try.underlying3
  a3 := Try.isAgg3
  z3 := Try.sizeOf3
  v3 := Try.zeroValue3
  i3 := by kernel_rfl
  t4 := Try.underlying4
  a4 := Try.isAgg4
  z4 := Try.sizeOf4
  v4 := Try.zeroValue4
  i4 := by kernel_rfl
  t26 := Try.underlying153
  a26 := Try.isAgg153
  z26 := Try.sizeOf153
  v26 := Try.zeroValue153
  i26 := by kernel_rfl
  t38 := Try.underlying163
  a38 := Try.isAgg163
  z38 := Try.sizeOf163
  v38 := Try.zeroValue163
  i38 := by kernel_rfl
  t43 := Try.underlying52
  a43 := Try.isAgg52
  z43 := Try.sizeOf52
  v43 := Try.zeroValue52
  i43 := by kernel_rfl
  t45 := Try.underlying106
  a45 := Try.isAgg106
  z45 := Try.sizeOf106
  v45 := Try.zeroValue106
  i45 := by kernel_rfl }
open Go.RowKit Go.Lib Go.Sort in
theorem Try.partialInsertionSort_iface {α : Type} [Inhabited α] (T : TypeId) (rv : Value) (gl gs : Nat) (rL : Reaches Try.prog T rv "Less" gl) (rS : Reaches Try.prog T rv "Swap" gs) (enc : α → Value) (lt : α → α → Bool) (blk off a b : Nat) (d : Array α) (w : World) (hless : LessM Try.prog gl rv enc lt blk off d.size w) (hswap : SwapM Try.prog gs rv enc blk off d.size) (hH : Holds enc w blk off d) (hab : a < b) (hb : b ≤ d.size) (hsz : d.size < 4611686018427387904) :
    Calls Try.prog 100 #[.iface T rv, .int .i64 a, .int .i64 b] w fun e w' =>
      e = .returned (.bool (Sort.partialInsertionSort lt d a b).2) ∧ ∃ n, w' = putRow enc (Sort.ahead w n) blk off (Sort.partialInsertionSort lt d a b).1 := Any.partialInsertionSort_iface Try.laysGt38 T rv gl gs rL rS enc lt blk off a b d w hless hswap hH hab hb hsz
open Go.RowKit Go.Lib Go.Sort in
/-- sort.partialInsertionSort, from a world to a 'sortWorld' of it. (LAID: no walk: one application.) -/
theorem Try.partialInsertionSort_iface_w {α : Type} [Inhabited α] (T : TypeId) (rv : Value) (gl gs : Nat) (rL : Reaches Try.prog T rv "Less" gl) (rS : Reaches Try.prog T rv "Swap" gs) (enc : α → Value) (lt : α → α → Bool) (blk off a b : Nat) (d : Array α) (w : World) (hless : LessM Try.prog gl rv enc lt blk off d.size w) (hswap : SwapM Try.prog gs rv enc blk off d.size) (hH : Holds enc w blk off d) (hab : a < b) (hb : b ≤ d.size) (hsz : d.size < 4611686018427387904) :
    Calls Try.prog 100 #[.iface T rv, .int .i64 a, .int .i64 b] w fun e w' => e = .returned (.bool (Sort.partialInsertionSort lt d a b).2) ∧ ∃ n os, w' = sortWorld enc w blk off n (Sort.partialInsertionSort lt d a b).1 os := Any.partialInsertionSort_iface_w Try.laysGt38 T rv gl gs rL rS enc lt blk off a b d w hless hswap hH hab hb hsz
def Try.laysSlE041_f34_ren : Go.Shelf.Ren := ⟨fun | 41 => 34 | n => n, fun | 22 => 40 | 23 => 9 | 4 => 4 | n => n, fun | n => n⟩
theorem Try.laysSlE041_f34 : Go.Proofs.SlLaysE0.n41 Try.prog Try.laysSlE041_f34_ren := {
  mixed := by kernel_rfl
  f41 := ⟨Try.f34.name, by decide, Try.func34.trans (congrArg some (by kernel_rfl))⟩
  t4 := Try.underlying4
  a4 := Try.isAgg4
  z4 := Try.sizeOf4
  v4 := Try.zeroValue4
  t22 := Try.underlying40
  a22 := Try.isAgg40
  z22 := Try.sizeOf40
  v22 := Try.zeroValue40 }
open Go.RowKit Go.Lib in
/-- slices.Clone: "Clone returns a copy of the slice. The elements are copied using assignment, so this is a shallow clone. The result may have additional unused capacity. The result preserves the nilness of s.": OF A SLICE THAT IS NOT nil IT RETURNS A SLICE THAT IS NOT nil, OF THE SAME CELLS, IN MEMORY OF THE CALL's OWN ('ownsRow': the how-to's 6f); below the heap's size at the call all is as it was. (LAID AT THE INSTANCE 'slices.Clone[[]string,string]': no walk: one application.) -/
theorem Try.slices_Clone_f34 (i0 : TypeInfo) (z : Value) (size bytes : Nat) (hi : Try.prog.info? 9 = some i0) (hz0 : i0.zero = some z) (hz1 : i0.size = size) (hz2 : i0.bytes = bytes) (hzs : z.cells.size = size) (hsz : 0 < size) (z23 : ∀ w, (Go.sizeOf 9).run Try.prog w = .ok size w) (b off n c : Nat) (news : List Value) (w : World) (hl : news.length = n * size) (hn : n ≤ maxLen) (hbig : n * bytes ≤ 140737488355328) (hc : ∀ j u, news[j]? = some u → w.cell? ⟨b, off + j, none⟩ = some u) (h1 : ∀ u ∈ news, u.oneCell' = true) :
    Calls Try.prog 34 #[.slice (some ⟨b, off, none⟩) n c] w fun e w' => ∃ v', e = .returned v' ∧ w'.ownsRow w.heap.size 9 size v' n news ∧ v' ≠ .slice none 0 0 ∧ Below w.heap.size w w' := AnyE.slices_Clone Try.laysSlE041_f34 i0 z size bytes hi hz0 hz1 hz2 hzs hsz z23 b off n c news w hl hn hbig hc h1
def Try.laysSlE041_f51_ren : Go.Shelf.Ren := ⟨fun | 41 => 51 | n => n, fun | 22 => 23 | 23 => 26 | 4 => 4 | n => n, fun | n => n⟩
theorem Try.laysSlE041_f51 : Go.Proofs.SlLaysE0.n41 Try.prog Try.laysSlE041_f51_ren := {
  mixed := by kernel_rfl
  f41 := ⟨Try.f51.name, by decide, Try.func51.trans (congrArg some (by kernel_rfl))⟩
  t4 := Try.underlying4
  a4 := Try.isAgg4
  z4 := Try.sizeOf4
  v4 := Try.zeroValue4
  t22 := Try.underlying23
  a22 := Try.isAgg23
  z22 := Try.sizeOf23
  v22 := Try.zeroValue23 }
open Go.RowKit Go.Lib in
/-- slices.Clone: "Clone returns a copy of the slice. The elements are copied using assignment, so this is a shallow clone. The result may have additional unused capacity. The result preserves the nilness of s.": OF A SLICE THAT IS NOT nil IT RETURNS A SLICE THAT IS NOT nil, OF THE SAME CELLS, IN MEMORY OF THE CALL's OWN ('ownsRow': the how-to's 6f); below the heap's size at the call all is as it was. (LAID AT THE INSTANCE 'slices.Clone[[]float64,float64]': no walk: one application.) -/
theorem Try.slices_Clone_f51 (i0 : TypeInfo) (z : Value) (size bytes : Nat) (hi : Try.prog.info? 26 = some i0) (hz0 : i0.zero = some z) (hz1 : i0.size = size) (hz2 : i0.bytes = bytes) (hzs : z.cells.size = size) (hsz : 0 < size) (z23 : ∀ w, (Go.sizeOf 26).run Try.prog w = .ok size w) (b off n c : Nat) (news : List Value) (w : World) (hl : news.length = n * size) (hn : n ≤ maxLen) (hbig : n * bytes ≤ 140737488355328) (hc : ∀ j u, news[j]? = some u → w.cell? ⟨b, off + j, none⟩ = some u) (h1 : ∀ u ∈ news, u.oneCell' = true) :
    Calls Try.prog 51 #[.slice (some ⟨b, off, none⟩) n c] w fun e w' => ∃ v', e = .returned v' ∧ w'.ownsRow w.heap.size 26 size v' n news ∧ v' ≠ .slice none 0 0 ∧ Below w.heap.size w w' := AnyE.slices_Clone Try.laysSlE041_f51 i0 z size bytes hi hz0 hz1 hz2 hzs hsz z23 b off n c news w hl hn hbig hc h1
open Go.RowKit Go.Lib in
/-- The same at nil: nil comes back; the world is as it was; nothing is asked of the element's type. (LAID AT THE INSTANCE 'slices.Clone[[]string,string]': no walk: one application.) -/
theorem Try.slices_Clone_nil_f34 (n c : Nat) (w : World) :
    Calls Try.prog 34 #[.slice none n c] w fun e w' => e = .returned (.slice none 0 0) ∧ w' = w := AnyE.slices_Clone_nil Try.laysSlE041_f34 n c w
open Go.RowKit Go.Lib in
/-- The same at nil: nil comes back; the world is as it was; nothing is asked of the element's type. (LAID AT THE INSTANCE 'slices.Clone[[]float64,float64]': no walk: one application.) -/
theorem Try.slices_Clone_nil_f51 (n c : Nat) (w : World) :
    Calls Try.prog 51 #[.slice none n c] w fun e w' => e = .returned (.slice none 0 0) ∧ w' = w := AnyE.slices_Clone_nil Try.laysSlE041_f51 n c w
end Go.Proofs
