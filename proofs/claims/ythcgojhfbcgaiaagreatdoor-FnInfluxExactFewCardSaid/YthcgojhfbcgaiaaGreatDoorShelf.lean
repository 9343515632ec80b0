/-
  DERIVED: THE SHELF's CONTRACTS AT THIS DUMP, IN PLAIN WORDS (tools/lay-plain.mjs out of 'TryzShelf.lean', which tools/lay-shelf.mjs wrote): THE SAME DECLARATIONS UNDER THE SAME NAMES: 'import', 'namespace', 'open', 'def', 'theorem' AND NOTHING ELSE: no command of the shelf's: FOR A HAND-IN. Each laying: the table of numbers ('.._ren') and one theorem, a field a fact of the dump's own or the kernel's comparison; each contract: ONE APPLICATION.
-/
import Derived.Shelf.Small.Bits
import Derived.Shelf.Strconv.Itoa0
import Derived.Ground.GgtProg
import Derived.Shelf.GgSortMore.Iface
import Derived.Shelf.GgSortMore.IfaceD
import Derived.Shelf.GgSortMore.IfacePart
import Derived.Shelf.GgSortMore.IfacePdq
import Derived.Shelf.GgSortMore.SortSort
import Derived.Shelf.Bits.Mul64
import Derived.Ground.GgsProg
import Derived.Shelf.SlSortFunc.Xorshift
import Derived.Shelf.SlSortIface.SiftDown
import Derived.Shelf.SlSortIface.HeapSort
import Derived.Shelf.SlSortIface.PartialInsertion
import Derived.Ground.SlgnProg
import Derived.Shelf.SlicesE.Clone
import Derived.Test.YthcgojhfbcgaiaaGreatDoorProg
namespace Go.Proofs
open Go.Shelf
def Tryz.lays128_ren : Go.Shelf.Ren := ⟨fun | 128 => 75 | n => n, fun | 51 => 107 | 3 => 3 | 4 => 4 | 46 => 72 | 5 => 5 | 9 => 9 | n => n, fun | n => n⟩
theorem Tryz.lays128 : Go.Proofs.Lays.n128 Tryz.prog Tryz.lays128_ren := {
  mixed := by kernel_rfl
  f128 := Tryz.func75.trans (congrArg some (by kernel_rfl))
  t3 := Tryz.underlying3
  a3 := Tryz.isAgg3
  z3 := Tryz.sizeOf3
  v3 := Tryz.zeroValue3
  t4 := Tryz.underlying4
  a4 := Tryz.isAgg4
  z4 := Tryz.sizeOf4
  v4 := Tryz.zeroValue4
  t5 := Tryz.underlying5
  a5 := Tryz.isAgg5
  z5 := Tryz.sizeOf5
  v5 := Tryz.zeroValue5
  t9 := Tryz.underlying9
  a9 := Tryz.isAgg9
  z9 := Tryz.sizeOf9
  v9 := Tryz.zeroValue9
  t46 := Tryz.underlying72
  a46 := Tryz.isAgg72
  z46 := Tryz.sizeOf72
  v46 := Tryz.zeroValue72
  t51 := Tryz.underlying107
  a51 := Tryz.isAgg107
  z51 := Tryz.sizeOf107
  v51 := Tryz.zeroValue107 }
/-- bits.Len32: "Len32 returns the minimum number of bits required to represent x; the result is 0 for x == 0.": IT RETURNS 'Lib.bitLen x'; the world is as it was. ('h0', 'h1': x is a uint32.) (LAID: no walk: one application.) -/
theorem Tryz.bits_Len32 (x : Int) (w : World) (h0 : 0 ≤ x) (h1 : x ≤ 4294967295) :
    Calls Tryz.prog 75 #[.int .u32 x] w fun e w' => e = .returned (.int .i64 (Lib.bitLen x.toNat)) ∧ w' = w := Any.bits_Len32 Tryz.lays128 x w h0 h1
def Tryz.lays125_ren : Go.Shelf.Ren := ⟨fun | 125 => 45 | 128 => 75 | 129 => 76 | n => n, fun | 46 => 72 | 3 => 3 | 51 => 107 | 53 => 26 | 4 => 4 | 5 => 5 | 9 => 9 | n => n, fun | n => n⟩
theorem Tryz.lays125 : Go.Proofs.Lays.n125 Tryz.prog Tryz.lays125_ren := {
  mixed := by kernel_rfl
  f125 := Tryz.func45.trans (congrArg some (by kernel_rfl))
  f128 := Tryz.func75.trans (congrArg some (by kernel_rfl))
  f129 := Tryz.func76.trans (congrArg some (by kernel_rfl))
  t3 := Tryz.underlying3
  a3 := Tryz.isAgg3
  z3 := Tryz.sizeOf3
  v3 := Tryz.zeroValue3
  t4 := Tryz.underlying4
  a4 := Tryz.isAgg4
  z4 := Tryz.sizeOf4
  v4 := Tryz.zeroValue4
  t5 := Tryz.underlying5
  a5 := Tryz.isAgg5
  z5 := Tryz.sizeOf5
  v5 := Tryz.zeroValue5
  t9 := Tryz.underlying9
  a9 := Tryz.isAgg9
  z9 := Tryz.sizeOf9
  v9 := Tryz.zeroValue9
  t46 := Tryz.underlying72
  a46 := Tryz.isAgg72
  z46 := Tryz.sizeOf72
  v46 := Tryz.zeroValue72
  t51 := Tryz.underlying107
  a51 := Tryz.isAgg107
  z51 := Tryz.sizeOf107
  v51 := Tryz.zeroValue107
  t53 := Tryz.underlying26
  a53 := Tryz.isAgg26
  z53 := Tryz.sizeOf26
  v53 := Tryz.zeroValue26 }
/-- bits.Len: "Len returns the minimum number of bits required to represent x; the result is 0 for x == 0.": IT RETURNS 'Lib.bitLen x'; the world is as it was. (A uint has 64 bits in the model.) ITS CALLEE bits.Len64 IS MET BY ITS OWN CONTRACT OFF THE SHELF (lay that first). (LAID: no walk: one application.) -/
theorem Tryz.bits_Len (x : Int) (w : World) (h0 : 0 ≤ x) (h1 : x ≤ 18446744073709551615) :
    Calls Tryz.prog 45 #[.int .u64 x] w fun e w' => e = .returned (.int .i64 (Lib.bitLen x.toNat)) ∧ w' = w := Any.bits_Len Tryz.lays125 x w h0 h1
def Tryz.lays134_ren : Go.Shelf.Ren := ⟨fun | 134 => 127 | 129 => 76 | n => n, fun | 53 => 26 | 3 => 3 | 4 => 4 | 46 => 72 | 5 => 5 | 9 => 9 | n => n, fun | n => n⟩
theorem Tryz.lays134 : Go.Proofs.Lays.n134 Tryz.prog Tryz.lays134_ren := {
  mixed := by kernel_rfl
  f129 := Tryz.func76.trans (congrArg some (by kernel_rfl))
  f134 := Tryz.func127.trans (congrArg some (by kernel_rfl))
  t3 := Tryz.underlying3
  a3 := Tryz.isAgg3
  z3 := Tryz.sizeOf3
  v3 := Tryz.zeroValue3
  t4 := Tryz.underlying4
  a4 := Tryz.isAgg4
  z4 := Tryz.sizeOf4
  v4 := Tryz.zeroValue4
  t5 := Tryz.underlying5
  a5 := Tryz.isAgg5
  z5 := Tryz.sizeOf5
  v5 := Tryz.zeroValue5
  t9 := Tryz.underlying9
  a9 := Tryz.isAgg9
  z9 := Tryz.sizeOf9
  v9 := Tryz.zeroValue9
  t46 := Tryz.underlying72
  a46 := Tryz.isAgg72
  z46 := Tryz.sizeOf72
  v46 := Tryz.zeroValue72
  t53 := Tryz.underlying26
  a53 := Tryz.isAgg26
  z53 := Tryz.sizeOf26
  v53 := Tryz.zeroValue26 }
/-- bits.LeadingZeros64: "LeadingZeros64 returns the number of leading zero bits in x; the result is 64 for x == 0.": IT RETURNS '64 - Lib.bitLen x'; the world is as it was. ITS CALLEE bits.Len64 IS MET BY ITS OWN CONTRACT OFF THE SHELF (lay that first): entered in place it sends the kernel out of memory. (LAID: no walk: one application.) -/
theorem Tryz.bits_LeadingZeros64 (x : Int) (w : World) (h0 : 0 ≤ x) (h1 : x ≤ 18446744073709551615) :
    Calls Tryz.prog 127 #[.int .u64 x] w fun e w' => e = .returned (.int .i64 (64 - (Lib.bitLen x.toNat : Int))) ∧ w' = w := Any.bits_LeadingZeros64 Tryz.lays134 x w h0 h1
def Tryz.lays129_ren : Go.Shelf.Ren := ⟨fun | 129 => 76 | n => n, fun | 53 => 26 | 3 => 3 | 4 => 4 | 46 => 72 | 5 => 5 | 9 => 9 | n => n, fun | n => n⟩
theorem Tryz.lays129 : Go.Proofs.Lays.n129 Tryz.prog Tryz.lays129_ren := {
  mixed := by kernel_rfl
  f129 := Tryz.func76.trans (congrArg some (by kernel_rfl))
  t3 := Tryz.underlying3
  a3 := Tryz.isAgg3
  z3 := Tryz.sizeOf3
  v3 := Tryz.zeroValue3
  t4 := Tryz.underlying4
  a4 := Tryz.isAgg4
  z4 := Tryz.sizeOf4
  v4 := Tryz.zeroValue4
  t5 := Tryz.underlying5
  a5 := Tryz.isAgg5
  z5 := Tryz.sizeOf5
  v5 := Tryz.zeroValue5
  t9 := Tryz.underlying9
  a9 := Tryz.isAgg9
  z9 := Tryz.sizeOf9
  v9 := Tryz.zeroValue9
  t46 := Tryz.underlying72
  a46 := Tryz.isAgg72
  z46 := Tryz.sizeOf72
  v46 := Tryz.zeroValue72
  t53 := Tryz.underlying26
  a53 := Tryz.isAgg26
  z53 := Tryz.sizeOf26
  v53 := Tryz.zeroValue26 }
/-- bits.Len64: "Len64 returns the minimum number of bits required to represent x; the result is 0 for x == 0.": IT RETURNS 'Lib.bitLen x'; the world is as it was. ('h0', 'h1': x is a uint64.) (LAID: no walk: one application.) -/
theorem Tryz.bits_Len64 (x : Int) (w : World) (h0 : 0 ≤ x) (h1 : x ≤ 18446744073709551615) :
    Calls Tryz.prog 76 #[.int .u64 x] w fun e w' => e = .returned (.int .i64 (Lib.bitLen x.toNat)) ∧ w' = w := Any.bits_Len64 Tryz.lays129 x w h0 h1
def Tryz.laysGt33_ren : Go.Shelf.Ren := ⟨fun | 33 => 94 | n => n, fun | 45 => 110 | 3 => 3 | 4 => 4 | 0 => 0 | 43 => 66 | 26 => 125 | 38 => 133 | n => n, fun | n => n⟩
theorem Tryz.laysGt33 : Go.Proofs.LaysGt.n33 Tryz.prog Tryz.laysGt33_ren := {
  mixed := by kernel_rfl
  f33 := Tryz.func94.trans (congrArg some (by kernel_rfl))
  t0 := Tryz.underlying0
  a0 := Tryz.isAgg0
  z0 := Tryz.sizeOf0
  v0 := Tryz.zeroValue0
  i0 := by kernel_rfl
  t3 := Tryz.underlying3
  a3 := Tryz.isAgg3
  z3 := Tryz.sizeOf3
  v3 := Tryz.zeroValue3
  i3 := by kernel_rfl
  t4 := Tryz.underlying4
  a4 := Tryz.isAgg4
  z4 := Tryz.sizeOf4
  v4 := Tryz.zeroValue4
  i4 := by kernel_rfl
  t26 := Tryz.underlying125
  a26 := Tryz.isAgg125
  z26 := Tryz.sizeOf125
  v26 := Tryz.zeroValue125
  i26 := by kernel_rfl
  t38 := Tryz.underlying133
  a38 := Tryz.isAgg133
  z38 := Tryz.sizeOf133
  v38 := Tryz.zeroValue133
  i38 := by kernel_rfl
  t43 := Tryz.underlying66
  a43 := Tryz.isAgg66
  z43 := Tryz.sizeOf66
  v43 := Tryz.zeroValue66
  i43 := by kernel_rfl
  t45 := Tryz.underlying110
  a45 := Tryz.isAgg110
  z45 := Tryz.sizeOf110
  v45 := Tryz.zeroValue110
  i45 := by kernel_rfl }
open Go.RowKit Go.Lib Go.Sort in
theorem Tryz.insertionSort_iface {α : Type} [Inhabited α] (T : TypeId) (rv : Value) (gl gs : Nat) (rL : Reaches Tryz.prog T rv "Less" gl) (rS : Reaches Tryz.prog T rv "Swap" gs) (enc : α → Value) (lt : α → α → Bool) (blk off a b : Nat) (d : Array α) (w : World) (hless : LessM Tryz.prog gl rv enc lt blk off d.size w) (hswap : SwapM Tryz.prog gs rv enc blk off d.size) (hH : Holds enc w blk off d) (hab : a ≤ b) (hb : b ≤ d.size) (hsz : d.size < 4611686018427387904) :
    Calls Tryz.prog 94 #[.iface T rv, .int .i64 a, .int .i64 b] w fun e w' =>
      e = .returned (.tuple #[]) ∧ ∃ n, w' = putRow enc (Sort.ahead w n) blk off (Sort.insertionSort lt d a b) := Any.insertionSort_iface Tryz.laysGt33 T rv gl gs rL rS enc lt blk off a b d w hless hswap hH hab hb hsz
open Go.RowKit Go.Lib Go.Sort in
/-- sort.insertionSort, from a world to a 'sortWorld' of it. (LAID: no walk: one application.) -/
theorem Tryz.insertionSort_iface_w {α : Type} [Inhabited α] (T : TypeId) (rv : Value) (gl gs : Nat) (rL : Reaches Tryz.prog T rv "Less" gl) (rS : Reaches Tryz.prog T rv "Swap" gs) (enc : α → Value) (lt : α → α → Bool) (blk off a b : Nat) (d : Array α) (w : World) (hless : LessM Tryz.prog gl rv enc lt blk off d.size w) (hswap : SwapM Tryz.prog gs rv enc blk off d.size) (hH : Holds enc w blk off d) (hab : a ≤ b) (hb : b ≤ d.size) (hsz : d.size < 4611686018427387904) :
    Calls Tryz.prog 94 #[.iface T rv, .int .i64 a, .int .i64 b] w fun e w' => e = .returned (.tuple #[]) ∧ ∃ n os, w' = sortWorld enc w blk off n (Sort.insertionSort lt d a b) os := Any.insertionSort_iface_w Tryz.laysGt33 T rv gl gs rL rS enc lt blk off a b d w hless hswap hH hab hb hsz
def Tryz.laysGt37_ren : Go.Shelf.Ren := ⟨fun | 37 => 98 | n => n, fun | 45 => 110 | 3 => 3 | 4 => 4 | 0 => 0 | 43 => 66 | 26 => 125 | 38 => 133 | n => n, fun | n => n⟩
theorem Tryz.laysGt37 : Go.Proofs.LaysGt.n37 Tryz.prog Tryz.laysGt37_ren := {
  mixed := by kernel_rfl
  f37 := Tryz.func98.trans (congrArg some (by kernel_rfl))
  t0 := Tryz.underlying0
  a0 := Tryz.isAgg0
  z0 := Tryz.sizeOf0
  v0 := Tryz.zeroValue0
  i0 := by kernel_rfl
  t3 := Tryz.underlying3
  a3 := Tryz.isAgg3
  z3 := Tryz.sizeOf3
  v3 := Tryz.zeroValue3
  i3 := by kernel_rfl
  t4 := Tryz.underlying4
  a4 := Tryz.isAgg4
  z4 := Tryz.sizeOf4
  v4 := Tryz.zeroValue4
  i4 := by kernel_rfl
  t26 := Tryz.underlying125
  a26 := Tryz.isAgg125
  z26 := Tryz.sizeOf125
  v26 := Tryz.zeroValue125
  i26 := by kernel_rfl
  t38 := Tryz.underlying133
  a38 := Tryz.isAgg133
  z38 := Tryz.sizeOf133
  v38 := Tryz.zeroValue133
  i38 := by kernel_rfl
  t43 := Tryz.underlying66
  a43 := Tryz.isAgg66
  z43 := Tryz.sizeOf66
  v43 := Tryz.zeroValue66
  i43 := by kernel_rfl
  t45 := Tryz.underlying110
  a45 := Tryz.isAgg110
  z45 := Tryz.sizeOf110
  v45 := Tryz.zeroValue110
  i45 := by kernel_rfl }
open Go.RowKit Go.Lib Go.Sort in
theorem Tryz.reverseRange_iface {α : Type} [Inhabited α] (T : TypeId) (rv : Value) (gs : Nat) (rS : Reaches Tryz.prog T rv "Swap" gs) (enc : α → Value) (blk off a b : Nat) (d : Array α) (w : World) (hswap : SwapM Tryz.prog gs rv enc blk off d.size) (hH : Holds enc w blk off d) (hab : a ≤ b) (hb : b ≤ d.size) (hsz : d.size < 4611686018427387904) :
    Calls Tryz.prog 98 #[.iface T rv, .int .i64 a, .int .i64 b] w fun e w' => e = .returned (.tuple #[]) ∧ ∃ n, w' = putRow enc (Sort.ahead w n) blk off (reverseRange d a b) := Any.reverseRange_iface Tryz.laysGt37 T rv gs rS enc blk off a b d w hswap hH hab hb hsz
open Go.RowKit Go.Lib Go.Sort in
theorem Tryz.reverseRange_iface_w {α : Type} [Inhabited α] (T : TypeId) (rv : Value) (gs : Nat) (rS : Reaches Tryz.prog T rv "Swap" gs) (enc : α → Value) (blk off a b : Nat) (d : Array α) (w : World) (hswap : SwapM Tryz.prog gs rv enc blk off d.size) (hH : Holds enc w blk off d) (hab : a ≤ b) (hb : b ≤ d.size) (hsz : d.size < 4611686018427387904) :
    Calls Tryz.prog 98 #[.iface T rv, .int .i64 a, .int .i64 b] w fun e w' => e = .returned (.tuple #[]) ∧ ∃ n os, w' = sortWorld enc w blk off n (reverseRange d a b) os := Any.reverseRange_iface_w Tryz.laysGt37 T rv gs rS enc blk off a b d w hswap hH hab hb hsz
def Tryz.laysGt50_ren : Go.Shelf.Ren := ⟨fun | 50 => 124 | n => n, fun | 45 => 110 | 3 => 3 | 71 => 118 | 4 => 4 | 0 => 0 | 43 => 66 | 26 => 125 | 38 => 133 | n => n, fun | n => n⟩
theorem Tryz.laysGt50 : Go.Proofs.LaysGt.n50 Tryz.prog Tryz.laysGt50_ren := {
  mixed := by kernel_rfl
  f50 := Tryz.func124.trans (congrArg some (by kernel_rfl))
  t0 := Tryz.underlying0
  a0 := Tryz.isAgg0
  z0 := Tryz.sizeOf0
  v0 := Tryz.zeroValue0
  i0 := by kernel_rfl
  t3 := Tryz.underlying3
  a3 := Tryz.isAgg3
  z3 := Tryz.sizeOf3
  v3 := Tryz.zeroValue3
  i3 := by kernel_rfl
  t4 := Tryz.underlying4
  a4 := Tryz.isAgg4
  z4 := Tryz.sizeOf4
  v4 := Tryz.zeroValue4
  i4 := by kernel_rfl
  t26 := Tryz.underlying125
  a26 := Tryz.isAgg125
  z26 := Tryz.sizeOf125
  v26 := Tryz.zeroValue125
  i26 := by kernel_rfl
  t38 := Tryz.underlying133
  a38 := Tryz.isAgg133
  z38 := Tryz.sizeOf133
  v38 := Tryz.zeroValue133
  i38 := by kernel_rfl
  t43 := Tryz.underlying66
  a43 := Tryz.isAgg66
  z43 := Tryz.sizeOf66
  v43 := Tryz.zeroValue66
  i43 := by kernel_rfl
  t45 := Tryz.underlying110
  a45 := Tryz.isAgg110
  z45 := Tryz.sizeOf110
  v45 := Tryz.zeroValue110
  i45 := by kernel_rfl
  t71 := Tryz.underlying118
  a71 := Tryz.isAgg118
  z71 := Tryz.sizeOf118
  v71 := Tryz.zeroValue118
  i71 := by kernel_rfl }
open Go.RowKit Go.Lib Go.Sort in
theorem Tryz.order2_iface {α : Type} [Inhabited α] (T : TypeId) (rv : Value) (gl : Nat) (rL : Reaches Tryz.prog T rv "Less" gl) (enc : α → Value) (lt : α → α → Bool) (blk off : Nat) (w0 W : World) (d : Array α) (a b cb co s : Nat) (hL : LessM Tryz.prog gl rv enc lt blk off d.size w0) (hW : SW enc w0 blk off d W) (ha : a < d.size) (hb : b < d.size) (hS : Holds (Value.int .i64) W cb co (one s)) (hs : s < 4611686018427387904) :
    Calls Tryz.prog 124 #[.iface T rv, .int .i64 a, .int .i64 b, .pointer (some ⟨cb, co, none⟩)] W fun e w' =>
      e = .returned (.tuple #[.int .i64 (order2 lt d a b s).1, .int .i64 (order2 lt d a b s).2.1]) ∧ ∃ n os, w' = sortWorld (Value.int .i64) W cb co n (one (order2 lt d a b s).2.2) os := Any.order2_iface Tryz.laysGt50 T rv gl rL enc lt blk off w0 W d a b cb co s hL hW ha hb hS hs
def Tryz.laysGt47_ren : Go.Shelf.Ren := ⟨fun | 47 => 117 | 50 => 124 | n => n, fun | 45 => 110 | 3 => 3 | 71 => 118 | 74 => 131 | 4 => 4 | 0 => 0 | 43 => 66 | 26 => 125 | 38 => 133 | n => n, fun | n => n⟩
theorem Tryz.laysGt47 : Go.Proofs.LaysGt.n47 Tryz.prog Tryz.laysGt47_ren := {
  mixed := by kernel_rfl
  f47 := Tryz.func117.trans (congrArg some (by kernel_rfl))
  f50 := Tryz.func124.trans (congrArg some (by kernel_rfl))
  t0 := Tryz.underlying0
  a0 := Tryz.isAgg0
  z0 := Tryz.sizeOf0
  v0 := Tryz.zeroValue0
  i0 := by kernel_rfl
  t3 := Tryz.underlying3
  a3 := Tryz.isAgg3
  z3 := Tryz.sizeOf3
  v3 := Tryz.zeroValue3
  i3 := by kernel_rfl
  t4 := Tryz.underlying4
  a4 := Tryz.isAgg4
  z4 := Tryz.sizeOf4
  v4 := Tryz.zeroValue4
  i4 := by kernel_rfl
  t26 := Tryz.underlying125
  a26 := Tryz.isAgg125
  z26 := Tryz.sizeOf125
  v26 := Tryz.zeroValue125
  i26 := by kernel_rfl
  t38 := Tryz.underlying133
  a38 := Tryz.isAgg133
  z38 := Tryz.sizeOf133
  v38 := Tryz.zeroValue133
  i38 := by kernel_rfl
  t43 := Tryz.underlying66
  a43 := Tryz.isAgg66
  z43 := Tryz.sizeOf66
  v43 := Tryz.zeroValue66
  i43 := by kernel_rfl
  t45 := Tryz.underlying110
  a45 := Tryz.isAgg110
  z45 := Tryz.sizeOf110
  v45 := Tryz.zeroValue110
  i45 := by kernel_rfl
  t71 := Tryz.underlying118
  a71 := Tryz.isAgg118
  z71 := Tryz.sizeOf118
  v71 := Tryz.zeroValue118
  i71 := by kernel_rfl
  t74 := Tryz.underlying131
  a74 := Tryz.isAgg131
  z74 := Tryz.sizeOf131
  v74 := Tryz.zeroValue131
  i74 := by kernel_rfl }
open Go.RowKit Go.Lib Go.Sort in
theorem Tryz.median_iface {α : Type} [Inhabited α] (T : TypeId) (rv : Value) (gl : Nat) (rL : Reaches Tryz.prog T rv "Less" gl) (enc : α → Value) (lt : α → α → Bool) (blk off : Nat) (w0 W : World) (d : Array α) (a b c cb co s : Nat) (hL : LessM Tryz.prog gl rv enc lt blk off d.size w0) (hW : SW enc w0 blk off d W) (ha : a < d.size) (hb : b < d.size) (hc : c < d.size) (hS : Holds (Value.int .i64) W cb co (one s)) (hcb0 : w0.heap.size ≤ cb) (hcb : cb < W.heap.size) (hs : s + 3 < 4611686018427387904) :
    Calls Tryz.prog 117 #[.iface T rv, .int .i64 a, .int .i64 b, .int .i64 c, .pointer (some ⟨cb, co, none⟩)] W fun e w' =>
      e = .returned (.int .i64 (median lt d a b c s).1) ∧ ∃ n os, w' = sortWorld (Value.int .i64) W cb co n (one (median lt d a b c s).2) os := Any.median_iface Tryz.laysGt47 T rv gl rL enc lt blk off w0 W d a b c cb co s hL hW ha hb hc hS hcb0 hcb hs
def Tryz.laysGt46_ren : Go.Shelf.Ren := ⟨fun | 46 => 116 | 47 => 117 | 50 => 124 | n => n, fun | 45 => 110 | 3 => 3 | 71 => 118 | 74 => 131 | 4 => 4 | 0 => 0 | 43 => 66 | 26 => 125 | 38 => 133 | n => n, fun | n => n⟩
theorem Tryz.laysGt46 : Go.Proofs.LaysGt.n46 Tryz.prog Tryz.laysGt46_ren := {
  mixed := by kernel_rfl
  f46 := Tryz.func116.trans (congrArg some (by kernel_rfl))
  f47 := Tryz.func117.trans (congrArg some (by kernel_rfl))
  f50 := Tryz.func124.trans (congrArg some (by kernel_rfl))
  t0 := Tryz.underlying0
  a0 := Tryz.isAgg0
  z0 := Tryz.sizeOf0
  v0 := Tryz.zeroValue0
  i0 := by kernel_rfl
  t3 := Tryz.underlying3
  a3 := Tryz.isAgg3
  z3 := Tryz.sizeOf3
  v3 := Tryz.zeroValue3
  i3 := by kernel_rfl
  t4 := Tryz.underlying4
  a4 := Tryz.isAgg4
  z4 := Tryz.sizeOf4
  v4 := Tryz.zeroValue4
  i4 := by kernel_rfl
  t26 := Tryz.underlying125
  a26 := Tryz.isAgg125
  z26 := Tryz.sizeOf125
  v26 := Tryz.zeroValue125
  i26 := by kernel_rfl
  t38 := Tryz.underlying133
  a38 := Tryz.isAgg133
  z38 := Tryz.sizeOf133
  v38 := Tryz.zeroValue133
  i38 := by kernel_rfl
  t43 := Tryz.underlying66
  a43 := Tryz.isAgg66
  z43 := Tryz.sizeOf66
  v43 := Tryz.zeroValue66
  i43 := by kernel_rfl
  t45 := Tryz.underlying110
  a45 := Tryz.isAgg110
  z45 := Tryz.sizeOf110
  v45 := Tryz.zeroValue110
  i45 := by kernel_rfl
  t71 := Tryz.underlying118
  a71 := Tryz.isAgg118
  z71 := Tryz.sizeOf118
  v71 := Tryz.zeroValue118
  i71 := by kernel_rfl
  t74 := Tryz.underlying131
  a74 := Tryz.isAgg131
  z74 := Tryz.sizeOf131
  v74 := Tryz.zeroValue131
  i74 := by kernel_rfl }
open Go.RowKit Go.Lib Go.Sort in
theorem Tryz.medianAdjacent_iface {α : Type} [Inhabited α] (T : TypeId) (rv : Value) (gl : Nat) (rL : Reaches Tryz.prog T rv "Less" gl) (enc : α → Value) (lt : α → α → Bool) (blk off : Nat) (w0 W : World) (d : Array α) (a cb co s : Nat) (hL : LessM Tryz.prog gl rv enc lt blk off d.size w0) (hW : SW enc w0 blk off d W) (ha1 : 1 ≤ a) (ha2 : a + 1 < d.size) (hsz : d.size < 4611686018427387904) (hS : Holds (Value.int .i64) W cb co (one s)) (hcb0 : w0.heap.size ≤ cb) (hcb : cb < W.heap.size) (hs : s + 3 < 4611686018427387904) :
    Calls Tryz.prog 116 #[.iface T rv, .int .i64 a, .pointer (some ⟨cb, co, none⟩)] W fun e w' =>
      e = .returned (.int .i64 (medianAdjacent lt d a s).1) ∧ ∃ n os, w' = sortWorld (Value.int .i64) W cb co n (one (medianAdjacent lt d a s).2) os := Any.medianAdjacent_iface Tryz.laysGt46 T rv gl rL enc lt blk off w0 W d a cb co s hL hW ha1 ha2 hsz hS hcb0 hcb hs
def Tryz.laysGt36_ren : Go.Shelf.Ren := ⟨fun | 36 => 97 | 46 => 116 | 47 => 117 | 50 => 124 | n => n, fun | 45 => 110 | 3 => 3 | 60 => 121 | 0 => 0 | 4 => 4 | 71 => 118 | 74 => 131 | 43 => 66 | 26 => 125 | 38 => 133 | n => n, fun | n => n⟩
theorem Tryz.laysGt36 : Go.Proofs.LaysGt.n36 Tryz.prog Tryz.laysGt36_ren := {
  mixed := by kernel_rfl
  f36 := Tryz.func97.trans (congrArg some (by kernel_rfl))
  f46 := Tryz.func116.trans (congrArg some (by kernel_rfl))
  f47 := Tryz.func117.trans (congrArg some (by kernel_rfl))
  f50 := Tryz.func124.trans (congrArg some (by kernel_rfl))
  t0 := Tryz.underlying0
  a0 := Tryz.isAgg0
  z0 := Tryz.sizeOf0
  v0 := Tryz.zeroValue0
  i0 := by kernel_rfl
  t3 := Tryz.underlying3
  a3 := Tryz.isAgg3
  z3 := Tryz.sizeOf3
  v3 := Tryz.zeroValue3
  i3 := by kernel_rfl
  t4 := Tryz.underlying4
  a4 := Tryz.isAgg4
  z4 := Tryz.sizeOf4
  v4 := Tryz.zeroValue4
  i4 := by kernel_rfl
  t26 := Tryz.underlying125
  a26 := Tryz.isAgg125
  z26 := Tryz.sizeOf125
  v26 := Tryz.zeroValue125
  i26 := by kernel_rfl
  t38 := Tryz.underlying133
  a38 := Tryz.isAgg133
  z38 := Tryz.sizeOf133
  v38 := Tryz.zeroValue133
  i38 := by kernel_rfl
  t43 := Tryz.underlying66
  a43 := Tryz.isAgg66
  z43 := Tryz.sizeOf66
  v43 := Tryz.zeroValue66
  i43 := by kernel_rfl
  t45 := Tryz.underlying110
  a45 := Tryz.isAgg110
  z45 := Tryz.sizeOf110
  v45 := Tryz.zeroValue110
  i45 := by kernel_rfl
  t60 := Tryz.underlying121
  a60 := Tryz.isAgg121
  z60 := Tryz.sizeOf121
  v60 := Tryz.zeroValue121
  i60 := by kernel_rfl
  t71 := Tryz.underlying118
  a71 := Tryz.isAgg118
  z71 := Tryz.sizeOf118
  v71 := Tryz.zeroValue118
  i71 := by kernel_rfl
  t74 := Tryz.underlying131
  a74 := Tryz.isAgg131
  z74 := Tryz.sizeOf131
  v74 := Tryz.zeroValue131
  i74 := by kernel_rfl }
open Go.RowKit Go.Lib Go.Sort in
/-- sort.choosePivot (zsortinterface.go): THE LIBRARY's OWN TEXT COMPUTES 'Sort.choosePivot lt d a b'; the row is not turned; W is grown. (Derived/Shelf/GgSortFunc/Pivot.lean's text, turned by program.) (LAID: no walk: one application.) -/
theorem Tryz.choosePivot_iface {α : Type} [Inhabited α] (T : TypeId) (rv : Value) (gl : Nat) (rL : Reaches Tryz.prog T rv "Less" gl) (enc : α → Value) (lt : α → α → Bool) (blk off a b : Nat) (W : World) (d : Array α) (hless : LessM Tryz.prog gl rv enc lt blk off d.size W) (hH : Holds enc W blk off d) (hab : a < b) (hb : b ≤ d.size) (hsz : d.size < 4611686018427387904) :
    Calls Tryz.prog 97 #[.iface T rv, .int .i64 a, .int .i64 b] W fun e w' =>
      e = .returned (.tuple #[.int .i64 (choosePivot lt d a b).1, .int .i64 (hintCode (choosePivot lt d a b).2)]) ∧ ∃ n os, w' = grow (Sort.ahead W n) os := Any.choosePivot_iface Tryz.laysGt36 T rv gl rL enc lt blk off a b W d hless hH hab hb hsz
def Tryz.laysGt39_ren : Go.Shelf.Ren := ⟨fun | 39 => 100 | n => n, fun | 45 => 110 | 3 => 3 | 0 => 0 | 4 => 4 | 43 => 66 | 26 => 125 | 38 => 133 | n => n, fun | n => n⟩
theorem Tryz.laysGt39 : Go.Proofs.LaysGt.n39 Tryz.prog Tryz.laysGt39_ren := {
  mixed := by kernel_rfl
  f39 := Tryz.func100.trans (congrArg some (by kernel_rfl))
  t0 := Tryz.underlying0
  a0 := Tryz.isAgg0
  z0 := Tryz.sizeOf0
  v0 := Tryz.zeroValue0
  i0 := by kernel_rfl
  t3 := Tryz.underlying3
  a3 := Tryz.isAgg3
  z3 := Tryz.sizeOf3
  v3 := Tryz.zeroValue3
  i3 := by kernel_rfl
  t4 := Tryz.underlying4
  a4 := Tryz.isAgg4
  z4 := Tryz.sizeOf4
  v4 := Tryz.zeroValue4
  i4 := by kernel_rfl
  t26 := Tryz.underlying125
  a26 := Tryz.isAgg125
  z26 := Tryz.sizeOf125
  v26 := Tryz.zeroValue125
  i26 := by kernel_rfl
  t38 := Tryz.underlying133
  a38 := Tryz.isAgg133
  z38 := Tryz.sizeOf133
  v38 := Tryz.zeroValue133
  i38 := by kernel_rfl
  t43 := Tryz.underlying66
  a43 := Tryz.isAgg66
  z43 := Tryz.sizeOf66
  v43 := Tryz.zeroValue66
  i43 := by kernel_rfl
  t45 := Tryz.underlying110
  a45 := Tryz.isAgg110
  z45 := Tryz.sizeOf110
  v45 := Tryz.zeroValue110
  i45 := by kernel_rfl }
open Go.RowKit Go.Lib Go.Sort in
theorem Tryz.partitionEqual_iface {α : Type} [Inhabited α] (T : TypeId) (rv : Value) (gl gs : Nat) (rL : Reaches Tryz.prog T rv "Less" gl) (rS : Reaches Tryz.prog T rv "Swap" gs) (enc : α → Value) (lt : α → α → Bool) (blk off a b pivot : Nat) (d : Array α) (W : World) (hless : LessM Tryz.prog gl rv enc lt blk off d.size W) (hswap : SwapM Tryz.prog gs rv enc blk off d.size) (hH : Holds enc W blk off d) (hap : a ≤ pivot) (hpb : pivot < b) (hb : b ≤ d.size) (hsz : d.size < 4611686018427387904) :
    Calls Tryz.prog 100 #[.iface T rv, .int .i64 a, .int .i64 b, .int .i64 pivot] W fun e w' =>
      e = .returned (.int .i64 (Sort.partitionEqual lt d a b pivot).1) ∧ ∃ n, w' = (putRow enc W blk off (Sort.partitionEqual lt d a b pivot).2).drewN n := Any.partitionEqual_iface Tryz.laysGt39 T rv gl gs rL rS enc lt blk off a b pivot d W hless hswap hH hap hpb hb hsz
def Tryz.laysGt40_ren : Go.Shelf.Ren := ⟨fun | 40 => 101 | n => n, fun | 45 => 110 | 3 => 3 | 4 => 4 | 0 => 0 | 43 => 66 | 26 => 125 | 38 => 133 | n => n, fun | n => n⟩
theorem Tryz.laysGt40 : Go.Proofs.LaysGt.n40 Tryz.prog Tryz.laysGt40_ren := {
  mixed := by kernel_rfl
  f40 := Tryz.func101.trans (congrArg some (by kernel_rfl))
  t0 := Tryz.underlying0
  a0 := Tryz.isAgg0
  z0 := Tryz.sizeOf0
  v0 := Tryz.zeroValue0
  i0 := by kernel_rfl
  t3 := Tryz.underlying3
  a3 := Tryz.isAgg3
  z3 := Tryz.sizeOf3
  v3 := Tryz.zeroValue3
  i3 := by kernel_rfl
  t4 := Tryz.underlying4
  a4 := Tryz.isAgg4
  z4 := Tryz.sizeOf4
  v4 := Tryz.zeroValue4
  i4 := by kernel_rfl
  t26 := Tryz.underlying125
  a26 := Tryz.isAgg125
  z26 := Tryz.sizeOf125
  v26 := Tryz.zeroValue125
  i26 := by kernel_rfl
  t38 := Tryz.underlying133
  a38 := Tryz.isAgg133
  z38 := Tryz.sizeOf133
  v38 := Tryz.zeroValue133
  i38 := by kernel_rfl
  t43 := Tryz.underlying66
  a43 := Tryz.isAgg66
  z43 := Tryz.sizeOf66
  v43 := Tryz.zeroValue66
  i43 := by kernel_rfl
  t45 := Tryz.underlying110
  a45 := Tryz.isAgg110
  z45 := Tryz.sizeOf110
  v45 := Tryz.zeroValue110
  i45 := by kernel_rfl }
open Go.RowKit Go.Lib Go.Sort in
theorem Tryz.partition_iface {α : Type} [Inhabited α] (T : TypeId) (rv : Value) (gl gs : Nat) (rL : Reaches Tryz.prog T rv "Less" gl) (rS : Reaches Tryz.prog T rv "Swap" gs) (enc : α → Value) (lt : α → α → Bool) (blk off a b pivot : Nat) (d : Array α) (W : World) (hless : LessM Tryz.prog gl rv enc lt blk off d.size W) (hswap : SwapM Tryz.prog gs rv enc blk off d.size) (hH : Holds enc W blk off d) (hap : a ≤ pivot) (hpb : pivot < b) (hb : b ≤ d.size) (hsz : d.size < 4611686018427387904) :
    Calls Tryz.prog 101 #[.iface T rv, .int .i64 a, .int .i64 b, .int .i64 pivot] W fun e w' =>
      e = .returned (.tuple #[.int .i64 (Sort.partition lt d a b pivot).1, .bool (Sort.partition lt d a b pivot).2.1]) ∧ ∃ n, w' = (putRow enc W blk off (Sort.partition lt d a b pivot).2.2).drewN n := Any.partition_iface Tryz.laysGt40 T rv gl gs rL rS enc lt blk off a b pivot d W hless hswap hH hap hpb hb hsz
open Go.RowKit Go.Lib Go.Sort in
theorem Tryz.partitionEqual_iface_w {α : Type} [Inhabited α] (T : TypeId) (rv : Value) (gl gs : Nat) (rL : Reaches Tryz.prog T rv "Less" gl) (rS : Reaches Tryz.prog T rv "Swap" gs) (enc : α → Value) (lt : α → α → Bool) (blk off a b pivot : Nat) (d : Array α) (W : World) (hless : LessM Tryz.prog gl rv enc lt blk off d.size W) (hswap : SwapM Tryz.prog gs rv enc blk off d.size) (hH : Holds enc W blk off d) (hap : a ≤ pivot) (hpb : pivot < b) (hb : b ≤ d.size) (hsz : d.size < 4611686018427387904) :
    Calls Tryz.prog 100 #[.iface T rv, .int .i64 a, .int .i64 b, .int .i64 pivot] W fun e w' => e = .returned (.int .i64 (Sort.partitionEqual lt d a b pivot).1) ∧ ∃ n os, w' = sortWorld enc W blk off n (Sort.partitionEqual lt d a b pivot).2 os := Any.partitionEqual_iface_w Tryz.laysGt39 T rv gl gs rL rS enc lt blk off a b pivot d W hless hswap hH hap hpb hb hsz
open Go.RowKit Go.Lib Go.Sort in
theorem Tryz.partition_iface_w {α : Type} [Inhabited α] (T : TypeId) (rv : Value) (gl gs : Nat) (rL : Reaches Tryz.prog T rv "Less" gl) (rS : Reaches Tryz.prog T rv "Swap" gs) (enc : α → Value) (lt : α → α → Bool) (blk off a b pivot : Nat) (d : Array α) (W : World) (hless : LessM Tryz.prog gl rv enc lt blk off d.size W) (hswap : SwapM Tryz.prog gs rv enc blk off d.size) (hH : Holds enc W blk off d) (hap : a ≤ pivot) (hpb : pivot < b) (hb : b ≤ d.size) (hsz : d.size < 4611686018427387904) :
    Calls Tryz.prog 101 #[.iface T rv, .int .i64 a, .int .i64 b, .int .i64 pivot] W fun e w' => e = .returned (.tuple #[.int .i64 (Sort.partition lt d a b pivot).1, .bool (Sort.partition lt d a b pivot).2.1]) ∧ ∃ n os, w' = sortWorld enc W blk off n (Sort.partition lt d a b pivot).2.2 os := Any.partition_iface_w Tryz.laysGt40 T rv gl gs rL rS enc lt blk off a b pivot d W hless hswap hH hap hpb hb hsz
def Tryz.laysGt18_ren : Go.Shelf.Ren := ⟨fun | 18 => 79 | 33 => 94 | 34 => 95 | 35 => 96 | 36 => 97 | 37 => 98 | 38 => 99 | 39 => 100 | 40 => 101 | 43 => 113 | 44 => 114 | 45 => 115 | 46 => 116 | 47 => 117 | 17 => 45 | 50 => 124 | 31 => 75 | 32 => 76 | n => n, fun | 45 => 110 | 3 => 3 | 4 => 4 | 0 => 0 | 61 => 122 | 60 => 121 | 65 => 104 | 67 => 134 | 47 => 72 | 58 => 26 | 71 => 118 | 73 => 143 | 74 => 131 | 56 => 107 | 5 => 5 | 9 => 9 | 43 => 66 | 26 => 125 | 38 => 133 | n => n, fun | n => n⟩
theorem Tryz.laysGt18 : Go.Proofs.LaysGt.n18 Tryz.prog Tryz.laysGt18_ren := {
  mixed := by kernel_rfl
  f17 := Tryz.func45.trans (congrArg some (by kernel_rfl))
  f18 := Tryz.func79.trans (congrArg some (by kernel_rfl))
  f31 := Tryz.func75.trans (congrArg some (by kernel_rfl))
  f32 := Tryz.func76.trans (congrArg some (by kernel_rfl))
  f33 := Tryz.func94.trans (congrArg some (by kernel_rfl))
  f34 := Tryz.func95.trans (congrArg some (by kernel_rfl))
  f35 := Tryz.func96.trans (congrArg some (by kernel_rfl))
  f36 := Tryz.func97.trans (congrArg some (by kernel_rfl))
  f37 := Tryz.func98.trans (congrArg some (by kernel_rfl))
  f38 := Tryz.func99.trans (congrArg some (by kernel_rfl))
  f39 := Tryz.func100.trans (congrArg some (by kernel_rfl))
  f40 := Tryz.func101.trans (congrArg some (by kernel_rfl))
  f43 := Tryz.func113.trans (congrArg some (by kernel_rfl))
  f44 := Tryz.func114.trans (congrArg some (by kernel_rfl))
  f45 := Tryz.func115.trans (congrArg some (by kernel_rfl))
  f46 := Tryz.func116.trans (congrArg some (by kernel_rfl))
  f47 := Tryz.func117.trans (congrArg some (by kernel_rfl))
  f50 := Tryz.func124.trans (congrArg some (by kernel_rfl))
  t0 := Tryz.underlying0
  a0 := Tryz.isAgg0
  z0 := Tryz.sizeOf0
  v0 := Tryz.zeroValue0
  i0 := by kernel_rfl
  t3 := Tryz.underlying3
  a3 := Tryz.isAgg3
  z3 := Tryz.sizeOf3
  v3 := Tryz.zeroValue3
  i3 := by kernel_rfl
  t4 := Tryz.underlying4
  a4 := Tryz.isAgg4
  z4 := Tryz.sizeOf4
  v4 := Tryz.zeroValue4
  i4 := by kernel_rfl
  t5 := Tryz.underlying5
  a5 := Tryz.isAgg5
  z5 := Tryz.sizeOf5
  v5 := Tryz.zeroValue5
  i5 := by kernel_rfl
  t9 := Tryz.underlying9
  a9 := Tryz.isAgg9
  z9 := Tryz.sizeOf9
  v9 := Tryz.zeroValue9
  i9 := by kernel_rfl
  t26 := Tryz.underlying125
  a26 := Tryz.isAgg125
  z26 := Tryz.sizeOf125
  v26 := Tryz.zeroValue125
  i26 := by kernel_rfl
  t38 := Tryz.underlying133
  a38 := Tryz.isAgg133
  z38 := Tryz.sizeOf133
  v38 := Tryz.zeroValue133
  i38 := by kernel_rfl
  t43 := Tryz.underlying66
  a43 := Tryz.isAgg66
  z43 := Tryz.sizeOf66
  v43 := Tryz.zeroValue66
  i43 := by kernel_rfl
  t45 := Tryz.underlying110
  a45 := Tryz.isAgg110
  z45 := Tryz.sizeOf110
  v45 := Tryz.zeroValue110
  i45 := by kernel_rfl
  t47 := Tryz.underlying72
  a47 := Tryz.isAgg72
  z47 := Tryz.sizeOf72
  v47 := Tryz.zeroValue72
  i47 := by kernel_rfl
  t56 := Tryz.underlying107
  a56 := Tryz.isAgg107
  z56 := Tryz.sizeOf107
  v56 := Tryz.zeroValue107
  i56 := by kernel_rfl
  t58 := Tryz.underlying26
  a58 := Tryz.isAgg26
  z58 := Tryz.sizeOf26
  v58 := Tryz.zeroValue26
  i58 := by kernel_rfl
  t60 := Tryz.underlying121
  a60 := Tryz.isAgg121
  z60 := Tryz.sizeOf121
  v60 := Tryz.zeroValue121
  i60 := by kernel_rfl
  t61 := Tryz.underlying122
  a61 := Tryz.isAgg122
  z61 := Tryz.sizeOf122
  v61 := Tryz.zeroValue122
  i61 := by kernel_rfl
  t65 := Tryz.underlying104
  a65 := Tryz.isAgg104
  z65 := Tryz.sizeOf104
  v65 := Tryz.zeroValue104
  i65 := by kernel_rfl
  t67 := Tryz.underlying134
  a67 := Tryz.isAgg134
  z67 := Tryz.sizeOf134
  v67 := Tryz.zeroValue134
  i67 := by kernel_rfl
  t71 := Tryz.underlying118
  a71 := Tryz.isAgg118
  z71 := Tryz.sizeOf118
  v71 := Tryz.zeroValue118
  i71 := by kernel_rfl
  t73 := Tryz.underlying143
  a73 := Tryz.isAgg143
  z73 := Tryz.sizeOf143
  v73 := Tryz.zeroValue143
  i73 := by kernel_rfl
  t74 := Tryz.underlying131
  a74 := Tryz.isAgg131
  z74 := Tryz.sizeOf131
  v74 := Tryz.zeroValue131
  i74 := by kernel_rfl }
open Go.RowKit Go.Lib Go.Sort in
theorem Tryz.pdqsort_iface {α : Type} [Inhabited α] (T : TypeId) (rv : Value) (gl gs : Nat) (rL : Reaches Tryz.prog T rv "Less" gl) (rS : Reaches Tryz.prog T rv "Swap" gs) (enc : α → Value) (lt : α → α → Bool) (hO : SWO lt) (C : IfaceThree Tryz.prog Tryz.laysGt18_ren T rv gl gs enc lt) :
    ∀ (N blk off a b limit : Nat) (d : Array α) (w : World), b - a < N → LessM Tryz.prog gl rv enc lt blk off d.size w → SwapM Tryz.prog gs rv enc blk off d.size → Holds enc w blk off d → blk < w.heap.size → a ≤ b → b ≤ d.size → d.size < 4611686018427387904 → limit < 4611686018427387904 → Below lt a b d →
    Calls Tryz.prog 79 #[.iface T rv, .int .i64 a, .int .i64 b, .int .i64 limit] w fun e w' => e = .returned (.tuple #[]) ∧ At enc w blk off (pdq lt d a b limit true true) w' := Any.pdqsort_iface Tryz.laysGt18 T rv gl gs rL rS enc lt hO C
def Tryz.laysGt11_ren : Go.Shelf.Ren := ⟨fun | 11 => 47 | 17 => 45 | 18 => 79 | 31 => 75 | 32 => 76 | 33 => 94 | 34 => 95 | 35 => 96 | 36 => 97 | 37 => 98 | 38 => 99 | 39 => 100 | 40 => 101 | 43 => 113 | 44 => 114 | 45 => 115 | 46 => 116 | 47 => 117 | 50 => 124 | n => n, fun | 45 => 110 | 3 => 3 | 4 => 4 | 47 => 72 | 0 => 0 | 56 => 107 | 58 => 26 | 61 => 122 | 60 => 121 | 65 => 104 | 5 => 5 | 9 => 9 | 67 => 134 | 71 => 118 | 73 => 143 | 74 => 131 | 43 => 66 | 26 => 125 | 38 => 133 | n => n, fun | n => n⟩
theorem Tryz.laysGt11 : Go.Proofs.LaysGt.n11 Tryz.prog Tryz.laysGt11_ren := {
  mixed := by kernel_rfl
  f11 := Tryz.func47.trans (congrArg some (by kernel_rfl))
  f17 := Tryz.func45.trans (congrArg some (by kernel_rfl))
  f18 := Tryz.func79.trans (congrArg some (by kernel_rfl))
  f31 := Tryz.func75.trans (congrArg some (by kernel_rfl))
  f32 := Tryz.func76.trans (congrArg some (by kernel_rfl))
  f33 := Tryz.func94.trans (congrArg some (by kernel_rfl))
  f34 := Tryz.func95.trans (congrArg some (by kernel_rfl))
  f35 := Tryz.func96.trans (congrArg some (by kernel_rfl))
  f36 := Tryz.func97.trans (congrArg some (by kernel_rfl))
  f37 := Tryz.func98.trans (congrArg some (by kernel_rfl))
  f38 := Tryz.func99.trans (congrArg some (by kernel_rfl))
  f39 := Tryz.func100.trans (congrArg some (by kernel_rfl))
  f40 := Tryz.func101.trans (congrArg some (by kernel_rfl))
  f43 := Tryz.func113.trans (congrArg some (by kernel_rfl))
  f44 := Tryz.func114.trans (congrArg some (by kernel_rfl))
  f45 := Tryz.func115.trans (congrArg some (by kernel_rfl))
  f46 := Tryz.func116.trans (congrArg some (by kernel_rfl))
  f47 := Tryz.func117.trans (congrArg some (by kernel_rfl))
  f50 := Tryz.func124.trans (congrArg some (by kernel_rfl))
  t0 := Tryz.underlying0
  a0 := Tryz.isAgg0
  z0 := Tryz.sizeOf0
  v0 := Tryz.zeroValue0
  i0 := by kernel_rfl
  t3 := Tryz.underlying3
  a3 := Tryz.isAgg3
  z3 := Tryz.sizeOf3
  v3 := Tryz.zeroValue3
  i3 := by kernel_rfl
  t4 := Tryz.underlying4
  a4 := Tryz.isAgg4
  z4 := Tryz.sizeOf4
  v4 := Tryz.zeroValue4
  i4 := by kernel_rfl
  t5 := Tryz.underlying5
  a5 := Tryz.isAgg5
  z5 := Tryz.sizeOf5
  v5 := Tryz.zeroValue5
  i5 := by kernel_rfl
  t9 := Tryz.underlying9
  a9 := Tryz.isAgg9
  z9 := Tryz.sizeOf9
  v9 := Tryz.zeroValue9
  i9 := by kernel_rfl
  t26 := Tryz.underlying125
  a26 := Tryz.isAgg125
  z26 := Tryz.sizeOf125
  v26 := Tryz.zeroValue125
  i26 := by kernel_rfl
  t38 := Tryz.underlying133
  a38 := Tryz.isAgg133
  z38 := Tryz.sizeOf133
  v38 := Tryz.zeroValue133
  i38 := by kernel_rfl
  t43 := Tryz.underlying66
  a43 := Tryz.isAgg66
  z43 := Tryz.sizeOf66
  v43 := Tryz.zeroValue66
  i43 := by kernel_rfl
  t45 := Tryz.underlying110
  a45 := Tryz.isAgg110
  z45 := Tryz.sizeOf110
  v45 := Tryz.zeroValue110
  i45 := by kernel_rfl
  t47 := Tryz.underlying72
  a47 := Tryz.isAgg72
  z47 := Tryz.sizeOf72
  v47 := Tryz.zeroValue72
  i47 := by kernel_rfl
  t56 := Tryz.underlying107
  a56 := Tryz.isAgg107
  z56 := Tryz.sizeOf107
  v56 := Tryz.zeroValue107
  i56 := by kernel_rfl
  t58 := Tryz.underlying26
  a58 := Tryz.isAgg26
  z58 := Tryz.sizeOf26
  v58 := Tryz.zeroValue26
  i58 := by kernel_rfl
  t60 := Tryz.underlying121
  a60 := Tryz.isAgg121
  z60 := Tryz.sizeOf121
  v60 := Tryz.zeroValue121
  i60 := by kernel_rfl
  t61 := Tryz.underlying122
  a61 := Tryz.isAgg122
  z61 := Tryz.sizeOf122
  v61 := Tryz.zeroValue122
  i61 := by kernel_rfl
  t65 := Tryz.underlying104
  a65 := Tryz.isAgg104
  z65 := Tryz.sizeOf104
  v65 := Tryz.zeroValue104
  i65 := by kernel_rfl
  t67 := Tryz.underlying134
  a67 := Tryz.isAgg134
  z67 := Tryz.sizeOf134
  v67 := Tryz.zeroValue134
  i67 := by kernel_rfl
  t71 := Tryz.underlying118
  a71 := Tryz.isAgg118
  z71 := Tryz.sizeOf118
  v71 := Tryz.zeroValue118
  i71 := by kernel_rfl
  t73 := Tryz.underlying143
  a73 := Tryz.isAgg143
  z73 := Tryz.sizeOf143
  v73 := Tryz.zeroValue143
  i73 := by kernel_rfl
  t74 := Tryz.underlying131
  a74 := Tryz.isAgg131
  z74 := Tryz.sizeOf131
  v74 := Tryz.zeroValue131
  i74 := by kernel_rfl }
open Go.RowKit Go.Lib Go.Sort in
theorem Tryz.sort_Sort_tiny {α : Type} [Inhabited α] (T : TypeId) (rv : Value) (gn : Nat) (rN : Reaches Tryz.prog T rv "Len" gn) (n : Nat) (hn : n ≤ 1) (w : World) (hlen : LenM Tryz.prog gn rv n w) :
    Calls Tryz.prog 47 #[.iface T rv] w fun e w' => e = .returned (.tuple #[]) ∧ ∃ q, w' = w.drewN q := Any.sort_Sort_tiny Tryz.laysGt11 T rv gn rN n hn w hlen
open Go.RowKit Go.Lib Go.Sort in
/-- **sort.Sort: WHAT THE ROW HOLDS, TO THE ELEMENT.** (LAID: no walk: one application.) -/
theorem Tryz.sort_Sort_eq {α : Type} [Inhabited α] (T : TypeId) (rv : Value) (gn gl gs : Nat) (rN : Reaches Tryz.prog T rv "Len" gn) (rL : Reaches Tryz.prog T rv "Less" gl) (rS : Reaches Tryz.prog T rv "Swap" gs) (enc : α → Value) (lt : α → α → Bool) (hO : SWO lt) (blk off : Nat) (d : Array α) (h2 : 2 ≤ d.size) (hsz : d.size < 4611686018427387904) (w : World) (hlen : LenM Tryz.prog gn rv d.size w) (hless : LessM Tryz.prog gl rv enc lt blk off d.size w) (hswap : SwapM Tryz.prog gs rv enc blk off d.size) (hH : Holds enc w blk off d) (hblk : blk < w.heap.size) :
    Calls Tryz.prog 47 #[.iface T rv] w fun e w' => e = .returned (.tuple #[]) ∧ ∃ n os, w' = grow (putRow enc (Sort.ahead w n) blk off (pdq lt d 0 d.size (Lib.bitLen d.size) true true)) os := Any.sort_Sort_eq Tryz.laysGt11 T rv gn gl gs rN rL rS enc lt hO blk off d h2 hsz w hlen hless hswap hH hblk
open Go.RowKit Go.Lib Go.Sort in
/-- **sort.Sort, IN THE DOCUMENTATION's OWN TERMS ("Sort sorts data in ascending order as determined by the Less method. .. The sort is not guaranteed to be stable"): A PERMUTATION OF WHAT THE ROW HELD, SORTED BY 'lt'.** (LAID: no walk: one application.) -/
theorem Tryz.sort_Sort_sorted {α : Type} [Inhabited α] (T : TypeId) (rv : Value) (gn gl gs : Nat) (rN : Reaches Tryz.prog T rv "Len" gn) (rL : Reaches Tryz.prog T rv "Less" gl) (rS : Reaches Tryz.prog T rv "Swap" gs) (enc : α → Value) (lt : α → α → Bool) (hO : SWO lt) (blk off : Nat) (d : Array α) (h2 : 2 ≤ d.size) (hsz : d.size < 4611686018427387904) (w : World) (hlen : LenM Tryz.prog gn rv d.size w) (hless : LessM Tryz.prog gl rv enc lt blk off d.size w) (hswap : SwapM Tryz.prog gs rv enc blk off d.size) (hH : Holds enc w blk off d) (hblk : blk < w.heap.size) :
    Calls Tryz.prog 47 #[.iface T rv] w fun e w' => e = .returned (.tuple #[]) ∧ ∃ d' n os, PermIn 0 d.size d d' ∧ SortedIn lt 0 d.size d' ∧ w' = grow (putRow enc (Sort.ahead w n) blk off d') os := Any.sort_Sort_sorted Tryz.laysGt11 T rv gn gl gs rN rL rS enc lt hO blk off d h2 hsz w hlen hless hswap hH hblk
def Tryz.lays264_ren : Go.Shelf.Ren := ⟨fun | 264 => 125 | n => n, fun | 53 => 26 | 46 => 72 | n => n, fun | n => n⟩
theorem Tryz.lays264 : Go.Proofs.Lays.n264 Tryz.prog Tryz.lays264_ren := {
  mixed := by kernel_rfl
  f264 := Tryz.func125.trans (congrArg some (by kernel_rfl))
  t46 := Tryz.underlying72
  a46 := Tryz.isAgg72
  z46 := Tryz.sizeOf72
  v46 := Tryz.zeroValue72
  t53 := Tryz.underlying26
  a53 := Tryz.isAgg26
  z53 := Tryz.sizeOf26
  v53 := Tryz.zeroValue26 }
open Go.RowKit Go.Lib in
theorem Tryz.bits_Mul64 (x y : Nat) (hx : x < 18446744073709551616) (hy : y < 18446744073709551616) (w : World) :
    Calls Tryz.prog 125 #[.int .u64 x, .int .u64 y] w fun e w' => e = .returned (.tuple #[.int .u64 ((x * y / 18446744073709551616 : Nat) : Int), .int .u64 ((x * y % 18446744073709551616 : Nat) : Int)]) ∧ w' = w := Any.bits_Mul64 Tryz.lays264 x y hx hy w
def Tryz.laysGg36_ren : Go.Shelf.Ren := ⟨fun | 36 => 115 | n => n, fun | 66 => 143 | 51 => 26 | 0 => 0 | 60 => 134 | 41 => 72 | n => n, fun | n => n⟩
theorem Tryz.laysGg36 : Go.Proofs.LaysGg.n36 Tryz.prog Tryz.laysGg36_ren := {
  mixed := by kernel_rfl
  f36 := Tryz.func115.trans (congrArg some (by kernel_rfl))
  t0 := Tryz.underlying0
  a0 := Tryz.isAgg0
  z0 := Tryz.sizeOf0
  v0 := Tryz.zeroValue0
  i0 := by kernel_rfl
  t41 := Tryz.underlying72
  a41 := Tryz.isAgg72
  z41 := Tryz.sizeOf72
  v41 := Tryz.zeroValue72
  i41 := by kernel_rfl
  t51 := Tryz.underlying26
  a51 := Tryz.isAgg26
  z51 := Tryz.sizeOf26
  v51 := Tryz.zeroValue26
  i51 := by kernel_rfl
  t60 := Tryz.underlying134
  a60 := Tryz.isAgg134
  z60 := Tryz.sizeOf134
  v60 := Tryz.zeroValue134
  i60 := by kernel_rfl
  t66 := Tryz.underlying143
  a66 := Tryz.isAgg143
  z66 := Tryz.sizeOf143
  v66 := Tryz.zeroValue143
  i66 := by kernel_rfl }
open Go.RowKit Go.Lib Go.Sort in
/-- '*r ^= *r << 13; *r ^= *r >> 7; *r ^= *r << 17; return uint64(*r)': the cell holds 'xorNextN X' and that is handed back; three draws; nothing else turns. (LAID: no walk: one application.) -/
theorem Tryz.xorshift_Next (rb ro X : Nat) (hX : X < 18446744073709551616) (w : World) (hc : w.cell? ⟨rb, ro, none⟩ = some (.int .u64 X)) (hf : w.frozen? ⟨rb, ro, none⟩ = false) :
    Calls Tryz.prog 115 #[.pointer (some ⟨rb, ro, none⟩)] w fun e w' => e = .returned (.int .u64 (xorNextN X : Nat)) ∧ w' = (w.setCell ⟨rb, ro, none⟩ (.int .u64 (xorNextN X : Nat))).drewN 3 := Any.xorshift_Next Tryz.laysGg36 rb ro X hX w hc hf
def Tryz.laysGg35_ren : Go.Shelf.Ren := ⟨fun | 35 => 114 | 13 => 45 | 24 => 75 | 25 => 76 | n => n, fun | 3 => 3 | 41 => 72 | 49 => 107 | 51 => 26 | 4 => 4 | 5 => 5 | 9 => 9 | n => n, fun | n => n⟩
theorem Tryz.laysGg35 : Go.Proofs.LaysGg.n35 Tryz.prog Tryz.laysGg35_ren := {
  mixed := by kernel_rfl
  f13 := Tryz.func45.trans (congrArg some (by kernel_rfl))
  f24 := Tryz.func75.trans (congrArg some (by kernel_rfl))
  f25 := Tryz.func76.trans (congrArg some (by kernel_rfl))
  f35 := Tryz.func114.trans (congrArg some (by kernel_rfl))
  t3 := Tryz.underlying3
  a3 := Tryz.isAgg3
  z3 := Tryz.sizeOf3
  v3 := Tryz.zeroValue3
  i3 := by kernel_rfl
  t4 := Tryz.underlying4
  a4 := Tryz.isAgg4
  z4 := Tryz.sizeOf4
  v4 := Tryz.zeroValue4
  i4 := by kernel_rfl
  t5 := Tryz.underlying5
  a5 := Tryz.isAgg5
  z5 := Tryz.sizeOf5
  v5 := Tryz.zeroValue5
  i5 := by kernel_rfl
  t9 := Tryz.underlying9
  a9 := Tryz.isAgg9
  z9 := Tryz.sizeOf9
  v9 := Tryz.zeroValue9
  i9 := by kernel_rfl
  t41 := Tryz.underlying72
  a41 := Tryz.isAgg72
  z41 := Tryz.sizeOf72
  v41 := Tryz.zeroValue72
  i41 := by kernel_rfl
  t49 := Tryz.underlying107
  a49 := Tryz.isAgg107
  z49 := Tryz.sizeOf107
  v49 := Tryz.zeroValue107
  i49 := by kernel_rfl
  t51 := Tryz.underlying26
  a51 := Tryz.isAgg26
  z51 := Tryz.sizeOf26
  v51 := Tryz.zeroValue26
  i51 := by kernel_rfl }
open Go.RowKit Go.Lib Go.Sort in
/-- 'return 1 << bits.Len(uint(length))'. (LAID: no walk: one application.) -/
theorem Tryz.nextPowerOfTwo (n : Nat) (hn : n < 4611686018427387904) (w : World) :
    Calls Tryz.prog 114 #[.int .i64 n] w fun e w' => e = .returned (.int .u64 ((1 <<< bitsLen n : Nat) : Int)) ∧ w' = w := Any.nextPowerOfTwo Tryz.laysGg35 n hn w
def Tryz.laysGt43_ren : Go.Shelf.Ren := ⟨fun | 43 => 113 | n => n, fun | 45 => 110 | 3 => 3 | 4 => 4 | 0 => 0 | 43 => 66 | 26 => 125 | 38 => 133 | n => n, fun | n => n⟩
theorem Tryz.laysGt43 : Go.Proofs.LaysGt.n43 Tryz.prog Tryz.laysGt43_ren := {
  mixed := by kernel_rfl
  f43 := Tryz.func113.trans (congrArg some (by kernel_rfl))
  t0 := Tryz.underlying0
  a0 := Tryz.isAgg0
  z0 := Tryz.sizeOf0
  v0 := Tryz.zeroValue0
  i0 := by kernel_rfl
  t3 := Tryz.underlying3
  a3 := Tryz.isAgg3
  z3 := Tryz.sizeOf3
  v3 := Tryz.zeroValue3
  i3 := by kernel_rfl
  t4 := Tryz.underlying4
  a4 := Tryz.isAgg4
  z4 := Tryz.sizeOf4
  v4 := Tryz.zeroValue4
  i4 := by kernel_rfl
  t26 := Tryz.underlying125
  a26 := Tryz.isAgg125
  z26 := Tryz.sizeOf125
  v26 := Tryz.zeroValue125
  i26 := by kernel_rfl
  t38 := Tryz.underlying133
  a38 := Tryz.isAgg133
  z38 := Tryz.sizeOf133
  v38 := Tryz.zeroValue133
  i38 := by kernel_rfl
  t43 := Tryz.underlying66
  a43 := Tryz.isAgg66
  z43 := Tryz.sizeOf66
  v43 := Tryz.zeroValue66
  i43 := by kernel_rfl
  t45 := Tryz.underlying110
  a45 := Tryz.isAgg110
  z45 := Tryz.sizeOf110
  v45 := Tryz.zeroValue110
  i45 := by kernel_rfl }
open Go.RowKit Go.Lib Go.Sort in
theorem Tryz.siftDown_iface {α : Type} [Inhabited α] (T : TypeId) (rv : Value) (gl gs : Nat) (rL : Reaches Tryz.prog T rv "Less" gl) (rS : Reaches Tryz.prog T rv "Swap" gs) (enc : α → Value) (lt : α → α → Bool) (blk off lo hi first : Nat) (d : Array α) (w : World) (hless : LessM Tryz.prog gl rv enc lt blk off d.size w) (hswap : SwapM Tryz.prog gs rv enc blk off d.size) (hH : Holds enc w blk off d) (hlo : lo ≤ hi) (hb : first + hi ≤ d.size) (hsz : d.size < 4611686018427387904) :
    Calls Tryz.prog 113 #[.iface T rv, .int .i64 lo, .int .i64 hi, .int .i64 first] w fun e w' =>
      e = .returned (.tuple #[]) ∧ ∃ n, w' = putRow enc (Sort.ahead w n) blk off (siftDown lt hi first lo d) := Any.siftDown_iface Tryz.laysGt43 T rv gl gs rL rS enc lt blk off lo hi first d w hless hswap hH hlo hb hsz
open Go.RowKit Go.Lib Go.Sort in
/-- sort.siftDown, from a world to a 'sortWorld' of it. (LAID: no walk: one application.) -/
theorem Tryz.siftDown_iface_w {α : Type} [Inhabited α] (T : TypeId) (rv : Value) (gl gs : Nat) (rL : Reaches Tryz.prog T rv "Less" gl) (rS : Reaches Tryz.prog T rv "Swap" gs) (enc : α → Value) (lt : α → α → Bool) (blk off lo hi first : Nat) (d : Array α) (w : World) (hless : LessM Tryz.prog gl rv enc lt blk off d.size w) (hswap : SwapM Tryz.prog gs rv enc blk off d.size) (hH : Holds enc w blk off d) (hlo : lo ≤ hi) (hb : first + hi ≤ d.size) (hsz : d.size < 4611686018427387904) :
    Calls Tryz.prog 113 #[.iface T rv, .int .i64 lo, .int .i64 hi, .int .i64 first] w fun e w' => e = .returned (.tuple #[]) ∧ ∃ n os, w' = sortWorld enc w blk off n (siftDown lt hi first lo d) os := Any.siftDown_iface_w Tryz.laysGt43 T rv gl gs rL rS enc lt blk off lo hi first d w hless hswap hH hlo hb hsz
def Tryz.laysGt34_ren : Go.Shelf.Ren := ⟨fun | 34 => 95 | 43 => 113 | n => n, fun | 45 => 110 | 3 => 3 | 4 => 4 | 0 => 0 | 43 => 66 | 26 => 125 | 38 => 133 | n => n, fun | n => n⟩
theorem Tryz.laysGt34 : Go.Proofs.LaysGt.n34 Tryz.prog Tryz.laysGt34_ren := {
  mixed := by kernel_rfl
  f34 := Tryz.func95.trans (congrArg some (by kernel_rfl))
  f43 := Tryz.func113.trans (congrArg some (by kernel_rfl))
  t0 := Tryz.underlying0
  a0 := Tryz.isAgg0
  z0 := Tryz.sizeOf0
  v0 := Tryz.zeroValue0
  i0 := by kernel_rfl
  t3 := Tryz.underlying3
  a3 := Tryz.isAgg3
  z3 := Tryz.sizeOf3
  v3 := Tryz.zeroValue3
  i3 := by kernel_rfl
  t4 := Tryz.underlying4
  a4 := Tryz.isAgg4
  z4 := Tryz.sizeOf4
  v4 := Tryz.zeroValue4
  i4 := by kernel_rfl
  t26 := Tryz.underlying125
  a26 := Tryz.isAgg125
  z26 := Tryz.sizeOf125
  v26 := Tryz.zeroValue125
  i26 := by kernel_rfl
  t38 := Tryz.underlying133
  a38 := Tryz.isAgg133
  z38 := Tryz.sizeOf133
  v38 := Tryz.zeroValue133
  i38 := by kernel_rfl
  t43 := Tryz.underlying66
  a43 := Tryz.isAgg66
  z43 := Tryz.sizeOf66
  v43 := Tryz.zeroValue66
  i43 := by kernel_rfl
  t45 := Tryz.underlying110
  a45 := Tryz.isAgg110
  z45 := Tryz.sizeOf110
  v45 := Tryz.zeroValue110
  i45 := by kernel_rfl }
open Go.RowKit Go.Lib Go.Sort in
theorem Tryz.heapSort_iface_w {α : Type} [Inhabited α] (T : TypeId) (rv : Value) (gl gs : Nat) (rL : Reaches Tryz.prog T rv "Less" gl) (rS : Reaches Tryz.prog T rv "Swap" gs) (enc : α → Value) (lt : α → α → Bool) (blk off a b : Nat) (d : Array α) (w : World) (hless : LessM Tryz.prog gl rv enc lt blk off d.size w) (hswap : SwapM Tryz.prog gs rv enc blk off d.size) (hH : Holds enc w blk off d) (hblk : blk < w.heap.size) (hab : a ≤ b) (hb : b ≤ d.size) (hsz : d.size < 4611686018427387904) :
    Calls Tryz.prog 95 #[.iface T rv, .int .i64 a, .int .i64 b] w fun e w' => e = .returned (.tuple #[]) ∧ ∃ n os, w' = sortWorld enc w blk off n (heapSort lt d a b) os := Any.heapSort_iface_w Tryz.laysGt34 T rv gl gs rL rS enc lt blk off a b d w hless hswap hH hblk hab hb hsz
def Tryz.laysGt38_ren : Go.Shelf.Ren := ⟨fun | 38 => 99 | n => n, fun | 45 => 110 | 3 => 3 | 4 => 4 | 0 => 0 | 43 => 66 | 26 => 125 | 38 => 133 | n => n, fun | n => n⟩
theorem Tryz.laysGt38 : Go.Proofs.LaysGt.n38 Tryz.prog Tryz.laysGt38_ren := {
  mixed := by kernel_rfl
  f38 := Tryz.func99.trans (congrArg some (by kernel_rfl))
  t0 := Tryz.underlying0
  a0 := Tryz.isAgg0
  z0 := Tryz.sizeOf0
  v0 := Tryz.zeroValue0
  i0 := by kernel_rfl
  t3 := Tryz.underlying3
  a3 := Tryz.isAgg3
  z3 := Tryz.sizeOf3
  v3 := Tryz.zeroValue3
  i3 := by kernel_rfl
  t4 := Tryz.underlying4
  a4 := Tryz.isAgg4
  z4 := Tryz.sizeOf4
  v4 := Tryz.zeroValue4
  i4 := by kernel_rfl
  t26 := Tryz.underlying125
  a26 := Tryz.isAgg125
  z26 := Tryz.sizeOf125
  v26 := Tryz.zeroValue125
  i26 := by kernel_rfl
  t38 := Tryz.underlying133
  a38 := Tryz.isAgg133
  z38 := Tryz.sizeOf133
  v38 := Tryz.zeroValue133
  i38 := by kernel_rfl
  t43 := Tryz.underlying66
  a43 := Tryz.isAgg66
  z43 := Tryz.sizeOf66
  v43 := Tryz.zeroValue66
  i43 := by kernel_rfl
  t45 := Tryz.underlying110
  a45 := Tryz.isAgg110
  z45 := Tryz.sizeOf110
  v45 := Tryz.zeroValue110
  i45 := by kernel_rfl }
open Go.RowKit Go.Lib Go.Sort in
theorem Tryz.partialInsertionSort_iface {α : Type} [Inhabited α] (T : TypeId) (rv : Value) (gl gs : Nat) (rL : Reaches Tryz.prog T rv "Less" gl) (rS : Reaches Tryz.prog T rv "Swap" gs) (enc : α → Value) (lt : α → α → Bool) (blk off a b : Nat) (d : Array α) (w : World) (hless : LessM Tryz.prog gl rv enc lt blk off d.size w) (hswap : SwapM Tryz.prog gs rv enc blk off d.size) (hH : Holds enc w blk off d) (hab : a < b) (hb : b ≤ d.size) (hsz : d.size < 4611686018427387904) :
    Calls Tryz.prog 99 #[.iface T rv, .int .i64 a, .int .i64 b] w fun e w' =>
      e = .returned (.bool (Sort.partialInsertionSort lt d a b).2) ∧ ∃ n, w' = putRow enc (Sort.ahead w n) blk off (Sort.partialInsertionSort lt d a b).1 := Any.partialInsertionSort_iface Tryz.laysGt38 T rv gl gs rL rS enc lt blk off a b d w hless hswap hH hab hb hsz
open Go.RowKit Go.Lib Go.Sort in
/-- sort.partialInsertionSort, from a world to a 'sortWorld' of it. (LAID: no walk: one application.) -/
theorem Tryz.partialInsertionSort_iface_w {α : Type} [Inhabited α] (T : TypeId) (rv : Value) (gl gs : Nat) (rL : Reaches Tryz.prog T rv "Less" gl) (rS : Reaches Tryz.prog T rv "Swap" gs) (enc : α → Value) (lt : α → α → Bool) (blk off a b : Nat) (d : Array α) (w : World) (hless : LessM Tryz.prog gl rv enc lt blk off d.size w) (hswap : SwapM Tryz.prog gs rv enc blk off d.size) (hH : Holds enc w blk off d) (hab : a < b) (hb : b ≤ d.size) (hsz : d.size < 4611686018427387904) :
    Calls Tryz.prog 99 #[.iface T rv, .int .i64 a, .int .i64 b] w fun e w' => e = .returned (.bool (Sort.partialInsertionSort lt d a b).2) ∧ ∃ n os, w' = sortWorld enc w blk off n (Sort.partialInsertionSort lt d a b).1 os := Any.partialInsertionSort_iface_w Tryz.laysGt38 T rv gl gs rL rS enc lt blk off a b d w hless hswap hH hab hb hsz
def Tryz.laysSlE041_f27_ren : Go.Shelf.Ren := ⟨fun | 41 => 27 | n => n, fun | 22 => 23 | 23 => 29 | 4 => 4 | n => n, fun | n => n⟩
theorem Tryz.laysSlE041_f27 : Go.Proofs.SlLaysE0.n41 Tryz.prog Tryz.laysSlE041_f27_ren := {
  mixed := by kernel_rfl
  f41 := ⟨Tryz.f27.name, by decide, Tryz.func27.trans (congrArg some (by kernel_rfl))⟩
  t4 := Tryz.underlying4
  a4 := Tryz.isAgg4
  z4 := Tryz.sizeOf4
  v4 := Tryz.zeroValue4
  t22 := Tryz.underlying23
  a22 := Tryz.isAgg23
  z22 := Tryz.sizeOf23
  v22 := Tryz.zeroValue23 }
open Go.RowKit Go.Lib in
/-- slices.Clone: "Clone returns a copy of the slice. The elements are copied using assignment, so this is a shallow clone. The result may have additional unused capacity. The result preserves the nilness of s.": OF A SLICE THAT IS NOT nil IT RETURNS A SLICE THAT IS NOT nil, OF THE SAME CELLS, IN MEMORY OF THE CALL's OWN ('ownsRow': the how-to's 6f); below the heap's size at the call all is as it was. (LAID AT THE INSTANCE 'slices.Clone[[]float64,float64]': no walk: one application.) -/
theorem Tryz.slices_Clone (i0 : TypeInfo) (z : Value) (size bytes : Nat) (hi : Tryz.prog.info? 29 = some i0) (hz0 : i0.zero = some z) (hz1 : i0.size = size) (hz2 : i0.bytes = bytes) (hzs : z.cells.size = size) (hsz : 0 < size) (z23 : ∀ w, (Go.sizeOf 29).run Tryz.prog w = .ok size w) (b off n c : Nat) (news : List Value) (w : World) (hl : news.length = n * size) (hn : n ≤ maxLen) (hbig : n * bytes ≤ 140737488355328) (hc : ∀ j u, news[j]? = some u → w.cell? ⟨b, off + j, none⟩ = some u) (h1 : ∀ u ∈ news, u.oneCell' = true) :
    Calls Tryz.prog 27 #[.slice (some ⟨b, off, none⟩) n c] w fun e w' => ∃ v', e = .returned v' ∧ w'.ownsRow w.heap.size 29 size v' n news ∧ v' ≠ .slice none 0 0 ∧ Below w.heap.size w w' := AnyE.slices_Clone Tryz.laysSlE041_f27 i0 z size bytes hi hz0 hz1 hz2 hzs hsz z23 b off n c news w hl hn hbig hc h1
open Go.RowKit Go.Lib in
/-- The same at nil: nil comes back; the world is as it was; nothing is asked of the element's type. (LAID AT THE INSTANCE 'slices.Clone[[]float64,float64]': no walk: one application.) -/
theorem Tryz.slices_Clone_nil (n c : Nat) (w : World) :
    Calls Tryz.prog 27 #[.slice none n c] w fun e w' => e = .returned (.slice none 0 0) ∧ w' = w := AnyE.slices_Clone_nil Tryz.laysSlE041_f27 n c w
end Go.Proofs
