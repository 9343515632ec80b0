/-
  DERIVED: THE SHELF's CONTRACTS AT THIS DUMP, IN PLAIN WORDS (tools/lay-plain.mjs out of 'TryzShelf.lean', which tools/lay-shelf.mjs wrote): THE SAME DECLARATIONS UNDER THE SAME NAMES: 'import', 'namespace', 'open', 'def', 'theorem' AND NOTHING ELSE: no command of the shelf's: FOR A HAND-IN. Each laying: the table of numbers ('.._ren') and one theorem, a field a fact of the dump's own or the kernel's comparison; each contract: ONE APPLICATION.
-/
import Derived.Shelf.Small.Bits
import Derived.Shelf.Strconv.Itoa0
import Derived.Ground.GgtProg
import Derived.Shelf.GgSortMore.Iface
import Derived.Shelf.GgSortMore.IfaceD
import Derived.Shelf.GgSortMore.IfacePart
import Derived.Shelf.GgSortMore.IfacePdq
import Derived.Shelf.GgSortMore.SortSort
import Derived.Shelf.Slices.Equal
import Derived.Shelf.Slices.Empties2
import Derived.Ground.GgsProg
import Derived.Shelf.SlSortFunc.Xorshift
import Derived.Shelf.SlSortIface.SiftDown
import Derived.Shelf.SlSortIface.HeapSort
import Derived.Shelf.SlSortIface.PartialInsertion
import Derived.Ground.SlgnProg
import Derived.Shelf.SlicesE.Clone
import Derived.Test.YthcgojhfbcgaiaaGreatProg
namespace Go.Proofs
open Go.Shelf
def Tryz.lays128_ren : Go.Shelf.Ren := ⟨fun | 128 => 38 | n => n, fun | 51 => 73 | 3 => 3 | 4 => 4 | 46 => 51 | 5 => 5 | 9 => 9 | n => n, fun | n => n⟩
theorem Tryz.lays128 : Go.Proofs.Lays.n128 Tryz.prog Tryz.lays128_ren := {
  mixed := by kernel_rfl
  f128 := Tryz.func38.trans (congrArg some (by kernel_rfl))
  t3 := Tryz.underlying3
  a3 := Tryz.isAgg3
  z3 := Tryz.sizeOf3
  v3 := Tryz.zeroValue3
  t4 := Tryz.underlying4
  a4 := Tryz.isAgg4
  z4 := Tryz.sizeOf4
  v4 := Tryz.zeroValue4
  t5 := Tryz.underlying5
  a5 := Tryz.isAgg5
  z5 := Tryz.sizeOf5
  v5 := Tryz.zeroValue5
  t9 := Tryz.underlying9
  a9 := Tryz.isAgg9
  z9 := Tryz.sizeOf9
  v9 := Tryz.zeroValue9
  t46 := Tryz.underlying51
  a46 := Tryz.isAgg51
  z46 := Tryz.sizeOf51
  v46 := Tryz.zeroValue51
  t51 := Tryz.underlying73
  a51 := Tryz.isAgg73
  z51 := Tryz.sizeOf73
  v51 := Tryz.zeroValue73 }
/-- bits.Len32: "Len32 returns the minimum number of bits required to represent x; the result is 0 for x == 0.": IT RETURNS 'Lib.bitLen x'; the world is as it was. ('h0', 'h1': x is a uint32.) (LAID: no walk: one application.) -/
theorem Tryz.bits_Len32 (x : Int) (w : World) (h0 : 0 ≤ x) (h1 : x ≤ 4294967295) :
    Calls Tryz.prog 38 #[.int .u32 x] w fun e w' => e = .returned (.int .i64 (Lib.bitLen x.toNat)) ∧ w' = w := Any.bits_Len32 Tryz.lays128 x w h0 h1
def Tryz.lays125_ren : Go.Shelf.Ren := ⟨fun | 125 => 21 | 128 => 38 | 129 => 39 | n => n, fun | 46 => 51 | 3 => 3 | 51 => 73 | 53 => 75 | 4 => 4 | 5 => 5 | 9 => 9 | n => n, fun | n => n⟩
theorem Tryz.lays125 : Go.Proofs.Lays.n125 Tryz.prog Tryz.lays125_ren := {
  mixed := by kernel_rfl
  f125 := Tryz.func21.trans (congrArg some (by kernel_rfl))
  f128 := Tryz.func38.trans (congrArg some (by kernel_rfl))
  f129 := Tryz.func39.trans (congrArg some (by kernel_rfl))
  t3 := Tryz.underlying3
  a3 := Tryz.isAgg3
  z3 := Tryz.sizeOf3
  v3 := Tryz.zeroValue3
  t4 := Tryz.underlying4
  a4 := Tryz.isAgg4
  z4 := Tryz.sizeOf4
  v4 := Tryz.zeroValue4
  t5 := Tryz.underlying5
  a5 := Tryz.isAgg5
  z5 := Tryz.sizeOf5
  v5 := Tryz.zeroValue5
  t9 := Tryz.underlying9
  a9 := Tryz.isAgg9
  z9 := Tryz.sizeOf9
  v9 := Tryz.zeroValue9
  t46 := Tryz.underlying51
  a46 := Tryz.isAgg51
  z46 := Tryz.sizeOf51
  v46 := Tryz.zeroValue51
  t51 := Tryz.underlying73
  a51 := Tryz.isAgg73
  z51 := Tryz.sizeOf73
  v51 := Tryz.zeroValue73
  t53 := Tryz.underlying75
  a53 := Tryz.isAgg75
  z53 := Tryz.sizeOf75
  v53 := Tryz.zeroValue75 }
/-- bits.Len: "Len returns the minimum number of bits required to represent x; the result is 0 for x == 0.": IT RETURNS 'Lib.bitLen x'; the world is as it was. (A uint has 64 bits in the model.) ITS CALLEE bits.Len64 IS MET BY ITS OWN CONTRACT OFF THE SHELF (lay that first). (LAID: no walk: one application.) -/
theorem Tryz.bits_Len (x : Int) (w : World) (h0 : 0 ≤ x) (h1 : x ≤ 18446744073709551615) :
    Calls Tryz.prog 21 #[.int .u64 x] w fun e w' => e = .returned (.int .i64 (Lib.bitLen x.toNat)) ∧ w' = w := Any.bits_Len Tryz.lays125 x w h0 h1
def Tryz.lays129_ren : Go.Shelf.Ren := ⟨fun | 129 => 39 | n => n, fun | 53 => 75 | 3 => 3 | 4 => 4 | 46 => 51 | 5 => 5 | 9 => 9 | n => n, fun | n => n⟩
theorem Tryz.lays129 : Go.Proofs.Lays.n129 Tryz.prog Tryz.lays129_ren := {
  mixed := by kernel_rfl
  f129 := Tryz.func39.trans (congrArg some (by kernel_rfl))
  t3 := Tryz.underlying3
  a3 := Tryz.isAgg3
  z3 := Tryz.sizeOf3
  v3 := Tryz.zeroValue3
  t4 := Tryz.underlying4
  a4 := Tryz.isAgg4
  z4 := Tryz.sizeOf4
  v4 := Tryz.zeroValue4
  t5 := Tryz.underlying5
  a5 := Tryz.isAgg5
  z5 := Tryz.sizeOf5
  v5 := Tryz.zeroValue5
  t9 := Tryz.underlying9
  a9 := Tryz.isAgg9
  z9 := Tryz.sizeOf9
  v9 := Tryz.zeroValue9
  t46 := Tryz.underlying51
  a46 := Tryz.isAgg51
  z46 := Tryz.sizeOf51
  v46 := Tryz.zeroValue51
  t53 := Tryz.underlying75
  a53 := Tryz.isAgg75
  z53 := Tryz.sizeOf75
  v53 := Tryz.zeroValue75 }
/-- bits.Len64: "Len64 returns the minimum number of bits required to represent x; the result is 0 for x == 0.": IT RETURNS 'Lib.bitLen x'; the world is as it was. ('h0', 'h1': x is a uint64.) (LAID: no walk: one application.) -/
theorem Tryz.bits_Len64 (x : Int) (w : World) (h0 : 0 ≤ x) (h1 : x ≤ 18446744073709551615) :
    Calls Tryz.prog 39 #[.int .u64 x] w fun e w' => e = .returned (.int .i64 (Lib.bitLen x.toNat)) ∧ w' = w := Any.bits_Len64 Tryz.lays129 x w h0 h1
def Tryz.laysGt33_ren : Go.Shelf.Ren := ⟨fun | 33 => 76 | n => n, fun | 45 => 119 | 3 => 3 | 4 => 4 | 0 => 0 | 43 => 63 | 26 => 116 | 38 => 117 | n => n, fun | n => n⟩
theorem Tryz.laysGt33 : Go.Proofs.LaysGt.n33 Tryz.prog Tryz.laysGt33_ren := {
  mixed := by kernel_rfl
  f33 := Tryz.func76.trans (congrArg some (by kernel_rfl))
  t0 := Tryz.underlying0
  a0 := Tryz.isAgg0
  z0 := Tryz.sizeOf0
  v0 := Tryz.zeroValue0
  i0 := by kernel_rfl
  t3 := Tryz.underlying3
  a3 := Tryz.isAgg3
  z3 := Tryz.sizeOf3
  v3 := Tryz.zeroValue3
  i3 := by kernel_rfl
  t4 := Tryz.underlying4
  a4 := Tryz.isAgg4
  z4 := Tryz.sizeOf4
  v4 := Tryz.zeroValue4
  i4 := by kernel_rfl
  t26 := Tryz.underlying116
  a26 := Tryz.isAgg116
  z26 := Tryz.sizeOf116
  v26 := Tryz.zeroValue116
  i26 := by kernel_rfl
  t38 := Tryz.underlying117
  a38 := Tryz.isAgg117
  z38 := Tryz.sizeOf117
  v38 := Tryz.zeroValue117
  i38 := by kernel_rfl
  t43 := Tryz.underlying63
  a43 := Tryz.isAgg63
  z43 := Tryz.sizeOf63
  v43 := Tryz.zeroValue63
  i43 := by kernel_rfl
  t45 := Tryz.underlying119
  a45 := Tryz.isAgg119
  z45 := Tryz.sizeOf119
  v45 := Tryz.zeroValue119
  i45 := by kernel_rfl }
open Go.RowKit Go.Lib Go.Sort in
theorem Tryz.insertionSort_iface {α : Type} [Inhabited α] (T : TypeId) (rv : Value) (gl gs : Nat) (rL : Reaches Tryz.prog T rv "Less" gl) (rS : Reaches Tryz.prog T rv "Swap" gs) (enc : α → Value) (lt : α → α → Bool) (blk off a b : Nat) (d : Array α) (w : World) (hless : LessM Tryz.prog gl rv enc lt blk off d.size w) (hswap : SwapM Tryz.prog gs rv enc blk off d.size) (hH : Holds enc w blk off d) (hab : a ≤ b) (hb : b ≤ d.size) (hsz : d.size < 4611686018427387904) :
    Calls Tryz.prog 76 #[.iface T rv, .int .i64 a, .int .i64 b] w fun e w' =>
      e = .returned (.tuple #[]) ∧ ∃ n, w' = putRow enc (Sort.ahead w n) blk off (Sort.insertionSort lt d a b) := Any.insertionSort_iface Tryz.laysGt33 T rv gl gs rL rS enc lt blk off a b d w hless hswap hH hab hb hsz
open Go.RowKit Go.Lib Go.Sort in
/-- sort.insertionSort, from a world to a 'sortWorld' of it. (LAID: no walk: one application.) -/
theorem Tryz.insertionSort_iface_w {α : Type} [Inhabited α] (T : TypeId) (rv : Value) (gl gs : Nat) (rL : Reaches Tryz.prog T rv "Less" gl) (rS : Reaches Tryz.prog T rv "Swap" gs) (enc : α → Value) (lt : α → α → Bool) (blk off a b : Nat) (d : Array α) (w : World) (hless : LessM Tryz.prog gl rv enc lt blk off d.size w) (hswap : SwapM Tryz.prog gs rv enc blk off d.size) (hH : Holds enc w blk off d) (hab : a ≤ b) (hb : b ≤ d.size) (hsz : d.size < 4611686018427387904) :
    Calls Tryz.prog 76 #[.iface T rv, .int .i64 a, .int .i64 b] w fun e w' => e = .returned (.tuple #[]) ∧ ∃ n os, w' = sortWorld enc w blk off n (Sort.insertionSort lt d a b) os := Any.insertionSort_iface_w Tryz.laysGt33 T rv gl gs rL rS enc lt blk off a b d w hless hswap hH hab hb hsz
def Tryz.laysGt37_ren : Go.Shelf.Ren := ⟨fun | 37 => 80 | n => n, fun | 45 => 119 | 3 => 3 | 4 => 4 | 0 => 0 | 43 => 63 | 26 => 116 | 38 => 117 | n => n, fun | n => n⟩
theorem Tryz.laysGt37 : Go.Proofs.LaysGt.n37 Tryz.prog Tryz.laysGt37_ren := {
  mixed := by kernel_rfl
  f37 := Tryz.func80.trans (congrArg some (by kernel_rfl))
  t0 := Tryz.underlying0
  a0 := Tryz.isAgg0
  z0 := Tryz.sizeOf0
  v0 := Tryz.zeroValue0
  i0 := by kernel_rfl
  t3 := Tryz.underlying3
  a3 := Tryz.isAgg3
  z3 := Tryz.sizeOf3
  v3 := Tryz.zeroValue3
  i3 := by kernel_rfl
  t4 := Tryz.underlying4
  a4 := Tryz.isAgg4
  z4 := Tryz.sizeOf4
  v4 := Tryz.zeroValue4
  i4 := by kernel_rfl
  t26 := Tryz.underlying116
  a26 := Tryz.isAgg116
  z26 := Tryz.sizeOf116
  v26 := Tryz.zeroValue116
  i26 := by kernel_rfl
  t38 := Tryz.underlying117
  a38 := Tryz.isAgg117
  z38 := Tryz.sizeOf117
  v38 := Tryz.zeroValue117
  i38 := by kernel_rfl
  t43 := Tryz.underlying63
  a43 := Tryz.isAgg63
  z43 := Tryz.sizeOf63
  v43 := Tryz.zeroValue63
  i43 := by kernel_rfl
  t45 := Tryz.underlying119
  a45 := Tryz.isAgg119
  z45 := Tryz.sizeOf119
  v45 := Tryz.zeroValue119
  i45 := by kernel_rfl }
open Go.RowKit Go.Lib Go.Sort in
theorem Tryz.reverseRange_iface {α : Type} [Inhabited α] (T : TypeId) (rv : Value) (gs : Nat) (rS : Reaches Tryz.prog T rv "Swap" gs) (enc : α → Value) (blk off a b : Nat) (d : Array α) (w : World) (hswap : SwapM Tryz.prog gs rv enc blk off d.size) (hH : Holds enc w blk off d) (hab : a ≤ b) (hb : b ≤ d.size) (hsz : d.size < 4611686018427387904) :
    Calls Tryz.prog 80 #[.iface T rv, .int .i64 a, .int .i64 b] w fun e w' => e = .returned (.tuple #[]) ∧ ∃ n, w' = putRow enc (Sort.ahead w n) blk off (reverseRange d a b) := Any.reverseRange_iface Tryz.laysGt37 T rv gs rS enc blk off a b d w hswap hH hab hb hsz
open Go.RowKit Go.Lib Go.Sort in
theorem Tryz.reverseRange_iface_w {α : Type} [Inhabited α] (T : TypeId) (rv : Value) (gs : Nat) (rS : Reaches Tryz.prog T rv "Swap" gs) (enc : α → Value) (blk off a b : Nat) (d : Array α) (w : World) (hswap : SwapM Tryz.prog gs rv enc blk off d.size) (hH : Holds enc w blk off d) (hab : a ≤ b) (hb : b ≤ d.size) (hsz : d.size < 4611686018427387904) :
    Calls Tryz.prog 80 #[.iface T rv, .int .i64 a, .int .i64 b] w fun e w' => e = .returned (.tuple #[]) ∧ ∃ n os, w' = sortWorld enc w blk off n (reverseRange d a b) os := Any.reverseRange_iface_w Tryz.laysGt37 T rv gs rS enc blk off a b d w hswap hH hab hb hsz
def Tryz.laysGt50_ren : Go.Shelf.Ren := ⟨fun | 50 => 100 | n => n, fun | 45 => 119 | 3 => 3 | 71 => 104 | 4 => 4 | 0 => 0 | 43 => 63 | 26 => 116 | 38 => 117 | n => n, fun | n => n⟩
theorem Tryz.laysGt50 : Go.Proofs.LaysGt.n50 Tryz.prog Tryz.laysGt50_ren := {
  mixed := by kernel_rfl
  f50 := Tryz.func100.trans (congrArg some (by kernel_rfl))
  t0 := Tryz.underlying0
  a0 := Tryz.isAgg0
  z0 := Tryz.sizeOf0
  v0 := Tryz.zeroValue0
  i0 := by kernel_rfl
  t3 := Tryz.underlying3
  a3 := Tryz.isAgg3
  z3 := Tryz.sizeOf3
  v3 := Tryz.zeroValue3
  i3 := by kernel_rfl
  t4 := Tryz.underlying4
  a4 := Tryz.isAgg4
  z4 := Tryz.sizeOf4
  v4 := Tryz.zeroValue4
  i4 := by kernel_rfl
  t26 := Tryz.underlying116
  a26 := Tryz.isAgg116
  z26 := Tryz.sizeOf116
  v26 := Tryz.zeroValue116
  i26 := by kernel_rfl
  t38 := Tryz.underlying117
  a38 := Tryz.isAgg117
  z38 := Tryz.sizeOf117
  v38 := Tryz.zeroValue117
  i38 := by kernel_rfl
  t43 := Tryz.underlying63
  a43 := Tryz.isAgg63
  z43 := Tryz.sizeOf63
  v43 := Tryz.zeroValue63
  i43 := by kernel_rfl
  t45 := Tryz.underlying119
  a45 := Tryz.isAgg119
  z45 := Tryz.sizeOf119
  v45 := Tryz.zeroValue119
  i45 := by kernel_rfl
  t71 := Tryz.underlying104
  a71 := Tryz.isAgg104
  z71 := Tryz.sizeOf104
  v71 := Tryz.zeroValue104
  i71 := by kernel_rfl }
open Go.RowKit Go.Lib Go.Sort in
theorem Tryz.order2_iface {α : Type} [Inhabited α] (T : TypeId) (rv : Value) (gl : Nat) (rL : Reaches Tryz.prog T rv "Less" gl) (enc : α → Value) (lt : α → α → Bool) (blk off : Nat) (w0 W : World) (d : Array α) (a b cb co s : Nat) (hL : LessM Tryz.prog gl rv enc lt blk off d.size w0) (hW : SW enc w0 blk off d W) (ha : a < d.size) (hb : b < d.size) (hS : Holds (Value.int .i64) W cb co (one s)) (hs : s < 4611686018427387904) :
    Calls Tryz.prog 100 #[.iface T rv, .int .i64 a, .int .i64 b, .pointer (some ⟨cb, co, none⟩)] W fun e w' =>
      e = .returned (.tuple #[.int .i64 (order2 lt d a b s).1, .int .i64 (order2 lt d a b s).2.1]) ∧ ∃ n os, w' = sortWorld (Value.int .i64) W cb co n (one (order2 lt d a b s).2.2) os := Any.order2_iface Tryz.laysGt50 T rv gl rL enc lt blk off w0 W d a b cb co s hL hW ha hb hS hs
def Tryz.laysGt47_ren : Go.Shelf.Ren := ⟨fun | 47 => 93 | 50 => 100 | n => n, fun | 45 => 119 | 3 => 3 | 71 => 104 | 74 => 114 | 4 => 4 | 0 => 0 | 43 => 63 | 26 => 116 | 38 => 117 | n => n, fun | n => n⟩
theorem Tryz.laysGt47 : Go.Proofs.LaysGt.n47 Tryz.prog Tryz.laysGt47_ren := {
  mixed := by kernel_rfl
  f47 := Tryz.func93.trans (congrArg some (by kernel_rfl))
  f50 := Tryz.func100.trans (congrArg some (by kernel_rfl))
  t0 := Tryz.underlying0
  a0 := Tryz.isAgg0
  z0 := Tryz.sizeOf0
  v0 := Tryz.zeroValue0
  i0 := by kernel_rfl
  t3 := Tryz.underlying3
  a3 := Tryz.isAgg3
  z3 := Tryz.sizeOf3
  v3 := Tryz.zeroValue3
  i3 := by kernel_rfl
  t4 := Tryz.underlying4
  a4 := Tryz.isAgg4
  z4 := Tryz.sizeOf4
  v4 := Tryz.zeroValue4
  i4 := by kernel_rfl
  t26 := Tryz.underlying116
  a26 := Tryz.isAgg116
  z26 := Tryz.sizeOf116
  v26 := Tryz.zeroValue116
  i26 := by kernel_rfl
  t38 := Tryz.underlying117
  a38 := Tryz.isAgg117
  z38 := Tryz.sizeOf117
  v38 := Tryz.zeroValue117
  i38 := by kernel_rfl
  t43 := Tryz.underlying63
  a43 := Tryz.isAgg63
  z43 := Tryz.sizeOf63
  v43 := Tryz.zeroValue63
  i43 := by kernel_rfl
  t45 := Tryz.underlying119
  a45 := Tryz.isAgg119
  z45 := Tryz.sizeOf119
  v45 := Tryz.zeroValue119
  i45 := by kernel_rfl
  t71 := Tryz.underlying104
  a71 := Tryz.isAgg104
  z71 := Tryz.sizeOf104
  v71 := Tryz.zeroValue104
  i71 := by kernel_rfl
  t74 := Tryz.underlying114
  a74 := Tryz.isAgg114
  z74 := Tryz.sizeOf114
  v74 := Tryz.zeroValue114
  i74 := by kernel_rfl }
open Go.RowKit Go.Lib Go.Sort in
theorem Tryz.median_iface {α : Type} [Inhabited α] (T : TypeId) (rv : Value) (gl : Nat) (rL : Reaches Tryz.prog T rv "Less" gl) (enc : α → Value) (lt : α → α → Bool) (blk off : Nat) (w0 W : World) (d : Array α) (a b c cb co s : Nat) (hL : LessM Tryz.prog gl rv enc lt blk off d.size w0) (hW : SW enc w0 blk off d W) (ha : a < d.size) (hb : b < d.size) (hc : c < d.size) (hS : Holds (Value.int .i64) W cb co (one s)) (hcb0 : w0.heap.size ≤ cb) (hcb : cb < W.heap.size) (hs : s + 3 < 4611686018427387904) :
    Calls Tryz.prog 93 #[.iface T rv, .int .i64 a, .int .i64 b, .int .i64 c, .pointer (some ⟨cb, co, none⟩)] W fun e w' =>
      e = .returned (.int .i64 (median lt d a b c s).1) ∧ ∃ n os, w' = sortWorld (Value.int .i64) W cb co n (one (median lt d a b c s).2) os := Any.median_iface Tryz.laysGt47 T rv gl rL enc lt blk off w0 W d a b c cb co s hL hW ha hb hc hS hcb0 hcb hs
def Tryz.laysGt46_ren : Go.Shelf.Ren := ⟨fun | 46 => 92 | 47 => 93 | 50 => 100 | n => n, fun | 45 => 119 | 3 => 3 | 71 => 104 | 74 => 114 | 4 => 4 | 0 => 0 | 43 => 63 | 26 => 116 | 38 => 117 | n => n, fun | n => n⟩
theorem Tryz.laysGt46 : Go.Proofs.LaysGt.n46 Tryz.prog Tryz.laysGt46_ren := {
  mixed := by kernel_rfl
  f46 := Tryz.func92.trans (congrArg some (by kernel_rfl))
  f47 := Tryz.func93.trans (congrArg some (by kernel_rfl))
  f50 := Tryz.func100.trans (congrArg some (by kernel_rfl))
  t0 := Tryz.underlying0
  a0 := Tryz.isAgg0
  z0 := Tryz.sizeOf0
  v0 := Tryz.zeroValue0
  i0 := by kernel_rfl
  t3 := Tryz.underlying3
  a3 := Tryz.isAgg3
  z3 := Tryz.sizeOf3
  v3 := Tryz.zeroValue3
  i3 := by kernel_rfl
  t4 := Tryz.underlying4
  a4 := Tryz.isAgg4
  z4 := Tryz.sizeOf4
  v4 := Tryz.zeroValue4
  i4 := by kernel_rfl
  t26 := Tryz.underlying116
  a26 := Tryz.isAgg116
  z26 := Tryz.sizeOf116
  v26 := Tryz.zeroValue116
  i26 := by kernel_rfl
  t38 := Tryz.underlying117
  a38 := Tryz.isAgg117
  z38 := Tryz.sizeOf117
  v38 := Tryz.zeroValue117
  i38 := by kernel_rfl
  t43 := Tryz.underlying63
  a43 := Tryz.isAgg63
  z43 := Tryz.sizeOf63
  v43 := Tryz.zeroValue63
  i43 := by kernel_rfl
  t45 := Tryz.underlying119
  a45 := Tryz.isAgg119
  z45 := Tryz.sizeOf119
  v45 := Tryz.zeroValue119
  i45 := by kernel_rfl
  t71 := Tryz.underlying104
  a71 := Tryz.isAgg104
  z71 := Tryz.sizeOf104
  v71 := Tryz.zeroValue104
  i71 := by kernel_rfl
  t74 := Tryz.underlying114
  a74 := Tryz.isAgg114
  z74 := Tryz.sizeOf114
  v74 := Tryz.zeroValue114
  i74 := by kernel_rfl }
open Go.RowKit Go.Lib Go.Sort in
theorem Tryz.medianAdjacent_iface {α : Type} [Inhabited α] (T : TypeId) (rv : Value) (gl : Nat) (rL : Reaches Tryz.prog T rv "Less" gl) (enc : α → Value) (lt : α → α → Bool) (blk off : Nat) (w0 W : World) (d : Array α) (a cb co s : Nat) (hL : LessM Tryz.prog gl rv enc lt blk off d.size w0) (hW : SW enc w0 blk off d W) (ha1 : 1 ≤ a) (ha2 : a + 1 < d.size) (hsz : d.size < 4611686018427387904) (hS : Holds (Value.int .i64) W cb co (one s)) (hcb0 : w0.heap.size ≤ cb) (hcb : cb < W.heap.size) (hs : s + 3 < 4611686018427387904) :
    Calls Tryz.prog 92 #[.iface T rv, .int .i64 a, .pointer (some ⟨cb, co, none⟩)] W fun e w' =>
      e = .returned (.int .i64 (medianAdjacent lt d a s).1) ∧ ∃ n os, w' = sortWorld (Value.int .i64) W cb co n (one (medianAdjacent lt d a s).2) os := Any.medianAdjacent_iface Tryz.laysGt46 T rv gl rL enc lt blk off w0 W d a cb co s hL hW ha1 ha2 hsz hS hcb0 hcb hs
def Tryz.laysGt36_ren : Go.Shelf.Ren := ⟨fun | 36 => 79 | 46 => 92 | 47 => 93 | 50 => 100 | n => n, fun | 45 => 119 | 3 => 3 | 60 => 123 | 0 => 0 | 4 => 4 | 71 => 104 | 74 => 114 | 43 => 63 | 26 => 116 | 38 => 117 | n => n, fun | n => n⟩
theorem Tryz.laysGt36 : Go.Proofs.LaysGt.n36 Tryz.prog Tryz.laysGt36_ren := {
  mixed := by kernel_rfl
  f36 := Tryz.func79.trans (congrArg some (by kernel_rfl))
  f46 := Tryz.func92.trans (congrArg some (by kernel_rfl))
  f47 := Tryz.func93.trans (congrArg some (by kernel_rfl))
  f50 := Tryz.func100.trans (congrArg some (by kernel_rfl))
  t0 := Tryz.underlying0
  a0 := Tryz.isAgg0
  z0 := Tryz.sizeOf0
  v0 := Tryz.zeroValue0
  i0 := by kernel_rfl
  t3 := Tryz.underlying3
  a3 := Tryz.isAgg3
  z3 := Tryz.sizeOf3
  v3 := Tryz.zeroValue3
  i3 := by kernel_rfl
  t4 := Tryz.underlying4
  a4 := Tryz.isAgg4
  z4 := Tryz.sizeOf4
  v4 := Tryz.zeroValue4
  i4 := by kernel_rfl
  t26 := Tryz.underlying116
  a26 := Tryz.isAgg116
  z26 := Tryz.sizeOf116
  v26 := Tryz.zeroValue116
  i26 := by kernel_rfl
  t38 := Tryz.underlying117
  a38 := Tryz.isAgg117
  z38 := Tryz.sizeOf117
  v38 := Tryz.zeroValue117
  i38 := by kernel_rfl
  t43 := Tryz.underlying63
  a43 := Tryz.isAgg63
  z43 := Tryz.sizeOf63
  v43 := Tryz.zeroValue63
  i43 := by kernel_rfl
  t45 := Tryz.underlying119
  a45 := Tryz.isAgg119
  z45 := Tryz.sizeOf119
  v45 := Tryz.zeroValue119
  i45 := by kernel_rfl
  t60 := Tryz.underlying123
  a60 := Tryz.isAgg123
  z60 := Tryz.sizeOf123
  v60 := Tryz.zeroValue123
  i60 := by kernel_rfl
  t71 := Tryz.underlying104
  a71 := Tryz.isAgg104
  z71 := Tryz.sizeOf104
  v71 := Tryz.zeroValue104
  i71 := by kernel_rfl
  t74 := Tryz.underlying114
  a74 := Tryz.isAgg114
  z74 := Tryz.sizeOf114
  v74 := Tryz.zeroValue114
  i74 := by kernel_rfl }
open Go.RowKit Go.Lib Go.Sort in
/-- sort.choosePivot (zsortinterface.go): THE LIBRARY's OWN TEXT COMPUTES 'Sort.choosePivot lt d a b'; the row is not turned; W is grown. (Derived/Shelf/GgSortFunc/Pivot.lean's text, turned by program.) (LAID: no walk: one application.) -/
theorem Tryz.choosePivot_iface {α : Type} [Inhabited α] (T : TypeId) (rv : Value) (gl : Nat) (rL : Reaches Tryz.prog T rv "Less" gl) (enc : α → Value) (lt : α → α → Bool) (blk off a b : Nat) (W : World) (d : Array α) (hless : LessM Tryz.prog gl rv enc lt blk off d.size W) (hH : Holds enc W blk off d) (hab : a < b) (hb : b ≤ d.size) (hsz : d.size < 4611686018427387904) :
    Calls Tryz.prog 79 #[.iface T rv, .int .i64 a, .int .i64 b] W fun e w' =>
      e = .returned (.tuple #[.int .i64 (choosePivot lt d a b).1, .int .i64 (hintCode (choosePivot lt d a b).2)]) ∧ ∃ n os, w' = grow (Sort.ahead W n) os := Any.choosePivot_iface Tryz.laysGt36 T rv gl rL enc lt blk off a b W d hless hH hab hb hsz
def Tryz.laysGt39_ren : Go.Shelf.Ren := ⟨fun | 39 => 82 | n => n, fun | 45 => 119 | 3 => 3 | 0 => 0 | 4 => 4 | 43 => 63 | 26 => 116 | 38 => 117 | n => n, fun | n => n⟩
theorem Tryz.laysGt39 : Go.Proofs.LaysGt.n39 Tryz.prog Tryz.laysGt39_ren := {
  mixed := by kernel_rfl
  f39 := Tryz.func82.trans (congrArg some (by kernel_rfl))
  t0 := Tryz.underlying0
  a0 := Tryz.isAgg0
  z0 := Tryz.sizeOf0
  v0 := Tryz.zeroValue0
  i0 := by kernel_rfl
  t3 := Tryz.underlying3
  a3 := Tryz.isAgg3
  z3 := Tryz.sizeOf3
  v3 := Tryz.zeroValue3
  i3 := by kernel_rfl
  t4 := Tryz.underlying4
  a4 := Tryz.isAgg4
  z4 := Tryz.sizeOf4
  v4 := Tryz.zeroValue4
  i4 := by kernel_rfl
  t26 := Tryz.underlying116
  a26 := Tryz.isAgg116
  z26 := Tryz.sizeOf116
  v26 := Tryz.zeroValue116
  i26 := by kernel_rfl
  t38 := Tryz.underlying117
  a38 := Tryz.isAgg117
  z38 := Tryz.sizeOf117
  v38 := Tryz.zeroValue117
  i38 := by kernel_rfl
  t43 := Tryz.underlying63
  a43 := Tryz.isAgg63
  z43 := Tryz.sizeOf63
  v43 := Tryz.zeroValue63
  i43 := by kernel_rfl
  t45 := Tryz.underlying119
  a45 := Tryz.isAgg119
  z45 := Tryz.sizeOf119
  v45 := Tryz.zeroValue119
  i45 := by kernel_rfl }
open Go.RowKit Go.Lib Go.Sort in
theorem Tryz.partitionEqual_iface {α : Type} [Inhabited α] (T : TypeId) (rv : Value) (gl gs : Nat) (rL : Reaches Tryz.prog T rv "Less" gl) (rS : Reaches Tryz.prog T rv "Swap" gs) (enc : α → Value) (lt : α → α → Bool) (blk off a b pivot : Nat) (d : Array α) (W : World) (hless : LessM Tryz.prog gl rv enc lt blk off d.size W) (hswap : SwapM Tryz.prog gs rv enc blk off d.size) (hH : Holds enc W blk off d) (hap : a ≤ pivot) (hpb : pivot < b) (hb : b ≤ d.size) (hsz : d.size < 4611686018427387904) :
    Calls Tryz.prog 82 #[.iface T rv, .int .i64 a, .int .i64 b, .int .i64 pivot] W fun e w' =>
      e = .returned (.int .i64 (Sort.partitionEqual lt d a b pivot).1) ∧ ∃ n, w' = (putRow enc W blk off (Sort.partitionEqual lt d a b pivot).2).drewN n := Any.partitionEqual_iface Tryz.laysGt39 T rv gl gs rL rS enc lt blk off a b pivot d W hless hswap hH hap hpb hb hsz
def Tryz.laysGt40_ren : Go.Shelf.Ren := ⟨fun | 40 => 83 | n => n, fun | 45 => 119 | 3 => 3 | 4 => 4 | 0 => 0 | 43 => 63 | 26 => 116 | 38 => 117 | n => n, fun | n => n⟩
theorem Tryz.laysGt40 : Go.Proofs.LaysGt.n40 Tryz.prog Tryz.laysGt40_ren := {
  mixed := by kernel_rfl
  f40 := Tryz.func83.trans (congrArg some (by kernel_rfl))
  t0 := Tryz.underlying0
  a0 := Tryz.isAgg0
  z0 := Tryz.sizeOf0
  v0 := Tryz.zeroValue0
  i0 := by kernel_rfl
  t3 := Tryz.underlying3
  a3 := Tryz.isAgg3
  z3 := Tryz.sizeOf3
  v3 := Tryz.zeroValue3
  i3 := by kernel_rfl
  t4 := Tryz.underlying4
  a4 := Tryz.isAgg4
  z4 := Tryz.sizeOf4
  v4 := Tryz.zeroValue4
  i4 := by kernel_rfl
  t26 := Tryz.underlying116
  a26 := Tryz.isAgg116
  z26 := Tryz.sizeOf116
  v26 := Tryz.zeroValue116
  i26 := by kernel_rfl
  t38 := Tryz.underlying117
  a38 := Tryz.isAgg117
  z38 := Tryz.sizeOf117
  v38 := Tryz.zeroValue117
  i38 := by kernel_rfl
  t43 := Tryz.underlying63
  a43 := Tryz.isAgg63
  z43 := Tryz.sizeOf63
  v43 := Tryz.zeroValue63
  i43 := by kernel_rfl
  t45 := Tryz.underlying119
  a45 := Tryz.isAgg119
  z45 := Tryz.sizeOf119
  v45 := Tryz.zeroValue119
  i45 := by kernel_rfl }
open Go.RowKit Go.Lib Go.Sort in
theorem Tryz.partition_iface {α : Type} [Inhabited α] (T : TypeId) (rv : Value) (gl gs : Nat) (rL : Reaches Tryz.prog T rv "Less" gl) (rS : Reaches Tryz.prog T rv "Swap" gs) (enc : α → Value) (lt : α → α → Bool) (blk off a b pivot : Nat) (d : Array α) (W : World) (hless : LessM Tryz.prog gl rv enc lt blk off d.size W) (hswap : SwapM Tryz.prog gs rv enc blk off d.size) (hH : Holds enc W blk off d) (hap : a ≤ pivot) (hpb : pivot < b) (hb : b ≤ d.size) (hsz : d.size < 4611686018427387904) :
    Calls Tryz.prog 83 #[.iface T rv, .int .i64 a, .int .i64 b, .int .i64 pivot] W fun e w' =>
      e = .returned (.tuple #[.int .i64 (Sort.partition lt d a b pivot).1, .bool (Sort.partition lt d a b pivot).2.1]) ∧ ∃ n, w' = (putRow enc W blk off (Sort.partition lt d a b pivot).2.2).drewN n := Any.partition_iface Tryz.laysGt40 T rv gl gs rL rS enc lt blk off a b pivot d W hless hswap hH hap hpb hb hsz
open Go.RowKit Go.Lib Go.Sort in
theorem Tryz.partitionEqual_iface_w {α : Type} [Inhabited α] (T : TypeId) (rv : Value) (gl gs : Nat) (rL : Reaches Tryz.prog T rv "Less" gl) (rS : Reaches Tryz.prog T rv "Swap" gs) (enc : α → Value) (lt : α → α → Bool) (blk off a b pivot : Nat) (d : Array α) (W : World) (hless : LessM Tryz.prog gl rv enc lt blk off d.size W) (hswap : SwapM Tryz.prog gs rv enc blk off d.size) (hH : Holds enc W blk off d) (hap : a ≤ pivot) (hpb : pivot < b) (hb : b ≤ d.size) (hsz : d.size < 4611686018427387904) :
    Calls Tryz.prog 82 #[.iface T rv, .int .i64 a, .int .i64 b, .int .i64 pivot] W fun e w' => e = .returned (.int .i64 (Sort.partitionEqual lt d a b pivot).1) ∧ ∃ n os, w' = sortWorld enc W blk off n (Sort.partitionEqual lt d a b pivot).2 os := Any.partitionEqual_iface_w Tryz.laysGt39 T rv gl gs rL rS enc lt blk off a b pivot d W hless hswap hH hap hpb hb hsz
open Go.RowKit Go.Lib Go.Sort in
theorem Tryz.partition_iface_w {α : Type} [Inhabited α] (T : TypeId) (rv : Value) (gl gs : Nat) (rL : Reaches Tryz.prog T rv "Less" gl) (rS : Reaches Tryz.prog T rv "Swap" gs) (enc : α → Value) (lt : α → α → Bool) (blk off a b pivot : Nat) (d : Array α) (W : World) (hless : LessM Tryz.prog gl rv enc lt blk off d.size W) (hswap : SwapM Tryz.prog gs rv enc blk off d.size) (hH : Holds enc W blk off d) (hap : a ≤ pivot) (hpb : pivot < b) (hb : b ≤ d.size) (hsz : d.size < 4611686018427387904) :
    Calls Tryz.prog 83 #[.iface T rv, .int .i64 a, .int .i64 b, .int .i64 pivot] W fun e w' => e = .returned (.tuple #[.int .i64 (Sort.partition lt d a b pivot).1, .bool (Sort.partition lt d a b pivot).2.1]) ∧ ∃ n os, w' = sortWorld enc W blk off n (Sort.partition lt d a b pivot).2.2 os := Any.partition_iface_w Tryz.laysGt40 T rv gl gs rL rS enc lt blk off a b pivot d W hless hswap hH hap hpb hb hsz
def Tryz.laysGt18_ren : Go.Shelf.Ren := ⟨fun | 18 => 71 | 33 => 76 | 34 => 77 | 35 => 78 | 36 => 79 | 37 => 80 | 38 => 81 | 39 => 82 | 40 => 83 | 43 => 89 | 44 => 90 | 45 => 91 | 46 => 92 | 47 => 93 | 17 => 21 | 50 => 100 | 31 => 38 | 32 => 39 | n => n, fun | 45 => 119 | 3 => 3 | 4 => 4 | 0 => 0 | 61 => 124 | 60 => 123 | 65 => 70 | 67 => 132 | 47 => 51 | 58 => 75 | 71 => 104 | 73 => 136 | 74 => 114 | 56 => 73 | 5 => 5 | 9 => 9 | 43 => 63 | 26 => 116 | 38 => 117 | n => n, fun | n => n⟩
theorem Tryz.laysGt18 : Go.Proofs.LaysGt.n18 Tryz.prog Tryz.laysGt18_ren := {
  mixed := by kernel_rfl
  f17 := Tryz.func21.trans (congrArg some (by kernel_rfl))
  f18 := Tryz.func71.trans (congrArg some (by kernel_rfl))
  f31 := Tryz.func38.trans (congrArg some (by kernel_rfl))
  f32 := Tryz.func39.trans (congrArg some (by kernel_rfl))
  f33 := Tryz.func76.trans (congrArg some (by kernel_rfl))
  f34 := Tryz.func77.trans (congrArg some (by kernel_rfl))
  f35 := Tryz.func78.trans (congrArg some (by kernel_rfl))
  f36 := Tryz.func79.trans (congrArg some (by kernel_rfl))
  f37 := Tryz.func80.trans (congrArg some (by kernel_rfl))
  f38 := Tryz.func81.trans (congrArg some (by kernel_rfl))
  f39 := Tryz.func82.trans (congrArg some (by kernel_rfl))
  f40 := Tryz.func83.trans (congrArg some (by kernel_rfl))
  f43 := Tryz.func89.trans (congrArg some (by kernel_rfl))
  f44 := Tryz.func90.trans (congrArg some (by kernel_rfl))
  f45 := Tryz.func91.trans (congrArg some (by kernel_rfl))
  f46 := Tryz.func92.trans (congrArg some (by kernel_rfl))
  f47 := Tryz.func93.trans (congrArg some (by kernel_rfl))
  f50 := Tryz.func100.trans (congrArg some (by kernel_rfl))
  t0 := Tryz.underlying0
  a0 := Tryz.isAgg0
  z0 := Tryz.sizeOf0
  v0 := Tryz.zeroValue0
  i0 := by kernel_rfl
  t3 := Tryz.underlying3
  a3 := Tryz.isAgg3
  z3 := Tryz.sizeOf3
  v3 := Tryz.zeroValue3
  i3 := by kernel_rfl
  t4 := Tryz.underlying4
  a4 := Tryz.isAgg4
  z4 := Tryz.sizeOf4
  v4 := Tryz.zeroValue4
  i4 := by kernel_rfl
  t5 := Tryz.underlying5
  a5 := Tryz.isAgg5
  z5 := Tryz.sizeOf5
  v5 := Tryz.zeroValue5
  i5 := by kernel_rfl
  t9 := Tryz.underlying9
  a9 := Tryz.isAgg9
  z9 := Tryz.sizeOf9
  v9 := Tryz.zeroValue9
  i9 := by kernel_rfl
  t26 := Tryz.underlying116
  a26 := Tryz.isAgg116
  z26 := Tryz.sizeOf116
  v26 := Tryz.zeroValue116
  i26 := by kernel_rfl
  t38 := Tryz.underlying117
  a38 := Tryz.isAgg117
  z38 := Tryz.sizeOf117
  v38 := Tryz.zeroValue117
  i38 := by kernel_rfl
  t43 := Tryz.underlying63
  a43 := Tryz.isAgg63
  z43 := Tryz.sizeOf63
  v43 := Tryz.zeroValue63
  i43 := by kernel_rfl
  t45 := Tryz.underlying119
  a45 := Tryz.isAgg119
  z45 := Tryz.sizeOf119
  v45 := Tryz.zeroValue119
  i45 := by kernel_rfl
  t47 := Tryz.underlying51
  a47 := Tryz.isAgg51
  z47 := Tryz.sizeOf51
  v47 := Tryz.zeroValue51
  i47 := by kernel_rfl
  t56 := Tryz.underlying73
  a56 := Tryz.isAgg73
  z56 := Tryz.sizeOf73
  v56 := Tryz.zeroValue73
  i56 := by kernel_rfl
  t58 := Tryz.underlying75
  a58 := Tryz.isAgg75
  z58 := Tryz.sizeOf75
  v58 := Tryz.zeroValue75
  i58 := by kernel_rfl
  t60 := Tryz.underlying123
  a60 := Tryz.isAgg123
  z60 := Tryz.sizeOf123
  v60 := Tryz.zeroValue123
  i60 := by kernel_rfl
  t61 := Tryz.underlying124
  a61 := Tryz.isAgg124
  z61 := Tryz.sizeOf124
  v61 := Tryz.zeroValue124
  i61 := by kernel_rfl
  t65 := Tryz.underlying70
  a65 := Tryz.isAgg70
  z65 := Tryz.sizeOf70
  v65 := Tryz.zeroValue70
  i65 := by kernel_rfl
  t67 := Tryz.underlying132
  a67 := Tryz.isAgg132
  z67 := Tryz.sizeOf132
  v67 := Tryz.zeroValue132
  i67 := by kernel_rfl
  t71 := Tryz.underlying104
  a71 := Tryz.isAgg104
  z71 := Tryz.sizeOf104
  v71 := Tryz.zeroValue104
  i71 := by kernel_rfl
  t73 := Tryz.underlying136
  a73 := Tryz.isAgg136
  z73 := Tryz.sizeOf136
  v73 := Tryz.zeroValue136
  i73 := by kernel_rfl
  t74 := Tryz.underlying114
  a74 := Tryz.isAgg114
  z74 := Tryz.sizeOf114
  v74 := Tryz.zeroValue114
  i74 := by kernel_rfl }
open Go.RowKit Go.Lib Go.Sort in
theorem Tryz.pdqsort_iface {α : Type} [Inhabited α] (T : TypeId) (rv : Value) (gl gs : Nat) (rL : Reaches Tryz.prog T rv "Less" gl) (rS : Reaches Tryz.prog T rv "Swap" gs) (enc : α → Value) (lt : α → α → Bool) (hO : SWO lt) (C : IfaceThree Tryz.prog Tryz.laysGt18_ren T rv gl gs enc lt) :
    ∀ (N blk off a b limit : Nat) (d : Array α) (w : World), b - a < N → LessM Tryz.prog gl rv enc lt blk off d.size w → SwapM Tryz.prog gs rv enc blk off d.size → Holds enc w blk off d → blk < w.heap.size → a ≤ b → b ≤ d.size → d.size < 4611686018427387904 → limit < 4611686018427387904 → Below lt a b d →
    Calls Tryz.prog 71 #[.iface T rv, .int .i64 a, .int .i64 b, .int .i64 limit] w fun e w' => e = .returned (.tuple #[]) ∧ At enc w blk off (pdq lt d a b limit true true) w' := Any.pdqsort_iface Tryz.laysGt18 T rv gl gs rL rS enc lt hO C
def Tryz.laysGt11_ren : Go.Shelf.Ren := ⟨fun | 11 => 67 | 17 => 21 | 18 => 71 | 31 => 38 | 32 => 39 | 33 => 76 | 34 => 77 | 35 => 78 | 36 => 79 | 37 => 80 | 38 => 81 | 39 => 82 | 40 => 83 | 43 => 89 | 44 => 90 | 45 => 91 | 46 => 92 | 47 => 93 | 50 => 100 | n => n, fun | 45 => 119 | 3 => 3 | 4 => 4 | 47 => 51 | 0 => 0 | 56 => 73 | 58 => 75 | 61 => 124 | 60 => 123 | 65 => 70 | 5 => 5 | 9 => 9 | 67 => 132 | 71 => 104 | 73 => 136 | 74 => 114 | 43 => 63 | 26 => 116 | 38 => 117 | n => n, fun | n => n⟩
theorem Tryz.laysGt11 : Go.Proofs.LaysGt.n11 Tryz.prog Tryz.laysGt11_ren := {
  mixed := by kernel_rfl
  f11 := Tryz.func67.trans (congrArg some (by kernel_rfl))
  f17 := Tryz.func21.trans (congrArg some (by kernel_rfl))
  f18 := Tryz.func71.trans (congrArg some (by kernel_rfl))
  f31 := Tryz.func38.trans (congrArg some (by kernel_rfl))
  f32 := Tryz.func39.trans (congrArg some (by kernel_rfl))
  f33 := Tryz.func76.trans (congrArg some (by kernel_rfl))
  f34 := Tryz.func77.trans (congrArg some (by kernel_rfl))
  f35 := Tryz.func78.trans (congrArg some (by kernel_rfl))
  f36 := Tryz.func79.trans (congrArg some (by kernel_rfl))
  f37 := Tryz.func80.trans (congrArg some (by kernel_rfl))
  f38 := Tryz.func81.trans (congrArg some (by kernel_rfl))
  f39 := Tryz.func82.trans (congrArg some (by kernel_rfl))
  f40 := Tryz.func83.trans (congrArg some (by kernel_rfl))
  f43 := Tryz.func89.trans (congrArg some (by kernel_rfl))
  f44 := Tryz.func90.trans (congrArg some (by kernel_rfl))
  f45 := Tryz.func91.trans (congrArg some (by kernel_rfl))
  f46 := Tryz.func92.trans (congrArg some (by kernel_rfl))
  f47 := Tryz.func93.trans (congrArg some (by kernel_rfl))
  f50 := Tryz.func100.trans (congrArg some (by kernel_rfl))
  t0 := Tryz.underlying0
  a0 := Tryz.isAgg0
  z0 := Tryz.sizeOf0
  v0 := Tryz.zeroValue0
  i0 := by kernel_rfl
  t3 := Tryz.underlying3
  a3 := Tryz.isAgg3
  z3 := Tryz.sizeOf3
  v3 := Tryz.zeroValue3
  i3 := by kernel_rfl
  t4 := Tryz.underlying4
  a4 := Tryz.isAgg4
  z4 := Tryz.sizeOf4
  v4 := Tryz.zeroValue4
  i4 := by kernel_rfl
  t5 := Tryz.underlying5
  a5 := Tryz.isAgg5
  z5 := Tryz.sizeOf5
  v5 := Tryz.zeroValue5
  i5 := by kernel_rfl
  t9 := Tryz.underlying9
  a9 := Tryz.isAgg9
  z9 := Tryz.sizeOf9
  v9 := Tryz.zeroValue9
  i9 := by kernel_rfl
  t26 := Tryz.underlying116
  a26 := Tryz.isAgg116
  z26 := Tryz.sizeOf116
  v26 := Tryz.zeroValue116
  i26 := by kernel_rfl
  t38 := Tryz.underlying117
  a38 := Tryz.isAgg117
  z38 := Tryz.sizeOf117
  v38 := Tryz.zeroValue117
  i38 := by kernel_rfl
  t43 := Tryz.underlying63
  a43 := Tryz.isAgg63
  z43 := Tryz.sizeOf63
  v43 := Tryz.zeroValue63
  i43 := by kernel_rfl
  t45 := Tryz.underlying119
  a45 := Tryz.isAgg119
  z45 := Tryz.sizeOf119
  v45 := Tryz.zeroValue119
  i45 := by kernel_rfl
  t47 := Tryz.underlying51
  a47 := Tryz.isAgg51
  z47 := Tryz.sizeOf51
  v47 := Tryz.zeroValue51
  i47 := by kernel_rfl
  t56 := Tryz.underlying73
  a56 := Tryz.isAgg73
  z56 := Tryz.sizeOf73
  v56 := Tryz.zeroValue73
  i56 := by kernel_rfl
  t58 := Tryz.underlying75
  a58 := Tryz.isAgg75
  z58 := Tryz.sizeOf75
  v58 := Tryz.zeroValue75
  i58 := by kernel_rfl
  t60 := Tryz.underlying123
  a60 := Tryz.isAgg123
  z60 := Tryz.sizeOf123
  v60 := Tryz.zeroValue123
  i60 := by kernel_rfl
  t61 := Tryz.underlying124
  a61 := Tryz.isAgg124
  z61 := Tryz.sizeOf124
  v61 := Tryz.zeroValue124
  i61 := by kernel_rfl
  t65 := Tryz.underlying70
  a65 := Tryz.isAgg70
  z65 := Tryz.sizeOf70
  v65 := Tryz.zeroValue70
  i65 := by kernel_rfl
  t67 := Tryz.underlying132
  a67 := Tryz.isAgg132
  z67 := Tryz.sizeOf132
  v67 := Tryz.zeroValue132
  i67 := by kernel_rfl
  t71 := Tryz.underlying104
  a71 := Tryz.isAgg104
  z71 := Tryz.sizeOf104
  v71 := Tryz.zeroValue104
  i71 := by kernel_rfl
  t73 := Tryz.underlying136
  a73 := Tryz.isAgg136
  z73 := Tryz.sizeOf136
  v73 := Tryz.zeroValue136
  i73 := by kernel_rfl
  t74 := Tryz.underlying114
  a74 := Tryz.isAgg114
  z74 := Tryz.sizeOf114
  v74 := Tryz.zeroValue114
  i74 := by kernel_rfl }
open Go.RowKit Go.Lib Go.Sort in
theorem Tryz.sort_Sort_tiny {α : Type} [Inhabited α] (T : TypeId) (rv : Value) (gn : Nat) (rN : Reaches Tryz.prog T rv "Len" gn) (n : Nat) (hn : n ≤ 1) (w : World) (hlen : LenM Tryz.prog gn rv n w) :
    Calls Tryz.prog 67 #[.iface T rv] w fun e w' => e = .returned (.tuple #[]) ∧ ∃ q, w' = w.drewN q := Any.sort_Sort_tiny Tryz.laysGt11 T rv gn rN n hn w hlen
open Go.RowKit Go.Lib Go.Sort in
/-- **sort.Sort: WHAT THE ROW HOLDS, TO THE ELEMENT.** (LAID: no walk: one application.) -/
theorem Tryz.sort_Sort_eq {α : Type} [Inhabited α] (T : TypeId) (rv : Value) (gn gl gs : Nat) (rN : Reaches Tryz.prog T rv "Len" gn) (rL : Reaches Tryz.prog T rv "Less" gl) (rS : Reaches Tryz.prog T rv "Swap" gs) (enc : α → Value) (lt : α → α → Bool) (hO : SWO lt) (blk off : Nat) (d : Array α) (h2 : 2 ≤ d.size) (hsz : d.size < 4611686018427387904) (w : World) (hlen : LenM Tryz.prog gn rv d.size w) (hless : LessM Tryz.prog gl rv enc lt blk off d.size w) (hswap : SwapM Tryz.prog gs rv enc blk off d.size) (hH : Holds enc w blk off d) (hblk : blk < w.heap.size) :
    Calls Tryz.prog 67 #[.iface T rv] w fun e w' => e = .returned (.tuple #[]) ∧ ∃ n os, w' = grow (putRow enc (Sort.ahead w n) blk off (pdq lt d 0 d.size (Lib.bitLen d.size) true true)) os := Any.sort_Sort_eq Tryz.laysGt11 T rv gn gl gs rN rL rS enc lt hO blk off d h2 hsz w hlen hless hswap hH hblk
open Go.RowKit Go.Lib Go.Sort in
/-- **sort.Sort, IN THE DOCUMENTATION's OWN TERMS ("Sort sorts data in ascending order as determined by the Less method. .. The sort is not guaranteed to be stable"): A PERMUTATION OF WHAT THE ROW HELD, SORTED BY 'lt'.** (LAID: no walk: one application.) -/
theorem Tryz.sort_Sort_sorted {α : Type} [Inhabited α] (T : TypeId) (rv : Value) (gn gl gs : Nat) (rN : Reaches Tryz.prog T rv "Len" gn) (rL : Reaches Tryz.prog T rv "Less" gl) (rS : Reaches Tryz.prog T rv "Swap" gs) (enc : α → Value) (lt : α → α → Bool) (hO : SWO lt) (blk off : Nat) (d : Array α) (h2 : 2 ≤ d.size) (hsz : d.size < 4611686018427387904) (w : World) (hlen : LenM Tryz.prog gn rv d.size w) (hless : LessM Tryz.prog gl rv enc lt blk off d.size w) (hswap : SwapM Tryz.prog gs rv enc blk off d.size) (hH : Holds enc w blk off d) (hblk : blk < w.heap.size) :
    Calls Tryz.prog 67 #[.iface T rv] w fun e w' => e = .returned (.tuple #[]) ∧ ∃ d' n os, PermIn 0 d.size d d' ∧ SortedIn lt 0 d.size d' ∧ w' = grow (putRow enc (Sort.ahead w n) blk off d') os := Any.sort_Sort_sorted Tryz.laysGt11 T rv gn gl gs rN rL rS enc lt hO blk off d h2 hsz w hlen hless hswap hH hblk
def Tryz.lays111_ren : Go.Shelf.Ren := ⟨fun | 111 => 16 | n => n, fun | 28 => 26 | 3 => 3 | 4 => 4 | 0 => 0 | n => n, fun | n => n⟩
theorem Tryz.lays111 : Go.Proofs.Lays.n111 Tryz.prog Tryz.lays111_ren := {
  mixed := by kernel_rfl
  f111 := Tryz.func16.trans (congrArg some (by kernel_rfl))
  t0 := Tryz.underlying0
  a0 := Tryz.isAgg0
  z0 := Tryz.sizeOf0
  v0 := Tryz.zeroValue0
  t3 := Tryz.underlying3
  a3 := Tryz.isAgg3
  z3 := Tryz.sizeOf3
  v3 := Tryz.zeroValue3
  t4 := Tryz.underlying4
  a4 := Tryz.isAgg4
  z4 := Tryz.sizeOf4
  v4 := Tryz.zeroValue4
  t28 := Tryz.underlying26
  a28 := Tryz.isAgg26
  z28 := Tryz.sizeOf26
  v28 := Tryz.zeroValue26 }
open Go.RowKit Go.Lib in
/-- slices.Equal at []int: "Equal reports whether two slices are equal: the same length and all elements equal. If the lengths are different, Equal returns false. Otherwise, the elements are compared in increasing index order, and the comparison stops at the first unequal pair. Empty and nil slices are considered equal.": IT RETURNS WHETHER THE TWO LISTS OF ELEMENTS ARE ONE; the world is as it was but for the count of draws (the test 's1[i] != s2[i]' has two reads, whose order the model draws, once a round). 'xs', 'ys': what the cells behind the two addresses hold (the spare capacity too, if you have it); 'xs.take n', 'ys.take m': the elements. THE TWO SLICES MAY OVERLAP. (LAID: no walk: one application.) -/
theorem Tryz.slices_Equal_int (b1 o1 n c b2 o2 m d : Nat) (xs ys : List Int) (w : World) (hx : n ≤ xs.length) (hy : m ≤ ys.length) (hbig : n ≤ 9223372036854775807) (hbig2 : m ≤ 9223372036854775807) (hc1 : ∀ j, j < xs.length → w.cell? ⟨b1, o1 + j, none⟩ = some (.int .i64 (xs.getD j 0))) (hc2 : ∀ j, j < ys.length → w.cell? ⟨b2, o2 + j, none⟩ = some (.int .i64 (ys.getD j 0))) :
    Calls Tryz.prog 16 #[.slice (some ⟨b1, o1, none⟩) n c, .slice (some ⟨b2, o2, none⟩) m d] w fun e w' => e = .returned (.bool (xs.take n == ys.take m)) ∧ ∃ q, w' = w.drewN q := Any.slices_Equal_int Tryz.lays111 b1 o1 n c b2 o2 m d xs ys w hx hy hbig hbig2 hc1 hc2
open Go.RowKit Go.Lib in
/-- The same where the first is of length 0 (a nil one too): no cell is asked for. (LAID: no walk: one application.) -/
theorem Tryz.slices_Equal_int_empty (a1 a2 : Option Addr) (c m d : Nat) (w : World) (hbig2 : m ≤ 9223372036854775807) :
    Calls Tryz.prog 16 #[.slice a1 0 c, .slice a2 m d] w fun e w' => e = .returned (.bool (decide (m = 0))) ∧ w' = w := Any.slices_Equal_int_empty Tryz.lays111 a1 a2 c m d w hbig2
open Go.RowKit Go.Lib in
theorem Tryz.slices_Equal_int_lens (a1 a2 : Option Addr) (n c m d : Nat) (w : World) (hnm : n ≠ m) :
    Calls Tryz.prog 16 #[.slice a1 n c, .slice a2 m d] w fun e w' => e = .returned (.bool false) ∧ w' = w := Any.slices_Equal_int_lens Tryz.lays111 a1 a2 n c m d w hnm
def Tryz.laysGg36_ren : Go.Shelf.Ren := ⟨fun | 36 => 91 | n => n, fun | 66 => 136 | 51 => 75 | 0 => 0 | 60 => 132 | 41 => 51 | n => n, fun | n => n⟩
theorem Tryz.laysGg36 : Go.Proofs.LaysGg.n36 Tryz.prog Tryz.laysGg36_ren := {
  mixed := by kernel_rfl
  f36 := Tryz.func91.trans (congrArg some (by kernel_rfl))
  t0 := Tryz.underlying0
  a0 := Tryz.isAgg0
  z0 := Tryz.sizeOf0
  v0 := Tryz.zeroValue0
  i0 := by kernel_rfl
  t41 := Tryz.underlying51
  a41 := Tryz.isAgg51
  z41 := Tryz.sizeOf51
  v41 := Tryz.zeroValue51
  i41 := by kernel_rfl
  t51 := Tryz.underlying75
  a51 := Tryz.isAgg75
  z51 := Tryz.sizeOf75
  v51 := Tryz.zeroValue75
  i51 := by kernel_rfl
  t60 := Tryz.underlying132
  a60 := Tryz.isAgg132
  z60 := Tryz.sizeOf132
  v60 := Tryz.zeroValue132
  i60 := by kernel_rfl
  t66 := Tryz.underlying136
  a66 := Tryz.isAgg136
  z66 := Tryz.sizeOf136
  v66 := Tryz.zeroValue136
  i66 := by kernel_rfl }
open Go.RowKit Go.Lib Go.Sort in
/-- '*r ^= *r << 13; *r ^= *r >> 7; *r ^= *r << 17; return uint64(*r)': the cell holds 'xorNextN X' and that is handed back; three draws; nothing else turns. (LAID: no walk: one application.) -/
theorem Tryz.xorshift_Next (rb ro X : Nat) (hX : X < 18446744073709551616) (w : World) (hc : w.cell? ⟨rb, ro, none⟩ = some (.int .u64 X)) (hf : w.frozen? ⟨rb, ro, none⟩ = false) :
    Calls Tryz.prog 91 #[.pointer (some ⟨rb, ro, none⟩)] w fun e w' => e = .returned (.int .u64 (xorNextN X : Nat)) ∧ w' = (w.setCell ⟨rb, ro, none⟩ (.int .u64 (xorNextN X : Nat))).drewN 3 := Any.xorshift_Next Tryz.laysGg36 rb ro X hX w hc hf
def Tryz.laysGg35_ren : Go.Shelf.Ren := ⟨fun | 35 => 90 | 13 => 21 | 24 => 38 | 25 => 39 | n => n, fun | 3 => 3 | 41 => 51 | 49 => 73 | 51 => 75 | 4 => 4 | 5 => 5 | 9 => 9 | n => n, fun | n => n⟩
theorem Tryz.laysGg35 : Go.Proofs.LaysGg.n35 Tryz.prog Tryz.laysGg35_ren := {
  mixed := by kernel_rfl
  f13 := Tryz.func21.trans (congrArg some (by kernel_rfl))
  f24 := Tryz.func38.trans (congrArg some (by kernel_rfl))
  f25 := Tryz.func39.trans (congrArg some (by kernel_rfl))
  f35 := Tryz.func90.trans (congrArg some (by kernel_rfl))
  t3 := Tryz.underlying3
  a3 := Tryz.isAgg3
  z3 := Tryz.sizeOf3
  v3 := Tryz.zeroValue3
  i3 := by kernel_rfl
  t4 := Tryz.underlying4
  a4 := Tryz.isAgg4
  z4 := Tryz.sizeOf4
  v4 := Tryz.zeroValue4
  i4 := by kernel_rfl
  t5 := Tryz.underlying5
  a5 := Tryz.isAgg5
  z5 := Tryz.sizeOf5
  v5 := Tryz.zeroValue5
  i5 := by kernel_rfl
  t9 := Tryz.underlying9
  a9 := Tryz.isAgg9
  z9 := Tryz.sizeOf9
  v9 := Tryz.zeroValue9
  i9 := by kernel_rfl
  t41 := Tryz.underlying51
  a41 := Tryz.isAgg51
  z41 := Tryz.sizeOf51
  v41 := Tryz.zeroValue51
  i41 := by kernel_rfl
  t49 := Tryz.underlying73
  a49 := Tryz.isAgg73
  z49 := Tryz.sizeOf73
  v49 := Tryz.zeroValue73
  i49 := by kernel_rfl
  t51 := Tryz.underlying75
  a51 := Tryz.isAgg75
  z51 := Tryz.sizeOf75
  v51 := Tryz.zeroValue75
  i51 := by kernel_rfl }
open Go.RowKit Go.Lib Go.Sort in
/-- 'return 1 << bits.Len(uint(length))'. (LAID: no walk: one application.) -/
theorem Tryz.nextPowerOfTwo (n : Nat) (hn : n < 4611686018427387904) (w : World) :
    Calls Tryz.prog 90 #[.int .i64 n] w fun e w' => e = .returned (.int .u64 ((1 <<< bitsLen n : Nat) : Int)) ∧ w' = w := Any.nextPowerOfTwo Tryz.laysGg35 n hn w
def Tryz.laysGt43_ren : Go.Shelf.Ren := ⟨fun | 43 => 89 | n => n, fun | 45 => 119 | 3 => 3 | 4 => 4 | 0 => 0 | 43 => 63 | 26 => 116 | 38 => 117 | n => n, fun | n => n⟩
theorem Tryz.laysGt43 : Go.Proofs.LaysGt.n43 Tryz.prog Tryz.laysGt43_ren := {
  mixed := by kernel_rfl
  f43 := Tryz.func89.trans (congrArg some (by kernel_rfl))
  t0 := Tryz.underlying0
  a0 := Tryz.isAgg0
  z0 := Tryz.sizeOf0
  v0 := Tryz.zeroValue0
  i0 := by kernel_rfl
  t3 := Tryz.underlying3
  a3 := Tryz.isAgg3
  z3 := Tryz.sizeOf3
  v3 := Tryz.zeroValue3
  i3 := by kernel_rfl
  t4 := Tryz.underlying4
  a4 := Tryz.isAgg4
  z4 := Tryz.sizeOf4
  v4 := Tryz.zeroValue4
  i4 := by kernel_rfl
  t26 := Tryz.underlying116
  a26 := Tryz.isAgg116
  z26 := Tryz.sizeOf116
  v26 := Tryz.zeroValue116
  i26 := by kernel_rfl
  t38 := Tryz.underlying117
  a38 := Tryz.isAgg117
  z38 := Tryz.sizeOf117
  v38 := Tryz.zeroValue117
  i38 := by kernel_rfl
  t43 := Tryz.underlying63
  a43 := Tryz.isAgg63
  z43 := Tryz.sizeOf63
  v43 := Tryz.zeroValue63
  i43 := by kernel_rfl
  t45 := Tryz.underlying119
  a45 := Tryz.isAgg119
  z45 := Tryz.sizeOf119
  v45 := Tryz.zeroValue119
  i45 := by kernel_rfl }
open Go.RowKit Go.Lib Go.Sort in
theorem Tryz.siftDown_iface {α : Type} [Inhabited α] (T : TypeId) (rv : Value) (gl gs : Nat) (rL : Reaches Tryz.prog T rv "Less" gl) (rS : Reaches Tryz.prog T rv "Swap" gs) (enc : α → Value) (lt : α → α → Bool) (blk off lo hi first : Nat) (d : Array α) (w : World) (hless : LessM Tryz.prog gl rv enc lt blk off d.size w) (hswap : SwapM Tryz.prog gs rv enc blk off d.size) (hH : Holds enc w blk off d) (hlo : lo ≤ hi) (hb : first + hi ≤ d.size) (hsz : d.size < 4611686018427387904) :
    Calls Tryz.prog 89 #[.iface T rv, .int .i64 lo, .int .i64 hi, .int .i64 first] w fun e w' =>
      e = .returned (.tuple #[]) ∧ ∃ n, w' = putRow enc (Sort.ahead w n) blk off (siftDown lt hi first lo d) := Any.siftDown_iface Tryz.laysGt43 T rv gl gs rL rS enc lt blk off lo hi first d w hless hswap hH hlo hb hsz
open Go.RowKit Go.Lib Go.Sort in
/-- sort.siftDown, from a world to a 'sortWorld' of it. (LAID: no walk: one application.) -/
theorem Tryz.siftDown_iface_w {α : Type} [Inhabited α] (T : TypeId) (rv : Value) (gl gs : Nat) (rL : Reaches Tryz.prog T rv "Less" gl) (rS : Reaches Tryz.prog T rv "Swap" gs) (enc : α → Value) (lt : α → α → Bool) (blk off lo hi first : Nat) (d : Array α) (w : World) (hless : LessM Tryz.prog gl rv enc lt blk off d.size w) (hswap : SwapM Tryz.prog gs rv enc blk off d.size) (hH : Holds enc w blk off d) (hlo : lo ≤ hi) (hb : first + hi ≤ d.size) (hsz : d.size < 4611686018427387904) :
    Calls Tryz.prog 89 #[.iface T rv, .int .i64 lo, .int .i64 hi, .int .i64 first] w fun e w' => e = .returned (.tuple #[]) ∧ ∃ n os, w' = sortWorld enc w blk off n (siftDown lt hi first lo d) os := Any.siftDown_iface_w Tryz.laysGt43 T rv gl gs rL rS enc lt blk off lo hi first d w hless hswap hH hlo hb hsz
def Tryz.laysGt34_ren : Go.Shelf.Ren := ⟨fun | 34 => 77 | 43 => 89 | n => n, fun | 45 => 119 | 3 => 3 | 4 => 4 | 0 => 0 | 43 => 63 | 26 => 116 | 38 => 117 | n => n, fun | n => n⟩
theorem Tryz.laysGt34 : Go.Proofs.LaysGt.n34 Tryz.prog Tryz.laysGt34_ren := {
  mixed := by kernel_rfl
  f34 := Tryz.func77.trans (congrArg some (by kernel_rfl))
  f43 := Tryz.func89.trans (congrArg some (by kernel_rfl))
  t0 := Tryz.underlying0
  a0 := Tryz.isAgg0
  z0 := Tryz.sizeOf0
  v0 := Tryz.zeroValue0
  i0 := by kernel_rfl
  t3 := Tryz.underlying3
  a3 := Tryz.isAgg3
  z3 := Tryz.sizeOf3
  v3 := Tryz.zeroValue3
  i3 := by kernel_rfl
  t4 := Tryz.underlying4
  a4 := Tryz.isAgg4
  z4 := Tryz.sizeOf4
  v4 := Tryz.zeroValue4
  i4 := by kernel_rfl
  t26 := Tryz.underlying116
  a26 := Tryz.isAgg116
  z26 := Tryz.sizeOf116
  v26 := Tryz.zeroValue116
  i26 := by kernel_rfl
  t38 := Tryz.underlying117
  a38 := Tryz.isAgg117
  z38 := Tryz.sizeOf117
  v38 := Tryz.zeroValue117
  i38 := by kernel_rfl
  t43 := Tryz.underlying63
  a43 := Tryz.isAgg63
  z43 := Tryz.sizeOf63
  v43 := Tryz.zeroValue63
  i43 := by kernel_rfl
  t45 := Tryz.underlying119
  a45 := Tryz.isAgg119
  z45 := Tryz.sizeOf119
  v45 := Tryz.zeroValue119
  i45 := by kernel_rfl }
open Go.RowKit Go.Lib Go.Sort in
theorem Tryz.heapSort_iface_w {α : Type} [Inhabited α] (T : TypeId) (rv : Value) (gl gs : Nat) (rL : Reaches Tryz.prog T rv "Less" gl) (rS : Reaches Tryz.prog T rv "Swap" gs) (enc : α → Value) (lt : α → α → Bool) (blk off a b : Nat) (d : Array α) (w : World) (hless : LessM Tryz.prog gl rv enc lt blk off d.size w) (hswap : SwapM Tryz.prog gs rv enc blk off d.size) (hH : Holds enc w blk off d) (hblk : blk < w.heap.size) (hab : a ≤ b) (hb : b ≤ d.size) (hsz : d.size < 4611686018427387904) :
    Calls Tryz.prog 77 #[.iface T rv, .int .i64 a, .int .i64 b] w fun e w' => e = .returned (.tuple #[]) ∧ ∃ n os, w' = sortWorld enc w blk off n (heapSort lt d a b) os := Any.heapSort_iface_w Tryz.laysGt34 T rv gl gs rL rS enc lt blk off a b d w hless hswap hH hblk hab hb hsz
def Tryz.laysGt38_ren : Go.Shelf.Ren := ⟨fun | 38 => 81 | n => n, fun | 45 => 119 | 3 => 3 | 4 => 4 | 0 => 0 | 43 => 63 | 26 => 116 | 38 => 117 | n => n, fun | n => n⟩
theorem Tryz.laysGt38 : Go.Proofs.LaysGt.n38 Tryz.prog Tryz.laysGt38_ren := {
  mixed := by kernel_rfl
  f38 := Tryz.func81.trans (congrArg some (by kernel_rfl))
  t0 := Tryz.underlying0
  a0 := Tryz.isAgg0
  z0 := Tryz.sizeOf0
  v0 := Tryz.zeroValue0
  i0 := by kernel_rfl
  t3 := Tryz.underlying3
  a3 := Tryz.isAgg3
  z3 := Tryz.sizeOf3
  v3 := Tryz.zeroValue3
  i3 := by kernel_rfl
  t4 := Tryz.underlying4
  a4 := Tryz.isAgg4
  z4 := Tryz.sizeOf4
  v4 := Tryz.zeroValue4
  i4 := by kernel_rfl
  t26 := Tryz.underlying116
  a26 := Tryz.isAgg116
  z26 := Tryz.sizeOf116
  v26 := Tryz.zeroValue116
  i26 := by kernel_rfl
  t38 := Tryz.underlying117
  a38 := Tryz.isAgg117
  z38 := Tryz.sizeOf117
  v38 := Tryz.zeroValue117
  i38 := by kernel_rfl
  t43 := Tryz.underlying63
  a43 := Tryz.isAgg63
  z43 := Tryz.sizeOf63
  v43 := Tryz.zeroValue63
  i43 := by kernel_rfl
  t45 := Tryz.underlying119
  a45 := Tryz.isAgg119
  z45 := Tryz.sizeOf119
  v45 := Tryz.zeroValue119
  i45 := by kernel_rfl }
open Go.RowKit Go.Lib Go.Sort in
theorem Tryz.partialInsertionSort_iface {α : Type} [Inhabited α] (T : TypeId) (rv : Value) (gl gs : Nat) (rL : Reaches Tryz.prog T rv "Less" gl) (rS : Reaches Tryz.prog T rv "Swap" gs) (enc : α → Value) (lt : α → α → Bool) (blk off a b : Nat) (d : Array α) (w : World) (hless : LessM Tryz.prog gl rv enc lt blk off d.size w) (hswap : SwapM Tryz.prog gs rv enc blk off d.size) (hH : Holds enc w blk off d) (hab : a < b) (hb : b ≤ d.size) (hsz : d.size < 4611686018427387904) :
    Calls Tryz.prog 81 #[.iface T rv, .int .i64 a, .int .i64 b] w fun e w' =>
      e = .returned (.bool (Sort.partialInsertionSort lt d a b).2) ∧ ∃ n, w' = putRow enc (Sort.ahead w n) blk off (Sort.partialInsertionSort lt d a b).1 := Any.partialInsertionSort_iface Tryz.laysGt38 T rv gl gs rL rS enc lt blk off a b d w hless hswap hH hab hb hsz
open Go.RowKit Go.Lib Go.Sort in
/-- sort.partialInsertionSort, from a world to a 'sortWorld' of it. (LAID: no walk: one application.) -/
theorem Tryz.partialInsertionSort_iface_w {α : Type} [Inhabited α] (T : TypeId) (rv : Value) (gl gs : Nat) (rL : Reaches Tryz.prog T rv "Less" gl) (rS : Reaches Tryz.prog T rv "Swap" gs) (enc : α → Value) (lt : α → α → Bool) (blk off a b : Nat) (d : Array α) (w : World) (hless : LessM Tryz.prog gl rv enc lt blk off d.size w) (hswap : SwapM Tryz.prog gs rv enc blk off d.size) (hH : Holds enc w blk off d) (hab : a < b) (hb : b ≤ d.size) (hsz : d.size < 4611686018427387904) :
    Calls Tryz.prog 81 #[.iface T rv, .int .i64 a, .int .i64 b] w fun e w' => e = .returned (.bool (Sort.partialInsertionSort lt d a b).2) ∧ ∃ n os, w' = sortWorld enc w blk off n (Sort.partialInsertionSort lt d a b).1 os := Any.partialInsertionSort_iface_w Tryz.laysGt38 T rv gl gs rL rS enc lt blk off a b d w hless hswap hH hab hb hsz
def Tryz.laysSlE041_f11_ren : Go.Shelf.Ren := ⟨fun | 41 => 11 | n => n, fun | 22 => 23 | 23 => 34 | 4 => 4 | n => n, fun | n => n⟩
theorem Tryz.laysSlE041_f11 : Go.Proofs.SlLaysE0.n41 Tryz.prog Tryz.laysSlE041_f11_ren := {
  mixed := by kernel_rfl
  f41 := ⟨Tryz.f11.name, by decide, Tryz.func11.trans (congrArg some (by kernel_rfl))⟩
  t4 := Tryz.underlying4
  a4 := Tryz.isAgg4
  z4 := Tryz.sizeOf4
  v4 := Tryz.zeroValue4
  t22 := Tryz.underlying23
  a22 := Tryz.isAgg23
  z22 := Tryz.sizeOf23
  v22 := Tryz.zeroValue23 }
open Go.RowKit Go.Lib in
/-- slices.Clone: "Clone returns a copy of the slice. The elements are copied using assignment, so this is a shallow clone. The result may have additional unused capacity. The result preserves the nilness of s.": OF A SLICE THAT IS NOT nil IT RETURNS A SLICE THAT IS NOT nil, OF THE SAME CELLS, IN MEMORY OF THE CALL's OWN ('ownsRow': the how-to's 6f); below the heap's size at the call all is as it was. (LAID AT THE INSTANCE 'slices.Clone[[]float64,float64]': no walk: one application.) -/
theorem Tryz.slices_Clone (i0 : TypeInfo) (z : Value) (size bytes : Nat) (hi : Tryz.prog.info? 34 = some i0) (hz0 : i0.zero = some z) (hz1 : i0.size = size) (hz2 : i0.bytes = bytes) (hzs : z.cells.size = size) (hsz : 0 < size) (z23 : ∀ w, (Go.sizeOf 34).run Tryz.prog w = .ok size w) (b off n c : Nat) (news : List Value) (w : World) (hl : news.length = n * size) (hn : n ≤ maxLen) (hbig : n * bytes ≤ 140737488355328) (hc : ∀ j u, news[j]? = some u → w.cell? ⟨b, off + j, none⟩ = some u) (h1 : ∀ u ∈ news, u.oneCell' = true) :
    Calls Tryz.prog 11 #[.slice (some ⟨b, off, none⟩) n c] w fun e w' => ∃ v', e = .returned v' ∧ w'.ownsRow w.heap.size 34 size v' n news ∧ v' ≠ .slice none 0 0 ∧ Below w.heap.size w w' := AnyE.slices_Clone Tryz.laysSlE041_f11 i0 z size bytes hi hz0 hz1 hz2 hzs hsz z23 b off n c news w hl hn hbig hc h1
open Go.RowKit Go.Lib in
/-- The same at nil: nil comes back; the world is as it was; nothing is asked of the element's type. (LAID AT THE INSTANCE 'slices.Clone[[]float64,float64]': no walk: one application.) -/
theorem Tryz.slices_Clone_nil (n c : Nat) (w : World) :
    Calls Tryz.prog 11 #[.slice none n c] w fun e w' => e = .returned (.slice none 0 0) ∧ w' = w := AnyE.slices_Clone_nil Tryz.laysSlE041_f11 n c w
end Go.Proofs
