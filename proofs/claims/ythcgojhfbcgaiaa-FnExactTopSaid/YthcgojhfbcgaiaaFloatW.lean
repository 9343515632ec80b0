/- The walk's laws for floats that the kit lacks: a store of a float, of a map; sums, differences, products and the order of floats that are whole numbers. No condition beside those named. -/
import Derived.Test.YthcgojhfbcgaiaaFloatQ
import Derived.WalkKit
import Derived.WalkSpells
import Derived.WalkLawsBesides
import Derived.Laws.EntriesVeiled
namespace Go.Proofs.Ythcgojhfbcgaiaa
open Go.RowKit
variable {P : Program}
@[go_sem] theorem run_store_float (w : World) (a : Addr) (m : Mode) (k : FloatKind) (b : Nat) : (store a (.float k b) m).run P w = stored P w a (.float k b) m := run_store P w a _ m rfl
@[go_sem] theorem run_store_map (w : World) (a : Addr) (m : Mode) (r : Option Nat) : (store a (.map r) m).run P w = stored P w a (.map r) m := run_store P w a _ m rfl
@[go_sem] theorem run_store_iface (w : World) (a : Addr) (m : Mode) (t : TypeId) (v : Value) : (store a (.iface t v) m).run P w = stored P w a (.iface t v) m := run_store P w a _ m rfl
end Go.Proofs.Ythcgojhfbcgaiaa
