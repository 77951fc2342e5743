/- A world that has at most new blocks: 'Bel w w'', made of the library's Below; how it goes on from call to call. -/
import Derived.Test.YteejjhdfebhagaaDoorRows
import Derived.WalkKit
import Derived.ProofKit
import Derived.OpenShut
import Derived.Lib.Hide
import Derived.Below
import Derived.WalkSmall
namespace Go.Proofs.YteejjhdfebhagaaDoor
open Go.ChangeShapes Go.WideShapes Go.ChangeAt Go.RowKit

def Bel (w w' : World) : Prop := Below w.heap.size w w'
theorem Bel.refl (w : World) : Bel w w := Below.refl _ _
theorem Bel.alloc {W w : World} (h : Bel W w) (c : Array Value) (t : TypeId) : Bel W (w.alloc (.cells c t)) := Below.alloc h (Below.size h) _
theorem Bel.any {W w : World} (h : Bel W w) (o : Obj) : Bel W (w.alloc o) := Below.alloc h (Below.size h) _
theorem Bel.trans {a b c : World} (h : Bel a b) (k : Bel b c) : Bel a c := Below.trans h (Below.mono k (Below.size h))
theorem bel_trans {a b c : World} (h : Bel a b) (k : Bel b c) : Bel a c := h.trans k

end Go.Proofs.YteejjhdfebhagaaDoor
