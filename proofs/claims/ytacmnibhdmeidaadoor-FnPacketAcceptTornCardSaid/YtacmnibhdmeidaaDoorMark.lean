/-
  Packets MARKER: their bytes, and how they are read.
-/
import Derived.Test.YtacmnibhdmeidaaDoorRead2
import Derived.Deep.DeepCutAuto
namespace Go.Proofs.YtacmnibhdmeidaaDoor
open Go Go.RowKit

def markL (long : Bool) (k : Int) : List Int := if long then [0, 0, 0, 11, 12, 0, 0, 0, 1, 0, k] else [0, 11, 0, 0, 12, 0, 0, 0, 1, 0, k]
def MarkBytes (long : Bool) (k : Int) (w : World) (e : Ending) (w' : World) : Prop := ∃ g, e = .returned (.slice (some ⟨g, 0, none⟩) 11 11) ∧
  w'.ownsRow w.heap.size 5 1 (.slice (some ⟨g, 0, none⟩) 11 11) 11 ((markL long k).map (Value.int .u8)) ∧ Below w.heap.size w w'

end Go.Proofs.YtacmnibhdmeidaaDoor
