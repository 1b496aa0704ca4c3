/-
  sessionFits: at most 20 parts with at most 1000 bytes each.
-/
import Derived.Test.YtacmnibhdmeidaaDoorSes20
namespace Go.Proofs.YtacmnibhdmeidaaDoor
open Go Go.RowKit

end Go.Proofs.YtacmnibhdmeidaaDoor
