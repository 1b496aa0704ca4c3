/-
  IsEqual of a server in a block of its own and of one that stands in a row.
-/
import Derived.Test.YtcdbnjhkjfimkaaDoorCfg3
namespace Go.Proofs.YtcdbnjhkjfimkaaDoor
open Go Go.RowKit

end Go.Proofs.YtcdbnjhkjfimkaaDoor
