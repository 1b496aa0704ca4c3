/-
  AddServer: servers in a row, one more of them or none.
-/
import Derived.Test.YtcdbnjhkjfimkaaDoorSrv0
import Derived.Test.YtcdbnjhkjfimkaaDoorCfg5
namespace Go.Proofs.YtcdbnjhkjfimkaaDoor
open Go Go.RowKit

end Go.Proofs.YtcdbnjhkjfimkaaDoor
