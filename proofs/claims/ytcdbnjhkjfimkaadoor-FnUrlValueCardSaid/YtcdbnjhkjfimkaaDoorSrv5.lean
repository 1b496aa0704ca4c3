/-
  GetActiveServer(true): the next server.
-/
import Derived.Test.YtcdbnjhkjfimkaaDoorSrv4
namespace Go.Proofs.YtcdbnjhkjfimkaaDoor
open Go Go.RowKit
end Go.Proofs.YtcdbnjhkjfimkaaDoor
