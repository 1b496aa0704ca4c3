/-
  ResetServerIndex, GetActiveServer, plainServer.
-/
import Derived.Test.YtcdbnjhkjfimkaaDoorSrv3
namespace Go.Proofs.YtcdbnjhkjfimkaaDoor
open Go Go.RowKit
end Go.Proofs.YtcdbnjhkjfimkaaDoor
