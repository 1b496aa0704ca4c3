/-
  FnUrlHead: the law's own walk.
-/
import Derived.Test.YtcdbnjhkjfimkaaDoorUrl4
namespace Go.Proofs.YtcdbnjhkjfimkaaDoor
open Go Go.RowKit

end Go.Proofs.YtcdbnjhkjfimkaaDoor
