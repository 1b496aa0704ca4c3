/-
  What RedirectRead tells of bytes.
-/
import Derived.Test.YtacmnibhdmeidaaDoorGet
import Derived.Test.YtacmnibhdmeidaaDoorCtx
namespace Go.Proofs.YtacmnibhdmeidaaDoor
open Go Go.RowKit

theorem blk_set7 {w : World} {g : Nat} {t : TypeId} {x0 x1 x2 x3 x4 x5 x6 v0 v1 v2 v3 v4 v5 v6 : Value} (h : Blk w g t #[x0, x1, x2, x3, x4, x5, x6]) :
    Blk (((((((w.setCell ⟨g, 0, none⟩ v0).setCell ⟨g, 1, none⟩ v1).setCell ⟨g, 2, none⟩ v2).setCell ⟨g, 3, none⟩ v3).setCell ⟨g, 4, none⟩ v4).setCell ⟨g, 5, none⟩ v5).setCell ⟨g, 6, none⟩ v6) g t #[v0, v1, v2, v3, v4, v5, v6] := by
  have h7 := ((((((h.set_ 0 v0).set_ 1 v1).set_ 2 v2).set_ 3 v3).set_ 4 v4).set_ 5 v5).set_ 6 v6
  simpa using h7

end Go.Proofs.YtacmnibhdmeidaaDoor
