/-
  AddServer: servers in a row, one more of them or none.
-/
import Derived.Test.YtmojecgmneodlaaDoorSrv0
import Derived.Test.YtmojecgmneodlaaDoorCfg5
namespace Go.Proofs.YtmojecgmneodlaaDoor
open Go Go.RowKit

theorem isEqS (b1 b2 i2 : Nat) (s t : Srv) (w : World) (h1 : Blk w b1 75 #[.string s.pr, .string s.ad, .int .i64 s.po]) (h2 : w.cell? ⟨b2, i2 + 1, none⟩ = some (.string t.ad)) (h3 : w.cell? ⟨b2, i2 + 2, none⟩ = some (.int .i64 t.po)) (o1 : srvOk s.pr s.ad = true) (o2 : srvOk t.pr t.ad = true) :
    Calls Tryd.prog 52 #[.pointer (some ⟨b1, 0, none⟩), .pointer (some ⟨b2, i2, none⟩)] w fun e w' => e = .returned (.bool (sameS s t)) ∧ Kp w w' := by
  simp only [srvOk, Bool.and_eq_true, decide_eq_true_eq] at o1 o2
  cases he : hostEq s.ad.data.toList t.ad.data.toList
  · refine (isEqualAt_no b1 b2 i2 s.pr s.ad t.ad s.po t.po w h1 h2 h3 o1.1.1 o2.1.1 o1.2 o2.2 he).mono ?_
    rintro e w1 ⟨rfl, hk⟩
    exact ⟨by rw [sameS, he]; rfl, hk⟩
  · refine (isEqualAt_yes b1 b2 i2 s.pr s.ad t.ad s.po t.po w h1 h2 h3 o1.1.1 o2.1.1 o1.2 o2.2 he).mono ?_
    rintro e w1 ⟨rfl, hk⟩
    exact ⟨by rw [sameS, he]; rfl, hk⟩
end Go.Proofs.YtmojecgmneodlaaDoor
