/-
  ServersEqual.
-/
import Derived.Test.YtcdbnjhkjfimkaaDoorCfg3
import Derived.Deep.DeepCutAuto
namespace Go.Proofs.YtcdbnjhkjfimkaaDoor
open Go Go.RowKit

theorem three {w : World} {B : Nat} {T : TypeId} {y0 y1 y2 : Value} (h : Blk w B T #[y0, y1, y2]) (x0 x1 x2 : Value) :
    Blk (((w.setCell ⟨B, 0, none⟩ x0).setCell ⟨B, 1, none⟩ x1).setCell ⟨B, 2, none⟩ x2) B T #[x0, x1, x2] ∧ w.grownBy (((w.setCell ⟨B, 0, none⟩ x0).setCell ⟨B, 1, none⟩ x1).setCell ⟨B, 2, none⟩ x2) (some B) := by
  refine ⟨?_, ?_⟩
  · have b9 := ((h.set_ 0 x0).set_ 1 x1).set_ 2 x2
    simpa using b9
  · exact World.grownBy.trans (World.grownBy.trans (Lib.grownBy_setCell _ _ _ _) (Lib.grownBy_setCell _ _ _ _)) (Lib.grownBy_setCell _ _ _ _)
theorem sc_other {w : World} {B i : Nat} {x : Value} {tb j : Nat} {v : Value} (hne : tb ≠ B) (h : w.cell? ⟨tb, j, none⟩ = some v) : (w.setCell ⟨B, i, none⟩ x).cell? ⟨tb, j, none⟩ = some v := by
  rw [World.cell?_setCell_other _ _ _ _ (fun e => hne (by injection e with e1; exact e1.symm))]; exact h
theorem set3 {w : World} {b1 b2 B : Nat} {v0 v1 v2 v3 v4 v5 x0 x1 x2 : Value} (hf : b1 ≠ B ∧ b2 ≠ B) (h : w.cell? ⟨b1, 0, none⟩ = some v0 ∧ w.cell? ⟨b1, 1, none⟩ = some v1 ∧ w.cell? ⟨b1, 2, none⟩ = some v2 ∧ w.cell? ⟨b2, 0, none⟩ = some v3 ∧ w.cell? ⟨b2, 1, none⟩ = some v4 ∧ w.cell? ⟨b2, 2, none⟩ = some v5) :
    let w' := ((w.setCell ⟨B, 0, none⟩ x0).setCell ⟨B, 1, none⟩ x1).setCell ⟨B, 2, none⟩ x2
    w'.cell? ⟨b1, 0, none⟩ = some v0 ∧ w'.cell? ⟨b1, 1, none⟩ = some v1 ∧ w'.cell? ⟨b1, 2, none⟩ = some v2 ∧ w'.cell? ⟨b2, 0, none⟩ = some v3 ∧ w'.cell? ⟨b2, 1, none⟩ = some v4 ∧ w'.cell? ⟨b2, 2, none⟩ = some v5 :=
  ⟨sc_other hf.1 (sc_other hf.1 (sc_other hf.1 h.1)), sc_other hf.1 (sc_other hf.1 (sc_other hf.1 h.2.1)), sc_other hf.1 (sc_other hf.1 (sc_other hf.1 h.2.2.1)), sc_other hf.2 (sc_other hf.2 (sc_other hf.2 h.2.2.2.1)), sc_other hf.2 (sc_other hf.2 (sc_other hf.2 h.2.2.2.2.1)), sc_other hf.2 (sc_other hf.2 (sc_other hf.2 h.2.2.2.2.2))⟩

end Go.Proofs.YtcdbnjhkjfimkaaDoor
