/-
  sessionGets: the steps that read parts.
-/
import Derived.Test.YtacmnibhdmeidaaDoorSes22
namespace Go.Proofs.YtacmnibhdmeidaaDoor
open Go Go.RowKit

/-- The step that reads a part. -/
def getOf (s : LPart) : GStep :=
  if s.kd % 6 = 0 then ⟨1, s.k1, false, false⟩ else if s.kd % 6 = 1 then ⟨2, 0, false, false⟩ else if s.kd % 6 = 4 then ⟨6, 0, false, false⟩ else if s.kd % 6 = 5 then ⟨8, 0, false, false⟩ else
  ⟨4, partSize s.sz, s.big, s.comp && (decide (s.kd % 6 = 2) || decide (1 < partSize s.sz))⟩
set_option maxRecDepth 100000 in
theorem one_get (B : Nat) (W : World) (k : Nat) (v : Value) (R : Nat → GStep) (hc : GColl B W k v R) (hB : B ≤ W.heap.size) (x : GStep) (hk : k ≤ 1000) :
    ∃ v' w5, (Builtin.append_ #[40, 40] 40 #[v, .slice (some ⟨W.heap.size, 0, none⟩) 1 1]).run Tryd.prog (W.alloc (.cells x.cells.toArray 44)) = .ok v' w5 ∧
      GColl B w5 (k + 1) v' (fun r => if r = k then x else R r) ∧ (∀ U, Kp U W → U.heap.size ≤ B → Kp U w5) := by
  generalize hW : W.alloc (.cells x.cells.toArray 44) = W4
  have hkW : Kp W W4 := hW ▸ (Kp.refl W).alloc _
  have hs : W4.heap.size = W.heap.size + 1 := by rw [← hW]; simp
  have hcW : GColl B W4 k v R := Coll.kp hc hkW
  obtain ⟨v', w5, r1, r2, r5, r6⟩ := app_rec Tryd.underlying40 infoGet rfl (by decide) (by decide) W4 B v k _ hcW.own W.heap.size x.cells (hW ▸ Blk.new W _ _) rfl (GStep.one _) (by omega) (by omega)
  exact ⟨v', w5, r1, Coll.app hcW r2 r5 r6 (fun t ht => absurd ht List.not_mem_nil) (fun t ht => absurd ht List.not_mem_nil), fun U hU hUB => (hU.trans hkW).grown r5 (fun b hb => by have := (own_lt' hc.own b hb).1; omega)⟩

end Go.Proofs.YtacmnibhdmeidaaDoor
