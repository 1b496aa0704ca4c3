/-
  sessionGot: what reading parts gives.
-/
import Derived.Test.YtacmnibhdmeidaaDoorSes23
namespace Go.Proofs.YtacmnibhdmeidaaDoor
open Go Go.RowKit

/-- What reading a part gives: where it lies, and what it is. -/
def wantP (s : LPart) : GPlace := if s.kd % 6 = 2 then ⟨none, 0, 0, none, 0, 0⟩ else if s.kd % 6 = 3 then ⟨none, 0, 0, none, 0, 0⟩ else if s.kd % 6 = 4 then ⟨s.q1, s.k1, s.c1, s.q2, s.k2, s.c2⟩ else ⟨s.q1, s.k1, s.c1, none, 0, 0⟩
def wantV (s : LPart) : GRec := if s.kd % 6 = 2 then ⟨[], [], w64 (partNum s.kd s.sz s.num : Int), noText⟩ else if s.kd % 6 = 3 then ⟨[], [], w64 (partNum s.kd s.sz s.num : Int), noText⟩ else if s.kd % 6 = 4 then ⟨s.ys, s.zs, s.flag, noText⟩ else ⟨s.ys, [], 0, noText⟩
set_option maxRecDepth 100000 in
theorem one_got (B : Nat) (W : World) (k : Nat) (v : Value) (xs : List Value) (hown : W.ownsRow B 46 5 v k xs) (hB : B ≤ W.heap.size) (pl : GPlace) (u : GRec) (hk : k ≤ 1000) :
    ∃ v' w5, (Builtin.append_ #[48, 48] 48 #[v, .slice (some ⟨W.heap.size, 0, none⟩) 1 1]).run Tryd.prog (W.alloc (.cells (gotCells pl u).toArray 46)) = .ok v' w5 ∧
      w5.ownsRow B 46 5 v' (k + 1) (xs ++ gotCells pl u) ∧ (∀ U, Kp U W → U.heap.size ≤ B → Kp U w5) := by
  generalize hW : W.alloc (.cells (gotCells pl u).toArray 46) = W4
  have hkW : Kp W W4 := hW ▸ (Kp.refl W).alloc _
  have hs : W4.heap.size = W.heap.size + 1 := by rw [← hW]; simp
  have hcW := own_below hown hkW
  obtain ⟨v', w5, r1, r2, r5, r6⟩ := app_got W4 B v k xs hcW W.heap.size pl u (hW ▸ Blk.new W _ _) (by omega) (by omega)
  exact ⟨v', w5, r1, r2, fun U hU hUB => (hU.trans hkW).grown r5 (fun b hb => by have := (own_lt' hown b hb).1; omega)⟩

end Go.Proofs.YtacmnibhdmeidaaDoor
