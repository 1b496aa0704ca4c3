/-
  sessionPuts: the steps that write parts.
-/
import Derived.Test.YtacmnibhdmeidaaDoorSes21
import Derived.Test.YtacmnibhdmeidaaDoorFnPairs
import Derived.Test.YtacmnibhdmeidaaDoorFnSigned
namespace Go.Proofs.YtacmnibhdmeidaaDoor
open Go Go.RowKit

/-- The step that writes a part. -/
structure PutOf (s : LPart) (t : PStep) : Prop where
  kind : t.kind = s.kd % 6
  ys : t.ys = s.ys
  k1 : t.k1 = s.k1
  zs : t.zs = s.zs
  k2 : t.k2 = s.k2
  flag : t.flag = s.flag
  size : t.size = partSize s.sz
  big : t.big = s.big
  comp : t.comp = s.comp
  num : t.num = if s.kd % 6 = 2 then (partNum s.kd s.sz s.num : Int) else 0
  uns : t.uns = if s.kd % 6 = 3 then (partNum s.kd s.sz s.num : Int) else 0

theorem sc_other {w : World} {B i : Nat} {x : Value} {tb j : Nat} {v : Value} (hne : tb ≠ B) (h : w.cell? ⟨tb, j, none⟩ = some v) : (w.setCell ⟨B, i, none⟩ x).cell? ⟨tb, j, none⟩ = some v := by
  rw [World.cell?_setCell_other _ _ _ _ (fun e => hne (by injection e with e1; exact e1.symm))]; exact h
theorem nine {w : World} {B : Nat} {T : TypeId} {y0 y1 y2 y3 y4 y5 y6 y7 y8 : Value} (h : Blk w B T #[y0, y1, y2, y3, y4, y5, y6, y7, y8]) (x0 x1 x2 x3 x4 x5 x6 x7 x8 : Value) :
    Blk (((((((((w.setCell ⟨B, 0, none⟩ x0).setCell ⟨B, 1, none⟩ x1).setCell ⟨B, 2, none⟩ x2).setCell ⟨B, 3, none⟩ x3).setCell ⟨B, 4, none⟩ x4).setCell ⟨B, 5, none⟩ x5).setCell ⟨B, 6, none⟩ x6).setCell ⟨B, 7, none⟩ x7).setCell ⟨B, 8, none⟩ x8) B T #[x0, x1, x2, x3, x4, x5, x6, x7, x8] ∧ w.grownBy (((((((((w.setCell ⟨B, 0, none⟩ x0).setCell ⟨B, 1, none⟩ x1).setCell ⟨B, 2, none⟩ x2).setCell ⟨B, 3, none⟩ x3).setCell ⟨B, 4, none⟩ x4).setCell ⟨B, 5, none⟩ x5).setCell ⟨B, 6, none⟩ x6).setCell ⟨B, 7, none⟩ x7).setCell ⟨B, 8, none⟩ x8) (some B) := by
  refine ⟨?_, ?_⟩
  · have b9 := (((((((((h.set_ 0 x0).set_ 1 x1).set_ 2 x2).set_ 3 x3).set_ 4 x4).set_ 5 x5).set_ 6 x6).set_ 7 x7).set_ 8 x8)
    simpa using b9
  · exact grown_trans (grown_trans (grown_trans (grown_trans (grown_trans (grown_trans (grown_trans (grown_trans (Lib.grownBy_setCell _ _ _ _) (Lib.grownBy_setCell _ _ _ _)) (Lib.grownBy_setCell _ _ _ _)) (Lib.grownBy_setCell _ _ _ _)) (Lib.grownBy_setCell _ _ _ _)) (Lib.grownBy_setCell _ _ _ _)) (Lib.grownBy_setCell _ _ _ _)) (Lib.grownBy_setCell _ _ _ _)) (Lib.grownBy_setCell _ _ _ _)

theorem bin_set {w : World} {q : Option Addr} {n : Nat} {xs : List Int} (h : Lib.BytesIn w q n xs) {B2 i : Nat} {x : Value} (hn : ∀ a, q = some a → a.block ≠ B2) : Lib.BytesIn (w.setCell ⟨B2, i, none⟩ x) q n xs := fun hl => by
  obtain ⟨b, o, he, hc⟩ := h hl
  exact ⟨b, o, he, fun j hj => sc_other (hn _ he) (hc j hj)⟩
theorem far_set {w : World} {v : Value} {t : BRow} (h : BRow.Far w v t) {B2 i : Nat} {x : Value} : BRow.Far (w.setCell ⟨B2, i, none⟩ x) v t := fun a ha => ⟨by simpa using (h a ha).1, (h a ha).2⟩
theorem own_block {w : World} {base : Nat} {q : Option Addr} {k d : Nat} {ys : List Int} (h : w.ownsRow base 5 1 (.slice q k d) k (ys.map (Value.int .u8))) : ∀ a, q = some a → base ≤ a.block ∧ a.block < w.heap.size ∧ (Value.slice q k d).ownBlock = some a.block := fun a ha => by
  subst ha
  rcases h.2 with ⟨h1, _⟩ | ⟨g, cap, cur, h1, _⟩
  · cases h1
  · injection h1 with h3
    injection h3 with h3
    subst h3
    have h2 := h.lt g rfl
    exact ⟨h2.1, h2.2, rfl⟩
theorem cut_one {wr w1 w4 wc : World} {B B2 sz k : Nat} {e : TypeId} {v : Value} {xs : List Value} (hv : wr.ownsRow B e sz v k xs) (hk1 : Kp wr w1) {b3 : Nat} {q : Option Addr} {k1 d : Nat} {ys : List Int} (o : w4.ownsRow b3 5 1 (.slice q k1 d) k1 (ys.map (Value.int .u8))) (hb3 : w1.heap.size ≤ b3) (hg : w4.grownBy wc (some B2)) (hn : ∀ a, q = some a → a.block ≠ B2) :
    Lib.BytesIn wc q k1 ys ∧ BRow.Far wc v ⟨q, k1, ys⟩ := by
  have ox : wc.ownsRow b3 5 1 (.slice q k1 d) k1 (ys.map (Value.int .u8)) := o.kept hg (by
    rcases q with _ | a
    · exact .inl rfl
    · rw [(own_block o a rfl).2.2]
      exact .inr (fun e => hn a rfl (by injection e)))
  exact ⟨bin_of_own ox, far_new hv ox (Nat.le_trans hk1.size hb3)⟩

set_option maxRecDepth 100000 in
/-- One step is appended. -/
theorem one_step (B : Nat) (W : World) (k : Nat) (v : Value) (R : Nat → PStep) (hc : PColl B W k v R) (hB : B ≤ W.heap.size) (x : PStep) (h1 : Lib.BytesIn W x.q1 x.k1 x.ys) (h2 : Lib.BytesIn W x.q2 x.k2 x.zs) (f1 : BRow.Far W v ⟨x.q1, x.k1, x.ys⟩) (f2 : BRow.Far W v ⟨x.q2, x.k2, x.zs⟩) (hk : k ≤ 1000) :
    ∃ v' w5, (Builtin.append_ #[78, 78] 78 #[v, .slice (some ⟨W.heap.size, 0, none⟩) 1 1]).run Tryd.prog (W.alloc (.cells x.cells.toArray 77)) = .ok v' w5 ∧
      PColl B w5 (k + 1) v' (fun r => if r = k then x else R r) ∧ (∀ U, Kp U W → U.heap.size ≤ B → Kp U w5) := by
  generalize hW : W.alloc (.cells x.cells.toArray 77) = W4
  have hkW : Kp W W4 := hW ▸ (Kp.refl W).alloc _
  have hs : W4.heap.size = W.heap.size + 1 := by rw [← hW]; simp
  have hcW : PColl B W4 k v R := Coll.kp hc hkW
  obtain ⟨v', w5, r1, r2, r5, r6⟩ := app_rec Tryd.underlying78 infoPut rfl (by decide) (by decide) W4 B v k _ hcW.own W.heap.size x.cells (hW ▸ Blk.new W _ _) rfl (PStep.one _) (by omega) (by omega)
  refine ⟨v', w5, r1, Coll.app hcW r2 r5 r6 ?_ ?_, fun U hU hUB => (hU.trans hkW).grown r5 (fun b hb => by have := (own_lt' hc.own b hb).1; omega)⟩
  · intro t ht
    simp only [PStep.rows, List.mem_cons, List.not_mem_nil, or_false] at ht
    rcases ht with rfl | rfl
    · exact bin_kp h1 hkW
    · exact bin_kp h2 hkW
  · intro t ht a ha
    simp only [PStep.rows, List.mem_cons, List.not_mem_nil, or_false] at ht
    rcases ht with rfl | rfl
    · exact ⟨by have := (f1 a ha).1; omega, (f1 a ha).2⟩
    · exact ⟨by have := (f2 a ha).1; omega, (f2 a ha).2⟩

end Go.Proofs.YtacmnibhdmeidaaDoor
