/-
  Pairs as steps: how they are collected, what they write one behind the other, what is read of it.
-/
import Derived.Test.YtacmnibhdmeidaaDoorSes15
import Derived.Test.YtacmnibhdmeidaaDoorRws
namespace Go.Proofs.YtacmnibhdmeidaaDoor
open Go Go.RowKit

/-- What so many steps write from one of them on. -/
def restL (big : Bool) (chunk : Nat) (P : Nat → PStep) : Nat → Nat → List Int
  | 0, _ => []
  | m + 1, r => stepW big chunk (P r) ++ restL big chunk P m (r + 1)
theorem putL_rest (big : Bool) (chunk : Nat) (P : Nat → PStep) : ∀ m r, putL big chunk P r ++ restL big chunk P m r = putL big chunk P (r + m)
  | 0, r => by simp [restL]
  | m + 1, r => by
    rw [restL, ← List.append_assoc, show r + (m + 1) = (r + 1) + m by omega, ← putL_rest big chunk P m (r + 1)]
    rfl
theorem rest_all (big : Bool) (chunk : Nat) (P : Nat → PStep) (n : Nat) : restL big chunk P n 0 = putL big chunk P n := by
  have := putL_rest big chunk P n 0
  rw [Nat.zero_add] at this
  rw [← this]; rfl
theorem rest_step (big : Bool) (chunk : Nat) (P : Nat → PStep) (n r : Nat) (h : r < n) : restL big chunk P (n - r) r = stepW big chunk (P r) ++ restL big chunk P (n - (r + 1)) (r + 1) := by
  rw [show n - r = (n - (r + 1)) + 1 by omega]; rfl

theorem far_new {w w' : World} {v : Value} {B : Nat} {e : TypeId} {size n : Nat} {xs : List Value} (h : w.ownsRow B e size v n xs) {base : Nat} {q : Option Addr} {k d : Nat} {ys : List Int} (hq : w'.ownsRow base 5 1 (.slice q k d) k (ys.map (Value.int .u8))) (hb : w.heap.size ≤ base) : BRow.Far w' v ⟨q, k, ys⟩ := fun a ha => by
  dsimp only at ha
  subst ha
  rcases hq.2 with ⟨h1, _⟩ | ⟨g, cap, cur, h1, hg, _⟩
  · cases h1
  · have h2 := hq.lt g (by injection h1 with h3; injection h3 with h3; subst h3; rfl)
    injection h1 with h3
    injection h3 with h3
    subst h3
    exact ⟨h2.2, fun e => by have := (own_lt' h _ e).2; dsimp only at this; omega⟩

theorem brow_kept {w w' : World} {u : Value} {t : BRow} (hi : BRow.In w t) (hf : BRow.Far w u t) (hg : w.grownBy w' u.ownBlock) : BRow.In w' t := fun hl => by
  obtain ⟨b, o, he, hc⟩ := hi hl
  obtain ⟨f1, f2⟩ := hf _ he
  dsimp only at f1 f2
  exact ⟨b, o, he, fun j hj => (World.cell?_of_block (hg.block b f1 (fun e => f2 e.symm))).trans (hc j hj)⟩
def G6 : GStep := ⟨6, 0, false, false⟩
/-- The steps that write pairs and those that read them, so many of each. -/
structure Two (B : Nat) (w : World) (k : Nat) (v u : Value) (R : Nat → PStep) : Prop where
  p : PColl B w k v R
  g : GColl B w k u (fun _ => G6)
  ne : ∀ b, v.ownBlock = some b → u.ownBlock ≠ some b
  fu : ∀ r, r < k → ∀ t ∈ PStep.rows (R r), BRow.Far w u t
theorem Two.kp {B : Nat} {w w' : World} {k : Nat} {v u : Value} {R : Nat → PStep} (h : Two B w k v u R) (hk : Kp w w') : Two B w' k v u R :=
  ⟨Coll.kp h.p hk, Coll.kp h.g hk, h.ne, fun r hr t ht a ha => ⟨Nat.lt_of_lt_of_le (h.fu r hr t ht a ha).1 hk.size, (h.fu r hr t ht a ha).2⟩⟩
theorem ne_row {x y : Option Nat} (h : ∀ b, x = some b → y ≠ some b) : x = none ∨ x ≠ y := by
  rcases x with _ | b
  · exact .inl rfl
  · exact .inr (fun e => h b rfl e.symm)
theorem ne_row' {x y : Option Nat} (h : ∀ b, x = some b → y ≠ some b) : y = none ∨ y ≠ x := by
  rcases y with _ | b
  · exact .inl rfl
  · exact .inr (fun e => h b e.symm rfl)

set_option maxRecDepth 100000 in
/-- The steps of a pair are appended, each to its own. -/
theorem two_step (B : Nat) (wr w3 w4 : World) (k : Nat) (v u : Value) (R : Nat → PStep) (hc : Two B wr k v u R) (hB : B ≤ wr.heap.size) (q3 q4 : Option Addr) (k3 e3 k4 e4 f : Nat) (ys zs : List Int)
    (h3 : w3.ownsRow wr.heap.size 5 1 (.slice q3 k3 e3) k3 (ys.map (Value.int .u8))) (hk3 : Kp wr w3) (h4 : w4.ownsRow w3.heap.size 5 1 (.slice q4 k4 e4) k4 (zs.map (Value.int .u8))) (hk4 : Kp w3 w4) (hk : k ≤ 1000) :
    ∃ v' w5, (Builtin.append_ #[78, 78] 78 #[v, .slice (some ⟨w4.heap.size, 0, none⟩) 1 1]).run Tryd.prog
        (w4.alloc (.cells #[.int .i64 4, .slice q3 k3 e3, .slice q4 k4 e4, .int .i64 0, .int .u64 0, .int .u8 0, .int .u8 (f : Int), .bool false, .bool false] 77)) = .ok v' w5 ∧ (∀ W, Kp W wr → W.heap.size ≤ B → Kp W w5) ∧
      ∃ u' w6, (Builtin.append_ #[40, 40] 40 #[u, .slice (some ⟨w5.heap.size, 0, none⟩) 1 1]).run Tryd.prog
          (w5.alloc (.cells #[.int .i64 6, .int .i64 0, .bool false, .bool false] 44)) = .ok u' w6 ∧
        Two B w6 (k + 1) v' u' (fun r => if r = k then ⟨4, q3, k3, e3, ys, q4, k4, e4, zs, 0, 0, 0, f, false, false⟩ else R r) ∧ (∀ W, Kp W wr → W.heap.size ≤ B → Kp W w6) := by
  generalize hW : w4.alloc (.cells #[.int .i64 4, .slice q3 k3 e3, .slice q4 k4 e4, .int .i64 0, .int .u64 0, .int .u8 0, .int .u8 (f : Int), .bool false, .bool false] 77) = W4
  have hk4' : Kp wr w4 := hk3.trans hk4
  have hkW : Kp w4 W4 := hW ▸ (Kp.refl w4).alloc _
  have hcW : Two B W4 k v u R := hc.kp (hk4'.trans hkW)
  have hs : W4.heap.size = w4.heap.size + 1 := by rw [← hW]; simp
  have hs4 := hk4'.size
  have hs3 := hk3.size
  have hx3 : W4.ownsRow wr.heap.size 5 1 (.slice q3 k3 e3) k3 (ys.map (Value.int .u8)) := own_below h3 (hk4.trans hkW)
  have hx4 : W4.ownsRow w3.heap.size 5 1 (.slice q4 k4 e4) k4 (zs.map (Value.int .u8)) := own_below h4 hkW
  obtain ⟨v', w5, h1, h2, h5, h6⟩ := app_rec Tryd.underlying78 infoPut rfl (by decide) (by decide) W4 B v k _ hcW.p.own w4.heap.size (PStep.cells ⟨4, q3, k3, e3, ys, q4, k4, e4, zs, 0, 0, 0, f, false, false⟩) (hW ▸ Blk.new w4 _ _) rfl (PStep.one _) (by omega) (by omega)
  refine ⟨v', w5, h1, fun W hWk hWB => (hWk.trans (hk4'.trans hkW)).grown h5 (fun b hb => by have := (own_lt' hc.p.own b hb).1; omega), ?_⟩
  have hp5 : PColl B w5 (k + 1) v' (fun r => if r = k then ⟨4, q3, k3, e3, ys, q4, k4, e4, zs, 0, 0, 0, f, false, false⟩ else R r) := Coll.app (x := (⟨4, q3, k3, e3, ys, q4, k4, e4, zs, 0, 0, 0, f, false, false⟩ : PStep)) hcW.p h2 h5 h6
    (fun t ht => by
      simp only [PStep.rows, List.mem_cons, List.not_mem_nil, or_false] at ht
      rcases ht with rfl | rfl
      · exact bin_of_own hx3
      · exact bin_of_own hx4)
    (fun t ht => by
      simp only [PStep.rows, List.mem_cons, List.not_mem_nil, or_false] at ht
      rcases ht with rfl | rfl
      · exact far_new hc.p.own hx3 (Nat.le_refl _)
      · exact far_new hc.p.own hx4 (by omega))
  have hz5 := h5.size
  have hg5 : w5.ownsRow B 44 4 u k (flatR GStep.cells (fun _ => G6) k) := hcW.g.own.kept h5 (ne_row' hcW.ne)
  have ne5 : ∀ b, v'.ownBlock = some b → u.ownBlock ≠ some b := fun b hb hu => by
    rcases h6 with e | e
    · exact hc.ne b (e ▸ hb) hu
    · rw [e] at hb; injection hb with hb
      have := (own_lt' hc.g.own b hu).2; omega
  have fu5 : ∀ r, r < k + 1 → ∀ t ∈ PStep.rows (if r = k then (⟨4, q3, k3, e3, ys, q4, k4, e4, zs, 0, 0, 0, f, false, false⟩ : PStep) else R r), BRow.Far w5 u t := fun r hr t ht a ha => by
    by_cases e : r = k
    · rw [if_pos e] at ht
      simp only [PStep.rows, List.mem_cons, List.not_mem_nil, or_false] at ht
      have : BRow.Far W4 u t := by
        rcases ht with rfl | rfl
        · exact far_new hc.g.own hx3 (Nat.le_refl _)
        · exact far_new hc.g.own hx4 (by omega)
      exact ⟨by have := (this a ha).1; omega, (this a ha).2⟩
    · rw [if_neg e] at ht
      have := hcW.fu r (by omega) t ht a ha
      exact ⟨by omega, this.2⟩
  generalize hV : w5.alloc (.cells #[.int .i64 6, .int .i64 0, .bool false, .bool false] 44) = W5
  have hkV : Kp w5 W5 := hV ▸ (Kp.refl w5).alloc _
  have hsV : W5.heap.size = w5.heap.size + 1 := by rw [← hV]; simp
  have hgV : GColl B W5 k u (fun _ => G6) := Coll.kp (⟨hg5, fun r _ t ht => absurd ht List.not_mem_nil, fun r _ t ht => absurd ht List.not_mem_nil⟩ : GColl B w5 k u (fun _ => G6)) hkV
  have hpV : PColl B W5 (k + 1) v' _ := Coll.kp hp5 hkV
  obtain ⟨u', w6, g1, g2, g5, g6⟩ := app_rec Tryd.underlying40 infoGet rfl (by decide) (by decide) W5 B u k _ hgV.own w5.heap.size (GStep.cells G6) (hV ▸ Blk.new w5 _ _) rfl (GStep.one _) (by omega) (by omega)
  have hz6 := g5.size
  refine ⟨u', w6, g1, ⟨⟨?_, ?_, ?_⟩, ?_, ?_, ?_⟩, ?_⟩
  · exact hpV.own.kept g5 (ne_row ne5)
  · exact fun r hr t ht => brow_kept (hpV.byt r hr t ht) (fun a ha => ⟨by have := (fu5 r hr t ht a ha).1; omega, (fu5 r hr t ht a ha).2⟩) g5
  · exact fun r hr t ht a ha => ⟨by have := (hpV.far r hr t ht a ha).1; omega, (hpV.far r hr t ht a ha).2⟩
  · have := Coll.app (x := G6) hgV g2 g5 g6 (fun t ht => absurd ht List.not_mem_nil) (fun t ht => absurd ht List.not_mem_nil)
    have e : (fun r => if r = k then G6 else (fun _ => G6) r) = (fun _ => G6) := by funext r; split <;> rfl
    rw [e] at this
    exact this
  · intro b hb hu
    rcases g6 with e | e
    · exact ne5 b hb (e ▸ hu)
    · rw [e] at hu; injection hu with hu
      have := (own_lt' hp5.own b hb).2; omega
  · intro r hr t ht a ha
    have h7 := fu5 r hr t ht a ha
    refine ⟨by omega, ?_⟩
    rcases g6 with e | e
    · rw [e]; exact h7.2
    · rw [e]; intro e2; injection e2 with e2; omega
  · intro W hWk hWB
    have a1 : Kp W W4 := hWk.trans (hk4'.trans hkW)
    have a2 : Kp W w5 := a1.grown h5 (fun b hb => by have := (own_lt' hc.p.own b hb).1; omega)
    exact (a2.trans hkV).grown g5 (fun b hb => by have := (own_lt' hc.g.own b hb).1; omega)
end Go.Proofs.YtacmnibhdmeidaaDoor
