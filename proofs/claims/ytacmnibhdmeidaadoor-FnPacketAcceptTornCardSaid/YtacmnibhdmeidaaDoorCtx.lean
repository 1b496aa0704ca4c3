/-
  Contexts of packets: what contextOf makes.
-/
import Derived.Test.YtacmnibhdmeidaaDoorPut
namespace Go.Proofs.YtacmnibhdmeidaaDoor
open Go Go.RowKit

/-- A block that is known whole. -/
def Blk (w : World) (g : Nat) (t : TypeId) (cs : Array Value) : Prop := w.heap[g]? = some (.cells cs t (0, 0))
section
variable {w w' : World} {g : Nat} {t : TypeId} {cs : Array Value}
theorem Blk.lt (h : Blk w g t cs) : g < w.heap.size := by
  rcases Nat.lt_or_ge g w.heap.size with hlt | hge
  · exact hlt
  · unfold Blk at h; rw [Array.getElem?_eq_none hge] at h; cases h
theorem Blk.cell (h : Blk w g t cs) (i : Nat) : w.cell? ⟨g, i, none⟩ = cs[i]? := cell_of_row w g i cs t (0, 0) h
theorem Blk.frozen (h : Blk w g t cs) (i : Nat) : w.frozen? ⟨g, i, none⟩ = false := by
  unfold Blk at h
  simp [World.frozen?, h]
theorem Blk.new (w : World) (t : TypeId) (cs : Array Value) : Blk (w.alloc (.cells cs t)) w.heap.size t cs := heap_alloc_new w _
theorem Blk.new2 (w : World) (o : Obj) (t : TypeId) (cs : Array Value) : Blk ((w.alloc o).alloc (.cells cs t)) (w.heap.size + 1) t cs := by
  have h := Blk.new (w.alloc o) t cs
  rwa [World.size_alloc] at h
theorem Blk.drew (h : Blk w g t cs) : Blk w.drew g t cs := h
theorem Blk.drewN (h : Blk w g t cs) (n : Nat) : Blk (w.drewN n) g t cs := h
theorem Blk.alloc (h : Blk w g t cs) (o : Obj) : Blk (w.alloc o) g t cs := (Below.heap_alloc w o g h.lt).trans h
theorem Blk.set_ (h : Blk w g t cs) (i : Nat) (u : Value) : Blk (w.setCell ⟨g, i, none⟩ u) g t (cs.setIfInBounds i u) := by
  unfold Blk at h ⊢
  simp [World.setCell, Array.getElem?_modify, h]
theorem Blk.below {B : Nat} (h : Blk w g t cs) (hb : Below B w w') (hg : g < B) : Blk w' g t cs := (hb.block g hg).trans h
theorem Blk.old (h : Blk w g t cs) (hb : Below w.heap.size w w') : Blk w' g t cs := (hb.block g h.lt).trans h
theorem Blk.grown {row : Option Nat} (h : Blk w g t cs) (hb : w.grownBy w' row) (hg : some g ≠ row) : Blk w' g t cs := (hb.block g h.lt hg).trans h
end

/-- A context, as data. -/
structure Cx where
  v : Int
  lo : Int
  op : Int
  oo : Int
  hi : Int
  a0 : Int
  a1 : Int
  su : Int
  tu : Int
  cp : Bool
def Cx.val (c : Cx) : Value := .agg #[.int .u16 c.v, .int .u16 c.lo, .int .u16 c.op, .int .u16 c.oo, .int .u16 c.hi, .int .u8 c.a0, .int .u8 c.a1, .int .u32 c.su, .int .u32 c.tu, .bool c.cp]
def Cx.cells (c : Cx) (s : ByteArray) : Array Value := #[.slice none 0 0, .string s, .int .u16 c.v, .int .u16 c.lo, .int .u16 c.op, .int .u16 0, .int .u16 c.oo, .int .u16 c.hi, .string ⟨#[]⟩, .bool c.cp, .int .u8 c.a0, .int .u8 c.a1, .int .u32 c.su, .int .u32 c.tu, .bool false, .bool false, .bool false, .bool false]

theorem ctx_c2 {w : World} {g : Nat} {t : TypeId} {c : Cx} {s : ByteArray} (h : Blk w g t (c.cells s)) : w.cell? ⟨g, 2, none⟩ = some (.int .u16 c.v) := by rw [h.cell]; simp [Cx.cells]
theorem ctx_c9 {w : World} {g : Nat} {t : TypeId} {c : Cx} {s : ByteArray} (h : Blk w g t (c.cells s)) : w.cell? ⟨g, 9, none⟩ = some (.bool c.cp) := by rw [h.cell]; simp [Cx.cells]

set_option maxHeartbeats 1000000 in
theorem contextOf_any (c : Cx) (w : World) :
    Calls Tryd.prog 37 #[c.val] w fun e w' => ∃ b, e = .returned (.pointer (some ⟨b, 0, none⟩)) ∧ Blk w' b 74 (c.cells ⟨#[]⟩) ∧ Below w.heap.size w w' := by
  unfold Cx.val
  go_enter Tryd.func37, Tryd.ntmps37
  go_wp2
  go_end0
  go_wp2
  go_ret
  exact ⟨_, rfl, Blk.new2 _ _ _ _, ((Below.refl _ _).alloc (Nat.le_refl _) _).alloc (by simp) _⟩
end Go.Proofs.YtacmnibhdmeidaaDoor
