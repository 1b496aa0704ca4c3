/-
  The general parts, of no call: blocks known whole, and what stays as it was.
-/
import Derived.Test.YtcdbnjhkjfimkaaDoorKit
import Derived.Test.YtcdbnjhkjfimkaaDoorShelf
import Derived.Laws.MakeOwn
import Derived.Laws.IdiomCopy
import Derived.WalkKit
import Derived.WalkLawsBesides
import Derived.WalkSpells
import Derived.Outline
import Derived.Lib.Hide
import Derived.Deep.RegionHeld3
import Derived.Deep.QuietTactic
import Derived.BigQuiet
import Derived.LoopTactic
import Derived.Deep.LoopGhost
import Derived.Deep.DeepCutAuto
namespace Go.Proofs.YtcdbnjhkjfimkaaDoor
open Go Go.RowKit

theorem bin_of_own {w : World} {base : Nat} {e : TypeId} {q : Option Addr} {n d : Nat} {xs : List Int} (h : w.ownsRow base e 1 (.slice q n d) n (xs.map (Value.int .u8))) : Lib.BytesIn w q n xs := by
  obtain ⟨_, _, hv, hin⟩ := bin_own h
  cases hv
  exact hin

theorem own_cap {w : World} {base : Nat} {e : TypeId} {q : Option Addr} {n d : Nat} {xs : List Value} (h : w.ownsRow base e 1 (.slice q n d) n xs) : n ≤ d := by
  rcases h.2 with ⟨h, h0⟩ | ⟨_, _, _, h, _, _, hle, _⟩
  · omega
  · injection h; omega

/-- A row of the call's own that is not empty, with the block in which it lies. -/
theorem own_pos {w : World} {base : Nat} {e : TypeId} {v : Value} {n : Nat} {xs : List Int} (h : w.ownsRow base e 1 v n (xs.map (Value.int .u8))) (hn : 0 < n) :
    ∃ g d, v = .slice (some ⟨g, 0, none⟩) n d ∧ n ≤ d ∧ d ≤ maxLen ∧ Lib.BytesIn w (some ⟨g, 0, none⟩) n xs := by
  obtain ⟨p, c, rfl, hin⟩ := bin_own h
  have hc := own_cap h
  rcases h.2 with ⟨h, h0⟩ | ⟨g, cap, _, hv, _, _, _, hm, _⟩
  · omega
  · injection hv with hp h1 h2
    subst hp h2
    exact ⟨g, c, rfl, hc, hm, hin⟩
theorem bin_cells {w : World} {g n : Nat} {xs : List Int} (h : Lib.BytesIn w (some ⟨g, 0, none⟩) n xs) : ∀ i, i < n → w.cell? ⟨g, 0 + i, none⟩ = some (.int .u8 (xs.getD i 0)) := fun i hi => by
  obtain ⟨b, o, he, hc⟩ := h (by omega)
  injection he with he
  injection he with h1 h2
  subst h1 h2
  exact hc i hi

/-- A block that is known whole. -/
def Blk (w : World) (g : Nat) (t : TypeId) (cs : Array Value) : Prop := w.heap[g]? = some (.cells cs t (0, 0))
section
variable {w w' : World} {g : Nat} {t : TypeId} {cs : Array Value}
theorem Blk.lt (h : Blk w g t cs) : g < w.heap.size := by
  rcases Nat.lt_or_ge g w.heap.size with hlt | hge
  · exact hlt
  · unfold Blk at h; rw [Array.getElem?_eq_none hge] at h; cases h
theorem Blk.cell (h : Blk w g t cs) (i : Nat) : w.cell? ⟨g, i, none⟩ = cs[i]? := cell_of_row w g i cs t (0, 0) h
theorem Blk.frozen (h : Blk w g t cs) (i : Nat) : w.frozen? ⟨g, i, none⟩ = false := by
  unfold Blk at h
  simp [World.frozen?, h]
theorem Blk.new (w : World) (t : TypeId) (cs : Array Value) : Blk (w.alloc (.cells cs t)) w.heap.size t cs := heap_alloc_new w _
theorem Blk.new2 (w : World) (o : Obj) (t : TypeId) (cs : Array Value) : Blk ((w.alloc o).alloc (.cells cs t)) (w.heap.size + 1) t cs := by
  have h := Blk.new (w.alloc o) t cs
  rwa [World.size_alloc] at h
theorem Blk.drew (h : Blk w g t cs) : Blk w.drew g t cs := h
theorem Blk.drewN (h : Blk w g t cs) (n : Nat) : Blk (w.drewN n) g t cs := h
theorem Blk.alloc (h : Blk w g t cs) (o : Obj) : Blk (w.alloc o) g t cs := (Below.heap_alloc w o g h.lt).trans h
theorem Blk.set_ (h : Blk w g t cs) (i : Nat) (u : Value) : Blk (w.setCell ⟨g, i, none⟩ u) g t (cs.setIfInBounds i u) := by
  unfold Blk at h ⊢
  simp [World.setCell, Array.getElem?_modify, h]
theorem Blk.below {B : Nat} (h : Blk w g t cs) (hb : Below B w w') (hg : g < B) : Blk w' g t cs := (hb.block g hg).trans h
theorem Blk.old (h : Blk w g t cs) (hb : Below w.heap.size w w') : Blk w' g t cs := (hb.block g h.lt).trans h
theorem Blk.grown {row : Option Nat} (h : Blk w g t cs) (hb : w.grownBy w' row) (hg : some g ≠ row) : Blk w' g t cs := (hb.block g h.lt hg).trans h
end

/-- All that was there is there still. -/
def Kp (w w' : World) : Prop := Below w.heap.size w w'
theorem Kp.refl (w : World) : Kp w w := Below.refl _ _
section
variable {w a b : World}
theorem Kp.drew (h : Kp w a) : Kp w a.drew := Below.drew h
theorem Kp.drewN (h : Kp w a) (n : Nat) : Kp w (a.drewN n) := below_drewN h n
theorem Kp.alloc (h : Kp w a) (o : Obj) : Kp w (a.alloc o) := Below.alloc h h.size o
theorem Kp.set (h : Kp w a) {p : Addr} (hp : w.heap.size ≤ p.block) (v : Value) : Kp w (a.setCell p v) := Below.setCell h hp v
theorem Kp.call (h : Kp w a) (hb : Below a.heap.size a b) : Kp w b := Below.trans h (hb.mono h.size)
theorem Kp.trans (h : Kp w a) (hb : Kp a b) : Kp w b := Below.trans h (Below.mono hb h.size)
theorem Kp.below (h : Kp w a) : Below w.heap.size w a := h
theorem Kp.lt {i : Nat} (h : Kp w a) (hi : i < w.heap.size) : i < a.heap.size := Nat.lt_of_lt_of_le hi h.size
theorem Blk.kp {g : Nat} {t : TypeId} {cs : Array Value} (h : Blk w g t cs) (hk : Kp w a) : Blk a g t cs := h.old hk
theorem bin_kp {p : Option Addr} {n : Nat} {xs : List Int} (h : Lib.BytesIn w p n xs) (hk : Kp w a) : Lib.BytesIn a p n xs := bin_below h hk
end

theorem own_ge {w : World} {base : Nat} {e : TypeId} {size : Nat} {v : Value} {n : Nat} {xs : List Value} (h : w.ownsRow base e size v n xs) : ∀ k, v.ownBlock = some k → base ≤ k := by
  intro k hk
  rcases h.2 with ⟨rfl, _⟩ | ⟨g, cap, cur, rfl, hg, _⟩
  · simp [Value.ownBlock] at hk
  · simp [Value.ownBlock] at hk; omega
theorem Kp.grown {w a b : World} {row : Option Nat} (h : Kp w a) (hg : a.grownBy b row) (hr : ∀ k, row = some k → w.heap.size ≤ k) : Kp w b := Below.grown h hg h.size hr
end Go.Proofs.YtcdbnjhkjfimkaaDoor
