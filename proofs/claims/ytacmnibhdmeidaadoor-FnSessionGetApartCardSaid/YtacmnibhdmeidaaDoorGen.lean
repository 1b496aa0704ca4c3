/-
  The general parts: bytes in memory, blocks known whole, and what stays as it was.
-/
import Derived.Test.YtacmnibhdmeidaaDoorKit
import Derived.Test.YtacmnibhdmeidaaDoorShelf
import Derived.Laws.MakeOwn
import Derived.Laws.IdiomCopy
import Derived.WalkKit
import Derived.WalkLawsBesides
import Derived.WalkSpells
import Derived.Outline
import Derived.Lib.Hide
import Derived.Deep.RegionHeld3
import Derived.Deep.QuietTactic
import Derived.BigQuiet
import Derived.LoopTactic
import Derived.Deep.LoopGhost
import Derived.Deep.DeepCutAuto
namespace Go.Proofs.YtacmnibhdmeidaaDoor
open Go Go.RowKit

theorem clone_any (w : World) (p : Option Addr) (n c : Nat) (xs : List Int) (h : Lib.BytesIn w p n xs) (hx : xs.length = n) (hn : n ≤ 140737488355328) :
    Calls Tryd.prog 9 #[.slice p n c] w fun e w' => ∃ q d, e = .returned (.slice q n d) ∧ w'.ownsRow w.heap.size 5 1 (.slice q n d) n (xs.map (Value.int .u8)) ∧ Below w.heap.size w w' := by
  cases p with
  | none =>
    have hn0 : n = 0 := by
      rcases Nat.eq_zero_or_pos n with h0 | h0
      · exact h0
      · obtain ⟨b, o, hp, _⟩ := h h0
        cases hp
    subst hn0
    have hl : xs = [] := List.eq_nil_of_length_eq_zero hx
    subst hl
    refine (Tryd.bytes_Clone_nil _ _ _).mono ?_
    rintro e w' ⟨rfl, rfl⟩
    exact ⟨none, 0, rfl, World.ownsRow_nil _ _ _ _, Below.refl _ _⟩
  | some a =>
    have hc : ∀ i, i < n → w.cell? (a.add i) = some (.int .u8 (xs.getD i 0)) := fun i hi => by
      obtain ⟨b, o, hp, hcell⟩ := h (by omega)
      injection hp with hp
      subst hp
      rw [Go.WideShapes.add_plain]
      exact hcell i hi
    refine (Tryd.bytes_Clone_at a n c xs w hx (by omega) hc).mono ?_
    rintro e w' ⟨v, rfl, hown, _, hb⟩
    obtain ⟨q, d, rfl, hin⟩ := bin_own hown
    exact ⟨q, d, rfl, hown, hb⟩

theorem bin_of_own {w : World} {base : Nat} {e : TypeId} {q : Option Addr} {n d : Nat} {xs : List Int} (h : w.ownsRow base e 1 (.slice q n d) n (xs.map (Value.int .u8))) : Lib.BytesIn w q n xs := by
  obtain ⟨_, _, hv, hin⟩ := bin_own h
  cases hv
  exact hin

theorem own_cap {w : World} {base : Nat} {e : TypeId} {q : Option Addr} {n d : Nat} {xs : List Value} (h : w.ownsRow base e 1 (.slice q n d) n xs) : n ≤ d := by
  rcases h.2 with ⟨h, h0⟩ | ⟨_, _, _, h, _, _, hle, _⟩
  · omega
  · injection h; omega

theorem bytes_equal_any (w : World) (p1 p2 : Option Addr) (n c m d : Nat) (xs ys : List Int) (hx : xs.length = n) (hy : ys.length = m) (h1 : Lib.BytesIn w p1 n xs) (h2 : Lib.BytesIn w p2 m ys) :
    Calls Tryd.prog 18 #[.slice p1 n c, .slice p2 m d] w fun e w' => e = .returned (.bool (Lib.bytesOf xs == Lib.bytesOf ys)) ∧ w' = w := Tryd.bytes_Equal_all p1 p2 n c m d xs ys w hx hy h1 h2
theorem bytes_equal_same (w : World) (p1 p2 : Option Addr) (n c d : Nat) (xs : List Int) (hx : xs.length = n) (h1 : Lib.BytesIn w p1 n xs) (h2 : Lib.BytesIn w p2 n xs) :
    Calls Tryd.prog 18 #[.slice p1 n c, .slice p2 n d] w fun e w' => e = .returned (.bool true) ∧ w' = w :=
  (bytes_equal_any w p1 p2 n c n d xs xs hx hx h1 h2).mono (by rintro e w' ⟨rfl, rfl⟩; simp)

/-- A row of the call's own that is not empty, with the block in which it lies. -/
theorem own_pos {w : World} {base : Nat} {e : TypeId} {v : Value} {n : Nat} {xs : List Int} (h : w.ownsRow base e 1 v n (xs.map (Value.int .u8))) (hn : 0 < n) :
    ∃ g d, v = .slice (some ⟨g, 0, none⟩) n d ∧ n ≤ d ∧ d ≤ maxLen ∧ Lib.BytesIn w (some ⟨g, 0, none⟩) n xs := by
  obtain ⟨p, c, rfl, hin⟩ := bin_own h
  have hc := own_cap h
  rcases h.2 with ⟨h, h0⟩ | ⟨g, cap, _, hv, _, _, _, hm, _⟩
  · omega
  · injection hv with hp h1 h2
    subst hp h2
    exact ⟨g, c, rfl, hc, hm, hin⟩
theorem bin_cells {w : World} {g n : Nat} {xs : List Int} (h : Lib.BytesIn w (some ⟨g, 0, none⟩) n xs) : ∀ i, i < n → w.cell? ⟨g, 0 + i, none⟩ = some (.int .u8 (xs.getD i 0)) := fun i hi => by
  obtain ⟨b, o, he, hc⟩ := h (by omega)
  injection he with he
  injection he with h1 h2
  subst h1 h2
  exact hc i hi

/-- A block that is known whole. -/
def Blk (w : World) (g : Nat) (t : TypeId) (cs : Array Value) : Prop := w.heap[g]? = some (.cells cs t (0, 0))
section
variable {w w' : World} {g : Nat} {t : TypeId} {cs : Array Value}
theorem Blk.lt (h : Blk w g t cs) : g < w.heap.size := by
  rcases Nat.lt_or_ge g w.heap.size with hlt | hge
  · exact hlt
  · unfold Blk at h; rw [Array.getElem?_eq_none hge] at h; cases h
theorem Blk.cell (h : Blk w g t cs) (i : Nat) : w.cell? ⟨g, i, none⟩ = cs[i]? := cell_of_row w g i cs t (0, 0) h
theorem Blk.frozen (h : Blk w g t cs) (i : Nat) : w.frozen? ⟨g, i, none⟩ = false := by
  unfold Blk at h
  simp [World.frozen?, h]
theorem Blk.new (w : World) (t : TypeId) (cs : Array Value) : Blk (w.alloc (.cells cs t)) w.heap.size t cs := heap_alloc_new w _
theorem Blk.new2 (w : World) (o : Obj) (t : TypeId) (cs : Array Value) : Blk ((w.alloc o).alloc (.cells cs t)) (w.heap.size + 1) t cs := by
  have h := Blk.new (w.alloc o) t cs
  rwa [World.size_alloc] at h
theorem Blk.drew (h : Blk w g t cs) : Blk w.drew g t cs := h
theorem Blk.drewN (h : Blk w g t cs) (n : Nat) : Blk (w.drewN n) g t cs := h
theorem Blk.alloc (h : Blk w g t cs) (o : Obj) : Blk (w.alloc o) g t cs := (Below.heap_alloc w o g h.lt).trans h
theorem Blk.set_ (h : Blk w g t cs) (i : Nat) (u : Value) : Blk (w.setCell ⟨g, i, none⟩ u) g t (cs.setIfInBounds i u) := by
  unfold Blk at h ⊢
  simp [World.setCell, Array.getElem?_modify, h]
theorem Blk.below {B : Nat} (h : Blk w g t cs) (hb : Below B w w') (hg : g < B) : Blk w' g t cs := (hb.block g hg).trans h
theorem Blk.old (h : Blk w g t cs) (hb : Below w.heap.size w w') : Blk w' g t cs := (hb.block g h.lt).trans h
theorem Blk.grown {row : Option Nat} (h : Blk w g t cs) (hb : w.grownBy w' row) (hg : some g ≠ row) : Blk w' g t cs := (hb.block g h.lt hg).trans h
end

/-- All that was there is there still. -/
def Kp (w w' : World) : Prop := Below w.heap.size w w'
theorem Kp.refl (w : World) : Kp w w := Below.refl _ _
section
variable {w a b : World}
theorem Kp.drew (h : Kp w a) : Kp w a.drew := Below.drew h
theorem Kp.drewN (h : Kp w a) (n : Nat) : Kp w (a.drewN n) := below_drewN h n
theorem Kp.alloc (h : Kp w a) (o : Obj) : Kp w (a.alloc o) := Below.alloc h h.size o
theorem Kp.set (h : Kp w a) {p : Addr} (hp : w.heap.size ≤ p.block) (v : Value) : Kp w (a.setCell p v) := Below.setCell h hp v
theorem Kp.call (h : Kp w a) (hb : Below a.heap.size a b) : Kp w b := Below.trans h (hb.mono h.size)
theorem Kp.trans (h : Kp w a) (hb : Kp a b) : Kp w b := Below.trans h (Below.mono hb h.size)
theorem Kp.below (h : Kp w a) : Below w.heap.size w a := h
theorem Kp.lt {i : Nat} (h : Kp w a) (hi : i < w.heap.size) : i < a.heap.size := Nat.lt_of_lt_of_le hi h.size
theorem Blk.kp {g : Nat} {t : TypeId} {cs : Array Value} (h : Blk w g t cs) (hk : Kp w a) : Blk a g t cs := h.old hk
theorem bin_kp {p : Option Addr} {n : Nat} {xs : List Int} (h : Lib.BytesIn w p n xs) (hk : Kp w a) : Lib.BytesIn a p n xs := bin_below h hk
end

theorem own_ge {w : World} {base : Nat} {e : TypeId} {size : Nat} {v : Value} {n : Nat} {xs : List Value} (h : w.ownsRow base e size v n xs) : ∀ k, v.ownBlock = some k → base ≤ k := by
  intro k hk
  rcases h.2 with ⟨rfl, _⟩ | ⟨g, cap, cur, rfl, hg, _⟩
  · simp [Value.ownBlock] at hk
  · simp [Value.ownBlock] at hk; omega
theorem Kp.grown {w a b : World} {row : Option Nat} (h : Kp w a) (hg : a.grownBy b row) (hr : ∀ k, row = some k → w.heap.size ≤ k) : Kp w b := Below.grown h hg h.size hr
end Go.Proofs.YtacmnibhdmeidaaDoor
