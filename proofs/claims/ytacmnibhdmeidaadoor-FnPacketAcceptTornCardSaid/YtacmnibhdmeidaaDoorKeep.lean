/-
  What stays as it was: one word for a chain of worlds.
-/
import Derived.Test.YtacmnibhdmeidaaDoorDataKit
import Derived.Test.YtacmnibhdmeidaaDoorMark2
namespace Go.Proofs.YtacmnibhdmeidaaDoor
open Go Go.RowKit

/-- All that was there is there still. -/
def Kp (w w' : World) : Prop := Below w.heap.size w w'
theorem Kp.refl (w : World) : Kp w w := Below.refl _ _
section
variable {w a b : World}
theorem Kp.drew (h : Kp w a) : Kp w a.drew := Below.drew h
theorem Kp.drewN (h : Kp w a) (n : Nat) : Kp w (a.drewN n) := below_drewN h n
theorem Kp.alloc (h : Kp w a) (o : Obj) : Kp w (a.alloc o) := Below.alloc h h.size o
theorem Kp.set (h : Kp w a) {p : Addr} (hp : w.heap.size ≤ p.block) (v : Value) : Kp w (a.setCell p v) := Below.setCell h hp v
theorem Kp.call (h : Kp w a) (hb : Below a.heap.size a b) : Kp w b := Below.trans h (hb.mono h.size)
theorem Kp.trans (h : Kp w a) (hb : Kp a b) : Kp w b := Below.trans h (Below.mono hb h.size)
theorem Kp.below (h : Kp w a) : Below w.heap.size w a := h
theorem Kp.lt {i : Nat} (h : Kp w a) (hi : i < w.heap.size) : i < a.heap.size := Nat.lt_of_lt_of_le hi h.size
theorem Blk.kp {g : Nat} {t : TypeId} {cs : Array Value} (h : Blk w g t cs) (hk : Kp w a) : Blk a g t cs := h.old hk
theorem bin_kp {p : Option Addr} {n : Nat} {xs : List Int} (h : Lib.BytesIn w p n xs) (hk : Kp w a) : Lib.BytesIn a p n xs := bin_below h hk
end
end Go.Proofs.YtacmnibhdmeidaaDoor
