/-
  The reference's PacketAccept.
-/
import Derived.Test.YtacmnibhdmeidaaDoorAcc0
namespace Go.Proofs.YtacmnibhdmeidaaDoor
open Go Go.RowKit

/-- The row that is filled, beside the box of the argument. -/
def PAs (w : World) (cs : Array Value) (xs : List Int) (wr : World) : Prop :=
  Blk wr w.heap.size 28 cs ∧ wr.ownsRow (w.heap.size + 1) 5 1 (.slice (some ⟨w.heap.size + 1, 0, none⟩) 41 41) 41 (xs.map (Value.int .u8)) ∧ Kp w wr
theorem PAs.put2 {w wr : World} {cs : Array Value} {xs : List Int} (h : PAs w cs xs wr) (a : Nat) (v : Int) (ha : a + 2 ≤ 41) (hv0 : 0 ≤ v) (hv1 : v < 281474976710656) :
    Calls Tryd.prog 20 #[.slice (some ⟨w.heap.size + 1, 0, none⟩) 41 41, .int .i64 a, .int .i64 2, .int .u64 v] wr fun e w' => e = .returned (.tuple #[]) ∧ PAs w cs (setAll xs a (be2 v)) w' := by
  refine (packetPut2 (w.heap.size + 1) (w.heap.size + 1) 41 41 a v xs wr h.2.1 ha hv0 hv1 (by decide)).mono ?_
  rintro e w' ⟨rfl, ho, hg⟩
  exact ⟨rfl, h.1.grown hg (by intro e; injection e; omega), ho, h.2.2.grown hg (by intro k hk; injection hk; omega)⟩
theorem PAs.put4 {w wr : World} {cs : Array Value} {xs : List Int} (h : PAs w cs xs wr) (a : Nat) (v : Int) (ha : a + 4 ≤ 41) (hv0 : 0 ≤ v) (hv1 : v < 281474976710656) :
    Calls Tryd.prog 20 #[.slice (some ⟨w.heap.size + 1, 0, none⟩) 41 41, .int .i64 a, .int .i64 4, .int .u64 v] wr fun e w' => e = .returned (.tuple #[]) ∧ PAs w cs (setAll xs a (be4 v)) w' := by
  refine (packetPut4 (w.heap.size + 1) (w.heap.size + 1) 41 41 a v xs wr h.2.1 ha hv0 hv1 (by decide)).mono ?_
  rintro e w' ⟨rfl, ho, hg⟩
  exact ⟨rfl, h.1.grown hg (by intro e; injection e; omega), ho, h.2.2.grown hg (by intro k hk; injection hk; omega)⟩
theorem PAs.set {w wr : World} {cs : Array Value} {xs : List Int} (h : PAs w cs xs wr) (a : Nat) (v : Int) : PAs w cs (xs.set a v) (wr.setCell ⟨w.heap.size + 1, a, none⟩ (.int .u8 v)) := by
  have hs := own_store h.2.1 a v
  refine ⟨?_, hs.1, h.2.2.set (by show w.heap.size ≤ w.heap.size + 1; omega) _⟩
  exact h.1.grown hs.2 (by intro e; injection e; omega)
theorem PAs.drew {w wr : World} {cs : Array Value} {xs : List Int} (h : PAs w cs xs wr) : PAs w cs xs wr.drew := ⟨h.1.drew, h.2.1.drew, h.2.2.drew⟩
end Go.Proofs.YtacmnibhdmeidaaDoor
