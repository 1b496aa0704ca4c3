/-
  What DataRead tells of a packet of data.
-/
import Derived.Test.YtacmnibhdmeidaaDoorRead
namespace Go.Proofs.YtacmnibhdmeidaaDoor
open Go Go.RowKit

theorem own_cap {w : World} {base : Nat} {e : TypeId} {q : Option Addr} {n d : Nat} {xs : List Value} (h : w.ownsRow base e 1 (.slice q n d) n xs) : n ≤ d := by
  rcases h.2 with ⟨h, h0⟩ | ⟨_, _, _, h, _, _, hle, _⟩
  · omega
  · injection h; omega

def DReadV (len x5 y8 : Int) (n c b o cx : Nat) (w : World) (e : Ending) (w' : World) : Prop := ∃ g q, e = .returned (.tuple #[.pointer (some ⟨g, 0, none⟩), .int .u16 y8, .slice q (n - 10) (c - 10), .nilIface]) ∧
  Blk w' g 146 #[.int .u16 10, .int .u32 len, .int .u8 6, .int .u8 x5, .pointer (some ⟨cx, 0, none⟩), .int .u16 y8, .slice q (n - 10) (c - 10)] ∧ (10 < n → q = some ⟨b, o + 10, none⟩) ∧ Below w.heap.size w w'

/-- What DataRead returns. -/
def DataReadPost (len x5 y8 : Int) (n : Nat) (ys : List Int) (w : World) (e : Ending) (w' : World) : Prop := ∃ q d, e = .returned (.tuple #[headV len 6 x5 10, .int .u16 y8, .slice q (n - 10) d, .bool true]) ∧
  w'.ownsRow w.heap.size 5 1 (.slice q (n - 10) d) (n - 10) (ys.map (Value.int .u8)) ∧ Below w.heap.size w w'

end Go.Proofs.YtacmnibhdmeidaaDoor
