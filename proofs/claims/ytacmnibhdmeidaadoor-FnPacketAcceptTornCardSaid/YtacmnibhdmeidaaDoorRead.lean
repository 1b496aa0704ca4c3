/-
  What is read of a packet of data.
-/
import Derived.Test.YtacmnibhdmeidaaDoorData
import Derived.Test.YtacmnibhdmeidaaDoorGet
import Derived.Test.YtacmnibhdmeidaaDoorRedLaw
namespace Go.Proofs.YtacmnibhdmeidaaDoor
open Go Go.RowKit

def ReadPostV (len x5 y8 : Int) (n c b o cx : Nat) (w : World) (e : Ending) (w' : World) : Prop := ∃ g q, e = .returned (.tuple #[.pointer (some ⟨g, 0, none⟩), .nilIface]) ∧  Blk w' g 146 #[.int .u16 10, .int .u32 len, .int .u8 6, .int .u8 x5, .pointer (some ⟨cx, 0, none⟩), .int .u16 y8, .slice q (n - 10) (c - 10)] ∧  (10 < n → q = some ⟨b, o + 10, none⟩) ∧ Below w.heap.size w w'

def ReadPost (long : Bool) (n c b o cx : Nat) (xs : List Int) (w : World) : Ending → World → Prop := ReadPostV (if long then g32 xs 0 else g16 xs 0) (xs.getD 5 0) (g16 xs 8) n c b o cx w

end Go.Proofs.YtacmnibhdmeidaaDoor
