/-
  What the thin package reads of packets MARKER, and of packets that are no packets of data.
-/
import Derived.Test.YtacmnibhdmeidaaDoorMark
namespace Go.Proofs.YtacmnibhdmeidaaDoor
open Go Go.RowKit

def MarkReadV (ok : Bool) (len x4 x5 k : Int) (w : World) (e : Ending) (w' : World) : Prop :=
  if ok then e = .returned (.tuple #[.agg #[.int .u32 len, .int .u8 x4, .int .u8 x5, .int .u16 0], .int .u8 k, .bool true]) ∧ Below w.heap.size w w'
  else e = .returned (.tuple #[.agg #[.int .u32 0, .int .u8 0, .int .u8 0, .int .u16 0], .int .u8 0, .bool false]) ∧ Below w.heap.size w w'

theorem markL_byte (long : Bool) (k : Int) (h : 0 ≤ k ∧ k < 256) : ∀ x ∈ markL long k, 0 ≤ x ∧ x < 256 := by
  intro x hx
  cases long <;> simp [markL] at hx <;> omega
/-- A packet of another type is no packet of data. -/
def NoData (w : World) (e : Ending) (w' : World) : Prop := ∃ q, e = .returned (.tuple #[.pointer none, .iface 154 (.pointer (some q))]) ∧ Below w.heap.size w w'

def NoRead (w : World) (e : Ending) (w' : World) : Prop := e = .returned (.tuple #[.agg #[.int .u32 0, .int .u8 0, .int .u8 0, .int .u16 0], .int .u16 0, .slice none 0 0, .bool false]) ∧ Below w.heap.size w w'
def NoReadN (w : World) (e : Ending) (w' : World) : Prop := ∃ q, e = .returned (.tuple #[.pointer none, .int .u16 0, .slice none 0 0, .iface 154 (.pointer (some q))]) ∧ Below w.heap.size w w'

end Go.Proofs.YtacmnibhdmeidaaDoor
