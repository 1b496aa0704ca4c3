/-
  An option of an address, opened.
-/
import Derived.Test.YtcdbnjhkjfimkaaDoorUrl20
import Derived.ProofKit
import Derived.OpenShut
import Derived.ShutString
import Derived.Lib.SmallJoins
namespace Go.Proofs.YtcdbnjhkjfimkaaDoor
open Go Go.RowKit Go.Joins Go.ChangeShapes Go.WideShapes Go.Deep

section
variable {H : Type} {enc : TypeId × Value → H} {w : World} {base : Nat} {held : Bool}
set_option maxRecDepth 100000 in
theorem option_open {r : Reach} {b0 : Nat} {v : Value} {d : DataW H} {p : List MemPlace} (hv : Value.okWide Tryd.prog w r b0 80 v) (h : DataW.Trod enc Tryd.prog w base (fun _ => true) held 80 v d p) :
    ∃ (a b : ByteArray), v = .agg #[.string a, .string b] ∧ a.size ≤ maxLen ∧ b.size ≤ maxLen := by
  obtain ⟨v0, v1, y0, y1, n, rfl, _, _, t0, t1⟩ := open_agg2 Tryd.underlying80 (by kernel_rfl) (by kernel_rfl) hv h
  obtain ⟨s0, h0, _, z0⟩ := DataW.trod_string Tryd.underlying9 t0
  obtain ⟨s1, h1, _, z1⟩ := DataW.trod_string Tryd.underlying9 t1
  obtain rfl : v0 = .string s0 := by simpa using h0
  obtain rfl : v1 = .string s1 := by simpa using h1
  exact ⟨s0, s1, rfl, z0, z1⟩
end
end Go.Proofs.YtcdbnjhkjfimkaaDoor
