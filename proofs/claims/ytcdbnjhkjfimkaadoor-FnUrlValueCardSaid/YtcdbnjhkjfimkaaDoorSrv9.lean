/-
  zzFits4, configServers of an argument; an argument that is a slice of servers, opened.
-/
import Derived.Test.YtcdbnjhkjfimkaaDoorSrv8
import Derived.Deep.Slices
import Derived.Deep.Fields
import Derived.ChangeSame
import Derived.ChangeSlices
import Derived.OpenShut
namespace Go.Proofs.YtcdbnjhkjfimkaaDoor
open Go Go.RowKit Go.ChangeShapes Go.WideShapes Go.Deep

/-- Servers in a row, their texts no longer than any text can be. -/
def SrvIn (w : World) (a : Option Addr) (n : Nat) (R : Nat → Srv) : Prop := SrvRow w a n R ∧ ∀ r, r < n → (R r).pr.size ≤ maxLen ∧ (R r).ad.size ≤ maxLen
theorem SrvIn.kp {w w' : World} {a : Option Addr} {n : Nat} {R : Nat → Srv} (h : SrvIn w a n R) (hk : Kp w w') : SrvIn w' a n R := ⟨h.1.kp hk, h.2⟩
theorem len3 {α : Type} : ∀ l : List α, l.length = 3 → ∃ a b c, l = [a, b, c]
  | [a, b, c], _ => ⟨a, b, c, rfl⟩
section
variable {H : Type} {enc : TypeId × Value → H} {w : World} {base : Nat} {held : Bool}
end
end Go.Proofs.YtcdbnjhkjfimkaaDoor
