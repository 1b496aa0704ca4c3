/-
  IsEqual: servers that are one.
-/
import Derived.Test.YtcdbnjhkjfimkaaDoorCfg2
import Derived.Deep.RegionHeld3
namespace Go.Proofs.YtcdbnjhkjfimkaaDoor
open Go Go.RowKit

theorem upper_lt (x : UInt8) (h : x.toNat < 128) : (Lib.upperB x).toNat < 128 := by
  have key : ∀ i : Fin 128, (Lib.upperB (UInt8.ofNat i.val)).toNat < 128 := by decide
  have := key ⟨x.toNat, h⟩
  simpa using this
theorem ascii_of {a : ByteArray} (h : plainL a.data.toList = true) : ∀ (j : Nat) (b : UInt8), a.data.toList[j]? = some b → b.toNat < 128 := fun _ b hb => (plainL_iff _).1 h b (List.mem_of_getElem? hb)
theorem ascii_up {l : List UInt8} (h : plainL l = true) : ∀ (j : Nat) (b : UInt8), (Lib.toUpperA l)[j]? = some b → b.toNat < 128 := fun _ b hb => by
  obtain ⟨x, hx, rfl⟩ := List.mem_map.1 (List.mem_of_getElem? hb)
  exact upper_lt x ((plainL_iff _).1 h x hx)
theorem upper_any (a : ByteArray) (w : World) (ha : a.size ≤ 300) (la : plainL a.data.toList = true) :
    Calls Tryd.prog 121 #[.string a] w fun e w' => e = .returned (.string ⟨(Lib.toUpperA a.data.toList).toArray⟩) ∧ Kp w w' := Tryd.strings_ToUpper_ascii a w (by omega) (ascii_of la)
end Go.Proofs.YtcdbnjhkjfimkaaDoor
