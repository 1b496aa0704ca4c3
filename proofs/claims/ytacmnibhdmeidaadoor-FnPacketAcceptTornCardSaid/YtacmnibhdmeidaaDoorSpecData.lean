/-
  The reference's PacketData, PacketHeadOf; laws on packets of data.
-/
import Derived.Test.YtacmnibhdmeidaaDoorApp
import Derived.Test.YtacmnibhdmeidaaDoorSpecPut
import Derived.Test.YtacmnibhdmeidaaDoorSpecGet
import Derived.Test.YtacmnibhdmeidaaDoorRead2
namespace Go.Proofs.YtacmnibhdmeidaaDoor
open Go Go.RowKit

theorem headL_ten (long : Bool) (len : Int) : setAll (headL long len 6 0 10) 8 (be2 0) = headL long len 6 0 10 := by
  cases long <;> rfl

theorem dataL_eq (long : Bool) (len : Int) (xs : List Int) : dataL long len xs = headL long len 6 0 10 ++ xs := by
  rw [dataL, headL_ten]

/-- The length that stands at the beginning of a packet. -/
def lenOf (long : Bool) (xs : List Int) : Int := if long then g32 xs 0 else g16 xs 0

/-- What is read of a packet of data that DataBytes has made. -/
theorem dataL_facts (long : Bool) (n : Nat) (xs : List Int) (hx : xs.length = n) (hn : n ≤ 10000) (hr : ∀ x ∈ xs, 0 ≤ x ∧ x < 256) :
    (dataL long ((n : Int) + 10) xs).length = 10 + n ∧ (∀ x ∈ dataL long ((n : Int) + 10) xs, 0 ≤ x ∧ x < 256) ∧ (dataL long ((n : Int) + 10) xs).getD 4 0 = 6 ∧ (dataL long ((n : Int) + 10) xs).getD 5 0 = 0 ∧
    g16 (dataL long ((n : Int) + 10) xs) 8 = 0 ∧ lenOf long (dataL long ((n : Int) + 10) xs) = (n : Int) + 10 ∧ (dataL long ((n : Int) + 10) xs).drop 10 = xs := by
  have hl : (headL long ((n : Int) + 10) 6 0 10).length = 10 := by cases long <;> rfl
  rw [dataL_eq]
  refine ⟨by simp [hl, hx], ?_, ?_, ?_, ?_, ?_, ?_⟩
  · intro x hm
    rcases List.mem_append.1 hm with h | h
    · exact headL_byte long _ 6 0 10 ⟨by decide, by decide⟩ ⟨by decide, by decide⟩ x h
    · exact hr x h
  · cases long <;> rfl
  · cases long <;> rfl
  · cases long <;> rfl
  · cases long
    · show ((n : Int) + 10) % 65536 / 256 % 256 * 256 + ((n : Int) + 10) % 65536 % 256 = _
      omega
    · show ((((n : Int) + 10) / 16777216 % 256 * 256 + ((n : Int) + 10) / 65536 % 256) * 256 + ((n : Int) + 10) / 256 % 256) * 256 + ((n : Int) + 10) % 256 = _
      omega
  · exact List.drop_left' hl
end Go.Proofs.YtacmnibhdmeidaaDoor
