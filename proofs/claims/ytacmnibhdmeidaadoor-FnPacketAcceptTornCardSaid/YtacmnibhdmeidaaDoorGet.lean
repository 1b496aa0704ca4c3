/-
  Numbers read from bytes in memory.
-/
import Derived.Test.YtacmnibhdmeidaaDoorPut
namespace Go.Proofs.YtacmnibhdmeidaaDoor
open Go Go.RowKit

theorem byteU (x : Int) (h0 : 0 ≤ x) (h1 : x < 256) : ∃ b : UInt8, ((b.toNat : Nat) : Int) = x := ⟨x.toNat.toUInt8, by rw [Nat.toUInt8, UInt8.toNat_ofNat']; omega⟩

theorem get16 (g o n c : Nat) (x0 x1 : Int) (w : World) (hn : 2 ≤ n) (c0 : w.cell? ⟨g, o, none⟩ = some (.int .u8 x0)) (c1 : w.cell? ⟨g, o + 1, none⟩ = some (.int .u8 x1)) (h0 : 0 ≤ x0 ∧ x0 < 256) (h1 : 0 ≤ x1 ∧ x1 < 256) :
    Calls Tryd.prog 63 #[.agg #[], .slice (some ⟨g, o, none⟩) n c] w fun e w' => e = .returned (.int .u16 (x0 * 256 + x1)) ∧ Below w.heap.size w w' := by
  obtain ⟨b0, rfl⟩ := byteU x0 h0.1 h0.2
  obtain ⟨b1, rfl⟩ := byteU x1 h1.1 h1.2
  refine (Tryd.binary_BE_Uint16 g o n c b0 b1 w hn c0 c1).mono ?_
  rintro e w' ⟨rfl, hb⟩
  exact ⟨by simp [Lib.beNat, Lib.beFrom], hb⟩

theorem get32 (g o n c : Nat) (x0 x1 x2 x3 : Int) (w : World) (hn : 4 ≤ n) (c0 : w.cell? ⟨g, o, none⟩ = some (.int .u8 x0)) (c1 : w.cell? ⟨g, o + 1, none⟩ = some (.int .u8 x1)) (c2 : w.cell? ⟨g, o + 2, none⟩ = some (.int .u8 x2)) (c3 : w.cell? ⟨g, o + 3, none⟩ = some (.int .u8 x3)) (h0 : 0 ≤ x0 ∧ x0 < 256) (h1 : 0 ≤ x1 ∧ x1 < 256) (h2 : 0 ≤ x2 ∧ x2 < 256) (h3 : 0 ≤ x3 ∧ x3 < 256) :
    Calls Tryd.prog 64 #[.agg #[], .slice (some ⟨g, o, none⟩) n c] w fun e w' => e = .returned (.int .u32 (((x0 * 256 + x1) * 256 + x2) * 256 + x3)) ∧ Below w.heap.size w w' := by
  obtain ⟨b0, rfl⟩ := byteU x0 h0.1 h0.2
  obtain ⟨b1, rfl⟩ := byteU x1 h1.1 h1.2
  obtain ⟨b2, rfl⟩ := byteU x2 h2.1 h2.2
  obtain ⟨b3, rfl⟩ := byteU x3 h3.1 h3.2
  refine (Tryd.binary_BE_Uint32 g o n c b0 b1 b2 b3 w hn c0 c1 c2 c3).mono ?_
  rintro e w' ⟨rfl, hb⟩
  exact ⟨by simp [Lib.beNat, Lib.beFrom], hb⟩

/-- The number that stands in two bytes, in four. -/
def g16 (xs : List Int) (i : Nat) : Int := xs.getD i 0 * 256 + xs.getD (i + 1) 0
def g32 (xs : List Int) (i : Nat) : Int := ((xs.getD i 0 * 256 + xs.getD (i + 1) 0) * 256 + xs.getD (i + 2) 0) * 256 + xs.getD (i + 3) 0

theorem getD_byte {xs : List Int} (h : ∀ x ∈ xs, 0 ≤ x ∧ x < 256) (i : Nat) : 0 ≤ xs.getD i 0 ∧ xs.getD i 0 < 256 := by
  rcases Nat.lt_or_ge i xs.length with hl | hl
  · rw [List.getD_eq_getElem?_getD, List.getElem?_eq_getElem hl]; exact h _ (List.getElem_mem hl)
  · rw [List.getD_eq_getElem?_getD, List.getElem?_eq_none hl]; exact ⟨by decide, by decide⟩
end Go.Proofs.YtacmnibhdmeidaaDoor
