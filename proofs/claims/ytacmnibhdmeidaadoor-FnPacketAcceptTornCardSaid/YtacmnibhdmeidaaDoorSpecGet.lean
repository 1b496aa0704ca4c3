/-
  The reference's PacketGet: the number that stands in some bytes.
-/
import Derived.Test.YtacmnibhdmeidaaDoorGet
import Derived.Laws.BitsAllLaws
import Derived.LoopTactic
namespace Go.Proofs.YtacmnibhdmeidaaDoor
open Go Go.RowKit

/-- The number that bytes spell, the greatest first. -/
def pg : Int → List Int → Int
  | a, [] => a
  | a, x :: l => pg (a * 256 + x) l

theorem pg_snoc : ∀ (l : List Int) (a x : Int), pg a (l ++ [x]) = pg a l * 256 + x
  | [], _, _ => rfl
  | _ :: l, _, x => pg_snoc l _ x

theorem pg_bound : ∀ (l : List Int) (a : Int) (n : Nat), (∀ x ∈ l, 0 ≤ x ∧ x < 256) → 0 ≤ a → a < 256 ^ n → 0 ≤ pg a l ∧ pg a l < 256 ^ (n + l.length)
  | [], a, n, _, h0, h1 => ⟨h0, h1⟩
  | y :: l, a, n, h, h0, h1 => by
    have hy := h y (by simp)
    have := pg_bound l (a * 256 + y) (n + 1) (fun x hx => h x (by simp [hx])) (by omega) (by rw [Int.pow_succ]; omega)
    rw [List.length_cons, show n + (l.length + 1) = n + 1 + l.length from by omega]
    exact this

theorem or_byte (a x : Int) (h0 : 0 ≤ a) (h1 : a < 72057594037927936) (h2 : 0 ≤ x) (h3 : x < 256) : bits .or .u64 (a * 256) x = a * 256 + x := by
  obtain ⟨m, rfl⟩ := Int.eq_ofNat_of_zero_le h0
  obtain ⟨y, rfl⟩ := Int.eq_ofNat_of_zero_le h2
  have := u64_or_nat (m * 256) y (by omega) (by omega)
  rw [show ((m : Int) * 256) = ((m * 256 : Nat) : Int) from by omega, this, nat_join 8 (m * 256) y (by omega) (by omega)]
  omega

theorem pg_two (xs : List Int) (i : Nat) (h : i + 2 ≤ xs.length) : pg 0 ((xs.drop i).take 2) = g16 xs i := by
  have e : (xs.drop i).take 2 = [xs.getD i 0, xs.getD (i + 1) 0] := by
    apply List.ext_getElem
    · simp; omega
    · intro j h1 h2
      simp at h2
      match j, h2 with
      | 0, _ => simp [List.getD, List.getElem?_eq_getElem (show i < xs.length by omega)]
      | 1, _ => simp [List.getD, List.getElem?_eq_getElem (show i + 1 < xs.length by omega)]
  rw [e]
  simp [pg, g16]

theorem pg_four (xs : List Int) (i : Nat) (h : i + 4 ≤ xs.length) : pg 0 ((xs.drop i).take 4) = g32 xs i := by
  have e : (xs.drop i).take 4 = [xs.getD i 0, xs.getD (i + 1) 0, xs.getD (i + 2) 0, xs.getD (i + 3) 0] := by
    apply List.ext_getElem
    · simp; omega
    · intro j h1 h2
      simp at h2
      match j, h2 with
      | 0, _ => simp [List.getD, List.getElem?_eq_getElem (show i < xs.length by omega)]
      | 1, _ => simp [List.getD, List.getElem?_eq_getElem (show i + 1 < xs.length by omega)]
      | 2, _ => simp [List.getD, List.getElem?_eq_getElem (show i + 2 < xs.length by omega)]
      | 3, _ => simp [List.getD, List.getElem?_eq_getElem (show i + 3 < xs.length by omega)]
  rw [e]
  simp [pg, g32]
end Go.Proofs.YtacmnibhdmeidaaDoor
