/-
  FnSessionSigned: a number is written in one way with a sign and without, and read as it is by both readers.
-/
import Derived.Test.YtacmnibhdmeidaaDoorSes15
namespace Go.Proofs.YtacmnibhdmeidaaDoor
open Go Go.RowKit

theorem partSize_or (s : Nat) : partSize s = 1 ∨ partSize s = 2 ∨ partSize s = 4 ∨ partSize s = 8 := by
  unfold partSize; split
  · simp
  split
  · simp
  split <;> simp
theorem partNum_lt (kd s num : Nat) : partNum kd s num < 256 ^ partSize s := by
  have hp : 0 < 256 ^ partSize s := Nat.pow_pos (by omega)
  have h2 : 2 ≤ 256 ^ partSize s := by rcases partSize_or s with h | h | h | h <;> rw [h] <;> decide
  unfold partNum
  split
  · have := Nat.mod_lt num (show 0 < 256 ^ partSize s / 2 by omega); omega
  · exact Nat.mod_lt _ hp
theorem partNum_half (kd s num : Nat) (h : kd % 6 = 2) : partNum kd s num ≤ 9223372036854775807 := by
  unfold partNum
  rw [if_pos h]
  rcases partSize_or s with h | h | h | h <;> rw [h] <;> omega
theorem partNum_max (kd s num : Nat) : partNum kd s num < 18446744073709551616 := by
  have := partNum_lt kd s num
  rcases partSize_or s with h | h | h | h <;> rw [h] at this <;> omega
theorem numW_len (s : Nat) (b c : Bool) (v : Nat) (hs : s ≤ 8) : (numW s b c v).length ≤ 9 := by
  unfold numW
  split
  · exact packed_len v
  · rw [plain_length]; omega

theorem ok_num (k v : Nat) (big cm : Bool) (hk : k = 1 ∨ k = 2 ∨ k = 4 ∨ k = 8) (hv : v < 256 ^ k) (hv2 : v ≤ 9223372036854775807) : PStep.Ok ⟨2, none, 0, 0, [], none, 0, 0, [], v, 0, k, 0, big, cm⟩ :=
  ⟨by simp, rfl, rfl, by simp, by simp, by simp, fun _ => ⟨hk, v, rfl, hv, hv2⟩, fun h => by dsimp only at h; omega⟩
theorem ok_uns (k v : Nat) (big cm : Bool) (hk : k = 1 ∨ k = 2 ∨ k = 4 ∨ k = 8) (hv : v < 256 ^ k) : PStep.Ok ⟨3, none, 0, 0, [], none, 0, 0, [], 0, v, k, 0, big, cm⟩ :=
  ⟨by simp, rfl, rfl, by simp, by simp, by simp, fun h => by dsimp only at h; omega, fun _ => ⟨hk, v, rfl, hv⟩⟩
/-- What the reading of one number leaves. -/
def NumC (v : Nat) (W : World) (s : Value) (wx : World) : Prop := ∃ g cap, s = .slice (some ⟨g, 0, none⟩) 1 cap ∧ 1 ≤ cap ∧ cap ≤ maxLen ∧ g < wx.heap.size ∧ wx.cell? ⟨g, 0, none⟩ = some (.bool true) ∧ wx.cell? ⟨g, 3, none⟩ = some (.int .i64 (v : Int)) ∧ Kp W wx

end Go.Proofs.YtacmnibhdmeidaaDoor
