/-
  The reference's decimal digits.
-/
import Derived.Test.YtaohgebiedkdaaaDoorDec
namespace Go.Proofs.YtaohgebiedkdaaaDoor
open Go Go.RowKit

theorem pow_le_of_lt_nDigits {N k : Nat} (h : k < Lib.nDigits N) (hk : 0 < k) : 10 ^ k ≤ N := by
  rcases Nat.lt_or_ge N (10 ^ k) with h1 | h1
  · obtain ⟨j, rfl⟩ : ∃ j, k = j + 1 := ⟨k - 1, by omega⟩
    have := nDigits_le j N h1
    omega
  · exact h1
theorem div_pow_succ (N k : Nat) : N / 10 ^ (k + 1) = N / 10 ^ k / 10 := by rw [Nat.pow_succ, Nat.div_div_eq_div_mul]
def digitsS : ByteArray := ⟨#[48, 49, 50, 51, 52, 53, 54, 55, 56, 57]⟩
theorem digit_piece_fin : ∀ i : Fin 10, digitsS.extract i.val (i.val + 1) = ⟨#[UInt8.ofNat (48 + i.val)]⟩ := by decide +kernel
theorem digit_piece {i : Nat} (h : i < 10) : digitsS.extract i (i + 1) = ⟨#[UInt8.ofNat (48 + i)]⟩ := digit_piece_fin ⟨i, h⟩

set_option maxHeartbeats 1000000 in
theorem dateDigits_any (N W : Nat) (hN : N ≤ 1000000000000) (hW0 : 1 ≤ W) (hW : W ≤ 100) (w : World) :
    Calls Tryd.prog 52 #[.int .i64 N, .int .i64 W] w fun e w' => e = .returned (.string (padS N W)) ∧ w' = w := by
  have HD : 1 ≤ Lib.nDigits N ∧ Lib.nDigits N ≤ 13 := ⟨Lib.nDigits_pos N, nDigits_le 12 N (by omega)⟩
  have i0 : ((W : Nat) : Int) ≤ 100 := by omega
  obtain ⟨M, hM⟩ : ∃ M, M = max W (Lib.nDigits N) := ⟨_, rfl⟩
  have HE := Lib.hid (show ∀ k, k < M → 0 < N / 10 ^ k ∨ k < W from fun k hk => by
    by_cases h : k < W
    · exact Or.inr h
    · left
      exact Nat.div_pos (pow_le_of_lt_nDigits (by omega) (by omega)) (Nat.pow_pos (by decide)))
  have HZ := Lib.hid (show N / 10 ^ M = 0 from Nat.div_eq_of_lt (Nat.lt_of_lt_of_le (Lib.lt_pow_nDigits N) (Nat.pow_le_pow_right (by decide) (by omega))))
  have HM := Lib.hid hM
  have hM2 : W ≤ M := by omega
  have hM3 : M ≤ 100 := by omega
  have h10 : N / 10 ^ 0 = N := by simp
  clear HD hM hW
  go_enter Tryd.func52, Tryd.ntmps52
  go_wp2_with fail
  go_loopg [0, 5] M (fun g a v wr => ∃ (k : Nat) (s : ByteArray), k ≤ M ∧ g = M - k ∧ a = .int .i64 ((N / 10 ^ k : Nat) : Int) ∧ v = .string s ∧ Str s (dgL N k) ∧ w = wr)
  case atStart => exact ⟨0, ⟨#[]⟩, Nat.zero_le _, rfl, by rw [h10], rfl, rfl, rfl⟩
  case round =>
    obtain ⟨k, s, hk, rfl, rfl, rfl, hs, rfl⟩ := hrel
    have hsz := hs.size
    rw [dgL_length] at hsz
    have hm0 : N / 10 ^ k ≤ N := Nat.div_le_self _ _
    have HS := Lib.hid hs
    have HQ := Lib.hid (div_pow_succ N k)
    have HDG := Lib.hid (show Lib.dg N k = UInt8.ofNat (48 + N / 10 ^ k % 10) from rfl)
    have HEK := Lib.hid (HE.out k)
    have HZK := Lib.hid (show k = M → N / 10 ^ k = 0 from fun h => by rw [h]; exact HZ.out)
    generalize N / 10 ^ k = m at *
    have i1 : ((m : Nat) : Int) ≤ 1000000000000 := by omega
    obtain ⟨r, hr⟩ : ∃ r, r = m % 10 := ⟨_, rfl⟩
    have hr1 : r < 10 := by omega
    have hr2 : ((m : Nat) : Int) % 10 = (r : Int) := by omega
    have HP := Lib.hid (digit_piece hr1)
    have HR := Lib.hid hr
    clear hs h10 hN hr
    by_cases hlt : k < M
    · have hc := HEK.out hlt
      by_cases h0 : 0 < m
      · have j0 : (0 : Int) < ((m : Nat) : Int) := by omega
        clear hc
        go_wp2
        go_roundg (M - (k + 1))
        case measure => omega
        case rel =>
          refine ⟨k + 1, _, by omega, rfl, ?_, rfl, ?_, rfl⟩
          · rw [HQ.out]; congr 1
          · have h := HP.out
            unfold digitsS at h
            rw [h, dgL_succ, HDG.out, ← HR.out]
            exact HS.out.cons _
      · have j0 : ¬ (0 : Int) < ((m : Nat) : Int) := by omega
        have j1 : ((k : Nat) : Int) < (W : Int) := by omega
        clear hc
        go_wp2
        go_roundg (M - (k + 1))
        case measure => omega
        case rel =>
          refine ⟨k + 1, _, by omega, rfl, ?_, rfl, ?_, rfl⟩
          · rw [HQ.out]; congr 1
          · have h := HP.out
            unfold digitsS at h
            rw [h, dgL_succ, HDG.out, ← HR.out]
            exact HS.out.cons _
    · obtain rfl : k = M := by omega
      have hz := HZK.out rfl
      subst hz
      have j1 : ¬ ((k : Nat) : Int) < (W : Int) := by omega
      go_wp2
      go_ret
      refine ⟨?_, rfl⟩
      have hh := HS.out
      unfold Str at hh
      unfold padS
      rw [← HM.out, ← hh]
      rfl
end Go.Proofs.YtaohgebiedkdaaaDoor
