/-
  FnNumberTens: an integer and the same one with pairs of noughts behind it.
-/
import Derived.Test.YtcdbnjhkjfimkaaDoorNum5
namespace Go.Proofs.YtcdbnjhkjfimkaaDoor
open Go Go.RowKit

theorem nDigits_ten (x : Nat) (hx : 0 < x) : ∀ j, Lib.nDigits (x * 10 ^ j) = Lib.nDigits x + j
  | 0 => by simp
  | j + 1 => by
    have h1 : 0 < x * 10 ^ j := Nat.mul_pos hx (Nat.pow_pos (by decide))
    rw [Nat.pow_succ, ← Nat.mul_assoc, Lib.nDigits_big (show ¬ x * 10 ^ j * 10 < 10 by omega), Nat.mul_div_cancel _ (by decide), nDigits_ten x hx j, Nat.add_assoc]
theorem tz_unique {q s t : Nat} (hq : q % 10 ≠ 0) (h1 : (q * 10 ^ s) % 10 ^ t = 0) (h2 : (q * 10 ^ s) / 10 ^ t % 10 ≠ 0) : t = s := by
  rcases Nat.lt_trichotomy t s with h | h | h
  · exfalso
    apply h2
    obtain ⟨d, rfl⟩ : ∃ d, s = t + (d + 1) := ⟨s - t - 1, by omega⟩
    rw [Nat.pow_add, Nat.mul_comm (10 ^ t), ← Nat.mul_assoc, Nat.mul_div_cancel _ (Nat.pow_pos (by decide)), Nat.pow_succ, ← Nat.mul_assoc, Nat.mul_mod_left]
  · exact h
  · exfalso
    apply hq
    obtain ⟨d, rfl⟩ : ∃ d, t = s + (d + 1) := ⟨t - s - 1, by omega⟩
    rw [Nat.pow_add, Nat.mul_comm q, Nat.mul_mod_mul_left] at h1
    have h3 := (Nat.mul_eq_zero.1 h1).resolve_left (Nat.ne_of_gt (Nat.pow_pos (by decide)))
    exact Nat.mod_eq_zero_of_dvd (Nat.dvd_trans ⟨10 ^ d, by rw [Nat.pow_succ, Nat.mul_comm]⟩ (Nat.dvd_of_mod_eq_zero h3))
theorem pow100 (k : Nat) : 100 ^ k = 10 ^ (2 * k) := by rw [Nat.pow_mul]
theorem tens_abs (n : Int) (k : Nat) : (n * 100 ^ k).natAbs = n.natAbs * 10 ^ (2 * k) := by
  rw [Int.natAbs_mul, Int.natAbs_pow, show (100 : Int).natAbs = 100 from rfl, pow100]
theorem tens_bound (n : Int) (h0 : -1000000 < n) (h1 : n < 1000000) (k : Nat) (hk : k ≤ 5) : -10000000000000000 < n * 100 ^ k ∧ n * 100 ^ k < 10000000000000000 := by
  have : k = 0 ∨ k = 1 ∨ k = 2 ∨ k = 3 ∨ k = 4 ∨ k = 5 := by omega
  rcases this with rfl | rfl | rfl | rfl | rfl | rfl <;> omega
theorem tens_zero {l : List Int} (h : EncL 0 l) : l = [128] := by
  rcases h with ⟨_, h⟩ | ⟨_, h, _⟩
  · exact h
  · simp at h

/-- Two forms whose tails are the same, and whose exponents differ by k. -/
theorem tens_forms {n m : Int} {k : Nat} {la lb : List Int} (hn : n ≠ 0) (hm : m = n * 100 ^ k) (ha : EncL n la) (hb : EncL m lb) :
    ∃ (xs : List Int) (e : Int), 1 ≤ xs.length ∧ 0 ≤ e ∧ (Lib.nDigits n.natAbs : Int) = e + 1 ∧ la = headB (decide (n < 0)) e :: xs ∧ lb = headB (decide (n < 0)) (e + 2 * k) :: xs := by
  have hN : 0 < n.natAbs := by omega
  rcases ha with ⟨h, _⟩ | ⟨t, _, a1, a2, a3, rfl⟩
  · exact absurd h hn
  have hab : m.natAbs = n.natAbs * 10 ^ (2 * k) := by rw [hm, tens_abs]
  have hM : 0 < m.natAbs := by rw [hab]; exact Nat.mul_pos hN (Nat.pow_pos (by decide))
  rcases hb with ⟨h, _⟩ | ⟨t', _, _, b2, b3, rfl⟩
  · omega
  have hs : decide (m < 0) = decide (n < 0) := by
    have hp : (0 : Int) < 100 ^ k := Int.pow_pos (by decide)
    have : (m < 0) ↔ (n < 0) := by
      rw [hm]
      constructor
      · intro h
        rcases Int.lt_or_le n 0 with h1 | h1
        · exact h1
        · exact absurd (Int.mul_nonneg h1 (Int.le_of_lt hp)) (by omega)
      · intro h
        exact Int.mul_neg_of_neg_of_pos h hp
    simp [this]
  have hq : n.natAbs = n.natAbs / 10 ^ t * 10 ^ t := by
    have := Nat.div_add_mod n.natAbs (10 ^ t)
    rw [a2, Nat.add_zero, Nat.mul_comm] at this
    exact this.symm
  have hM2 : m.natAbs = n.natAbs / 10 ^ t * 10 ^ (t + 2 * k) := by rw [hab, Nat.pow_add, ← Nat.mul_assoc, ← hq]
  rw [hM2] at b2 b3
  have ht := tz_unique a3 b2 b3
  have hd : Lib.nDigits m.natAbs = Lib.nDigits n.natAbs + 2 * k := by rw [hab, nDigits_ten _ hN]
  have h1 := Lib.nDigits_pos n.natAbs
  have htl : 1 ≤ (tailL (decide (n < 0)) (evenL ((Lib.nDigits n.natAbs : Int) - 1) (digI (n.natAbs / 10 ^ t) (Lib.nDigits n.natAbs - t)))).length := by
    unfold tailL evenL
    rw [List.length_append, List.length_map, prs_length]
    split
    · rw [List.length_cons, digI_length]
      omega
    · rw [digI_length]
      omega
  refine ⟨_, (Lib.nDigits n.natAbs : Int) - 1, htl, by omega, by omega, rfl, ?_⟩
  have hdiv : m.natAbs / 10 ^ t' = n.natAbs / 10 ^ t := by rw [ht, hM2, Nat.mul_div_cancel _ (Nat.pow_pos (by decide))]
  rw [hdiv, hs, hd, show Lib.nDigits n.natAbs + 2 * k - t' = Lib.nDigits n.natAbs - t by omega, show ((Lib.nDigits n.natAbs + 2 * k : Nat) : Int) - 1 = ((Lib.nDigits n.natAbs : Int) - 1) + 2 * k by omega]
  unfold numL evenL
  rw [show (((Lib.nDigits n.natAbs : Int) - 1) + 2 * k) % 2 = ((Lib.nDigits n.natAbs : Int) - 1) % 2 by omega]
theorem tens_heads {neg : Bool} {e : Int} {k : Nat} (h0 : 0 ≤ e) (h1 : e ≤ 20) (hk : k ≤ 5) : (0 ≤ headB neg e ∧ headB neg e < 256) ∧ (0 ≤ headB neg (e + 2 * k) ∧ headB neg (e + 2 * k) < 256) ∧ (neg = false → headB neg (e + 2 * k) - headB neg e = k) ∧ (neg = true → headB neg e - headB neg (e + 2 * k) = k) := by
  unfold headB
  cases neg
  · simp only [Bool.false_eq_true, if_false]
    exact ⟨⟨by omega, by omega⟩, ⟨by omega, by omega⟩, fun _ => by omega, fun h => absurd h (by decide)⟩
  · simp only [if_true]
    exact ⟨⟨by omega, by omega⟩, ⟨by omega, by omega⟩, fun h => absurd h (by decide), fun _ => by omega⟩

end Go.Proofs.YtcdbnjhkjfimkaaDoor
