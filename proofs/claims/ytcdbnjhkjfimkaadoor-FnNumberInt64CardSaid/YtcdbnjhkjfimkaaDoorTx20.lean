/-
  An integer's bytes: its pairs and their number.
-/
import Derived.Test.YtcdbnjhkjfimkaaDoorTx19
import Derived.Test.YtcdbnjhkjfimkaaDoorTx16
namespace Go.Proofs.YtcdbnjhkjfimkaaDoor
open Go Go.RowKit

/-- The number that letters make. -/
def dvI : List Int → Int
  | [] => 0
  | x :: l => (x - 48) * 10 ^ l.length + dvI l
theorem pow100I : ∀ k : Nat, (100 : Int) ^ k = (10 : Int) ^ (2 * k)
  | 0 => rfl
  | k + 1 => by rw [Int.pow_succ, pow100I k, show 2 * (k + 1) = 2 * k + 1 + 1 by omega, Int.pow_succ, Int.pow_succ, Int.mul_assoc]; rfl
theorem pvI_even : ∀ (k : Nat) (l : List Int), l.length = 2 * k → pvI (prs l) = dvI l
  | 0, [], _ => rfl
  | 0, _ :: _, h => by simp at h
  | k + 1, [], h => by simp at h
  | k + 1, [_], h => by simp at h; omega
  | k + 1, a :: b :: r, h => by
    have hr : r.length = 2 * k := by simp at h; omega
    have ih := pvI_even k r hr
    rw [prs, pvI_cons, ih, prs_length, hr, show (2 * k + 1) / 2 = k by omega, pow100I, dvI, dvI, List.length_cons, hr, Int.pow_succ]
    generalize (10 : Int) ^ (2 * k) = p
    rw [Int.add_mul, Int.mul_comm 10, Int.mul_assoc, Int.mul_comm 10, Int.add_assoc]
theorem pvI_odd : ∀ (k : Nat) (l : List Int), l.length = 2 * k + 1 → pvI (prs l) = dvI l * 10
  | 0, [], h => by simp at h
  | 0, [a], _ => by simp [prs, pvI, dvI]; omega
  | 0, _ :: _ :: _, h => by simp at h
  | k + 1, [], h => by simp at h
  | k + 1, [_], h => by simp at h
  | k + 1, a :: b :: r, h => by
    have hr : r.length = 2 * k + 1 := by simp at h; omega
    have ih := pvI_odd k r hr
    rw [prs, pvI_cons, ih, prs_length, hr, show (2 * k + 1 + 1) / 2 = k + 1 by omega, pow100I, dvI, dvI, List.length_cons, hr, show 2 * (k + 1) = 2 * k + 1 + 1 by omega, Int.pow_succ]
    generalize (10 : Int) ^ (2 * k + 1) = p
    have e1 : (10 * (a - 48) + (b - 48)) * (p * 10) = 10 * ((a - 48) * (p * 10)) + (b - 48) * (p * 10) := by rw [Int.add_mul, Int.mul_assoc]
    have e2 : (b - 48) * (p * 10) = (b - 48) * p * 10 := by rw [Int.mul_assoc]
    rw [e1, e2]
    omega
theorem digI_succ (N L : Nat) : digI N (L + 1) = ((48 + N / 10 ^ L % 10 : Nat) : Int) :: digI N L := by
  unfold digI
  rw [dgL_succ, List.map_cons, dg_toNat]
theorem dvI_digI (N : Nat) : ∀ L, dvI (digI N L) = ((N % 10 ^ L : Nat) : Int)
  | 0 => by simp [digI, dgL, dvI, Nat.mod_one]
  | L + 1 => by
    rw [digI_succ, dvI, dvI_digI N L, digI_length, Nat.mod_pow_succ, Int.natCast_add 48, Int.natCast_add (N % 10 ^ L), Int.natCast_mul, Int.natCast_pow]
    have : ((48 : Nat) : Int) = 48 := rfl
    have h10 : ((10 : Nat) : Int) = 10 := rfl
    rw [this, h10, show (48 + ((N / 10 ^ L % 10 : Nat) : Int) - 48) = ((N / 10 ^ L % 10 : Nat) : Int) by omega, Int.mul_comm, Int.add_comm]
theorem dvI_even (e : Int) (l : List Int) : dvI (evenL e l) = dvI l := by
  unfold evenL
  split
  · simp [dvI]
  · rfl
/-- The pairs of an integer, where its point stands, and what they make. -/
theorem enc_pairs (n : Int) (l : List Int) (h0 : -9223372036854775808 ≤ n) (h1 : n ≤ 9223372036854775807) (hn : n ≠ 0) (h : EncL n l) : ∃ (P K q : Nat) (pv : List Int),
    l = numB (decide (n < 0)) (P : Int) pv ∧ Pairs pv ∧ pv.length = K ∧ K + q = P + 1 ∧ P ≤ 9 ∧ scI (pvI pv) q = (n.natAbs : Int) := by
  rcases h with ⟨h, _⟩ | ⟨t, hN, ht, hmod, hne, rfl⟩
  · exact absurd h hn
  · obtain ⟨N, hNN⟩ : ∃ N, N = n.natAbs := ⟨_, rfl⟩
    rw [← hNN] at hN ht hmod hne ⊢
    obtain ⟨D, hD⟩ : ∃ D, D = Lib.nDigits N := ⟨_, rfl⟩
    have hD2 : D ≤ 19 := by rw [hD]; exact nDigits_le 18 N (by omega)
    rw [← hD] at ht ⊢
    obtain ⟨m, hm⟩ : ∃ m, m = D - t := ⟨_, rfl⟩
    rw [← hm]
    generalize hneg : decide (n < 0) = neg
    have hdl : (digI (N / 10 ^ t) m).length = m := digI_length _ _
    have hf := dig_first N D t m hD ht hm hN
    have hlast : (digI (N / 10 ^ t) m).getD ((digI (N / 10 ^ t) m).length - 1) 0 ≠ 48 := by
      rw [hdl, digI_at _ _ _ (by omega), show m - 1 - (m - 1) = 0 by omega, Nat.pow_zero, Nat.div_one]
      omega
    have hp := pairs_of ((D : Int) - 1) (digI (N / 10 ^ t) m) (digI_digit _ _) (by omega) (by omega) hf hlast
    have hel : (evenL ((D : Int) - 1) (digI (N / 10 ^ t) m)).length = m + (if ((D : Int) - 1) % 2 = 0 then 1 else 0) := by rw [evenL_length, hdl]
    have hdv : dvI (evenL ((D : Int) - 1) (digI (N / 10 ^ t) m)) = ((N / 10 ^ t : Nat) : Int) := by
      rw [dvI_even, dvI_digI, Nat.mod_eq_of_lt]
      have h2 : N < 10 ^ D := by rw [hD]; exact Lib.lt_pow_nDigits N
      refine (Nat.div_lt_iff_lt_mul (Nat.pow_pos (by decide))).2 ?_
      rw [← Nat.pow_add, show m + t = D by omega]
      exact h2
    have hM : N / 10 ^ t * 10 ^ t = N := by
      have := Nat.div_add_mod N (10 ^ t)
      rw [hmod, Nat.add_zero, Nat.mul_comm] at this
      exact this
    have hMI : ((N / 10 ^ t : Nat) : Int) * 10 ^ t = (N : Int) := by
      have : (((N / 10 ^ t * 10 ^ t : Nat)) : Int) = (N : Int) := by rw [hM]
      rw [Int.natCast_mul, Int.natCast_pow] at this
      exact this
    have e : numL (digI (N / 10 ^ t) m) neg ((D : Int) - 1) = numB neg (((D - 1) / 2 : Nat) : Int) (prs (evenL ((D : Int) - 1) (digI (N / 10 ^ t) m))) := by
      have h20 : (prs (evenL ((D : Int) - 1) (digI (N / 10 ^ t) m))).length < 20 := by
        rw [prs_length, hel]; split <;> omega
      have e1 : headB neg ((D : Int) - 1) = if neg then 62 - (((D - 1) / 2 : Nat) : Int) else 193 + (((D - 1) / 2 : Nat) : Int) := by
        unfold headB
        cases neg
        · simp only [Bool.false_eq_true, if_false]; omega
        · simp only [if_true]; omega
      unfold numL numB tailL
      generalize prs (evenL ((D : Int) - 1) (digI (N / 10 ^ t) m)) = pv at h20
      rw [e1]
      cases neg <;> simp [h20]
    rw [e]
    generalize evenL ((D : Int) - 1) (digI (N / 10 ^ t) m) = L at *
    generalize N / 10 ^ t = M at *
    have hpl := prs_length L
    by_cases hpar : L.length % 2 = 0
    · have hv := pvI_even (L.length / 2) L (by omega)
      obtain ⟨q, hq⟩ : ∃ q, t = 2 * q := ⟨t / 2, by split at hel <;> omega⟩
      refine ⟨(D - 1) / 2, (prs L).length, q, prs L, rfl, hp, rfl, by split at hel <;> omega, by omega, ?_⟩
      rw [scI_pow, hv, hdv, pow100I, ← hq, hMI]
    · have hv := pvI_odd (L.length / 2) L (by omega)
      obtain ⟨q, hq⟩ : ∃ q, t = 2 * q + 1 := ⟨t / 2, by split at hel <;> omega⟩
      refine ⟨(D - 1) / 2, (prs L).length, q, prs L, rfl, hp, rfl, by split at hel <;> omega, by omega, ?_⟩
      rw [scI_pow, hv, hdv, pow100I, Int.mul_assoc, Int.mul_comm 10, ← Int.pow_succ, show (2 * q).succ = t by omega, hMI]
end Go.Proofs.YtcdbnjhkjfimkaaDoor
