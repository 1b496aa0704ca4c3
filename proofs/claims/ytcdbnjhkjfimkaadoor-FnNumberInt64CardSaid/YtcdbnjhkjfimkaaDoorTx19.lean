/-
  toInt64Internal: an integer of 64 bits lies between the bounds, byte for byte.
-/
import Derived.Test.YtcdbnjhkjfimkaaDoorTx18
namespace Go.Proofs.YtcdbnjhkjfimkaaDoor
open Go Go.RowKit

theorem pv_fold : ∀ (l : List Int) (a : Int), l.foldl (fun a x => a * 100 + x) a = a * 100 ^ l.length + pvI l
  | [], a => by simp [pvI]
  | x :: l, a => by
    have h1 := pv_fold l (a * 100 + x)
    have h2 := pv_fold l (0 * 100 + x)
    rw [List.foldl_cons, h1]
    unfold pvI at h2 ⊢
    rw [List.foldl_cons, h2, List.length_cons, Int.pow_succ, Int.add_mul, Int.add_mul, Int.mul_assoc, Int.mul_comm (100 : Int)]
    simp
    omega
theorem pvI_cons (x : Int) (l : List Int) : pvI (x :: l) = x * 100 ^ l.length + pvI l := by
  have h := pv_fold l x
  unfold pvI at h ⊢
  rw [List.foldl_cons]
  simpa using h
theorem pvI_lt : ∀ l : List Int, (∀ x ∈ l, 0 ≤ x ∧ x ≤ 99) → 0 ≤ pvI l ∧ pvI l < 100 ^ l.length
  | [], _ => by simp [pvI]
  | x :: l, h => by
    have hx := h x (by simp)
    have ih := pvI_lt l (fun y hy => h y (by simp [hy]))
    rw [pvI_cons, List.length_cons, Int.pow_succ]
    have hp : (0 : Int) < 100 ^ l.length := Int.pow_pos (by decide)
    generalize (100 : Int) ^ l.length = p at *
    have h1 : x * p ≤ 99 * p := Int.mul_le_mul_of_nonneg_right hx.2 (by omega)
    have h2 : 0 ≤ x * p := Int.mul_nonneg hx.1 (by omega)
    omega
/-- The order of bytes of pairs, each plus one, is that of the numbers. -/
theorem lex_up : ∀ ps qs : List Int, ps.length ≤ qs.length → (∀ x ∈ ps, 0 ≤ x ∧ x ≤ 99) → (∀ x ∈ qs, 0 ≤ x ∧ x ≤ 99) → cmpL (ps.map (· + 1)) (qs.map (· + 1)) = 1 → pvI qs < pvI ps * 100 ^ (qs.length - ps.length)
  | [], [], _, _, _, h => by cases h
  | [], _ :: _, _, _, _, h => by cases h
  | _ :: _, [], h, _, _, _ => by simp at h
  | x :: ps, y :: qs, hl, hp, hq, h => by
    have hl2 : ps.length ≤ qs.length := by simpa using hl
    have hps := pvI_lt ps (fun z hz => hp z (by simp [hz]))
    have hqs := pvI_lt qs (fun z hz => hq z (by simp [hz]))
    have e : (y :: qs).length - (x :: ps).length = qs.length - ps.length := by simp
    have epow : (100 : Int) ^ ps.length * 100 ^ (qs.length - ps.length) = 100 ^ qs.length := by rw [← Int.pow_add]; congr 1; omega
    rw [e, pvI_cons, pvI_cons, Int.add_mul, Int.mul_assoc, epow]
    simp only [List.map_cons, cmpL] at h
    have hr : (0 : Int) < 100 ^ (qs.length - ps.length) := Int.pow_pos (by decide)
    have hn : 0 ≤ pvI ps * 100 ^ (qs.length - ps.length) := Int.mul_nonneg hps.1 (by omega)
    split at h
    · rename_i hxy
      have ih := lex_up ps qs hl2 (fun z hz => hp z (by simp [hz])) (fun z hz => hq z (by simp [hz])) h
      obtain rfl : x = y := by omega
      omega
    · split at h
      · cases h
      · have hxy : y + 1 ≤ x := by omega
        have h1 : (y + 1) * 100 ^ qs.length ≤ x * 100 ^ qs.length := Int.mul_le_mul_of_nonneg_right hxy (Int.le_of_lt (Int.pow_pos (by decide)))
        rw [Int.add_mul, Int.one_mul] at h1
        omega
theorem lex_down : ∀ ps qs : List Int, ps.length ≤ qs.length → (∀ x ∈ ps, 0 ≤ x ∧ x ≤ 99) → (∀ x ∈ qs, 0 ≤ x ∧ x ≤ 99) → cmpL (ps.map (101 - ·) ++ [102]) (qs.map (101 - ·) ++ [102]) = -1 → pvI qs < pvI ps * 100 ^ (qs.length - ps.length)
  | [], [], _, _, _, h => by simp [cmpL] at h
  | [], y :: qs, _, _, hq, h => by
    have hy := hq y (by simp)
    simp only [List.map_nil, List.nil_append, List.map_cons, List.cons_append, cmpL] at h
    rw [if_neg (by omega), if_neg (by omega)] at h
    cases h
  | _ :: _, [], h, _, _, _ => by simp at h
  | x :: ps, y :: qs, hl, hp, hq, h => by
    have hl2 : ps.length ≤ qs.length := by simpa using hl
    have hps := pvI_lt ps (fun z hz => hp z (by simp [hz]))
    have hqs := pvI_lt qs (fun z hz => hq z (by simp [hz]))
    have e : (y :: qs).length - (x :: ps).length = qs.length - ps.length := by simp
    have epow : (100 : Int) ^ ps.length * 100 ^ (qs.length - ps.length) = 100 ^ qs.length := by rw [← Int.pow_add]; congr 1; omega
    rw [e, pvI_cons, pvI_cons, Int.add_mul, Int.mul_assoc, epow]
    simp only [List.map_cons, List.cons_append, cmpL] at h
    have hr : (0 : Int) < 100 ^ (qs.length - ps.length) := Int.pow_pos (by decide)
    have hn : 0 ≤ pvI ps * 100 ^ (qs.length - ps.length) := Int.mul_nonneg hps.1 (by omega)
    split at h
    · rename_i hxy
      have ih := lex_down ps qs hl2 (fun z hz => hp z (by simp [hz])) (fun z hz => hq z (by simp [hz])) h
      obtain rfl : x = y := by omega
      omega
    · split at h
      · have hxy : y + 1 ≤ x := by omega
        have h1 : (y + 1) * 100 ^ qs.length ≤ x * 100 ^ qs.length := Int.mul_le_mul_of_nonneg_right hxy (Int.le_of_lt (Int.pow_pos (by decide)))
        rw [Int.add_mul, Int.one_mul] at h1
        omega
      · cases h
theorem scI_pow (v : Int) : ∀ q, scI v q = v * 100 ^ q
  | 0 => by simp [scI]
  | q + 1 => by rw [scI, scI_pow v q, Int.pow_succ, Int.mul_assoc]
def maxP : List Int := [9, 22, 33, 72, 3, 68, 54, 77, 58, 7]
def minP : List Int := [9, 22, 33, 72, 3, 68, 54, 77, 58, 8]
def maxB : List Int := [202, 10, 23, 34, 73, 4, 69, 55, 78, 59, 8]
def minB : List Int := [53, 92, 79, 68, 29, 98, 33, 47, 24, 43, 93, 102]
theorem cmp_range : ∀ xs ys : List Int, cmpL xs ys = 0 ∨ cmpL xs ys = 1 ∨ cmpL xs ys = -1
  | [], [] => .inl rfl
  | [], _ :: _ => .inr (.inr rfl)
  | _ :: _, [] => .inr (.inl rfl)
  | x :: xs, y :: ys => by
    rw [cmpL]
    split
    · exact cmp_range xs ys
    · split
      · exact .inr (.inr rfl)
      · exact .inr (.inl rfl)
/-- An integer of 64 bits is no more than the greatest, and no less than the least. -/
theorem enc_bounds (neg : Bool) (P K q : Nat) (pv : List Int) (N : Int) (hp : Pairs pv) (hK : pv.length = K) (hq : K + q = P + 1) (hP : P ≤ 9) (hV : scI (pvI pv) q = N) (hN : N ≤ if neg then 9223372036854775808 else 9223372036854775807) :
    cmpL (numB neg (P : Int) pv) maxB ≤ 0 ∧ 0 ≤ cmpL (numB neg (P : Int) pv) minB := by
  have hmx : maxB = 202 :: maxP.map (· + 1) := by decide
  have hmn : minB = 53 :: (minP.map (101 - ·) ++ [102]) := by decide
  have vmx : pvI maxP = 9223372036854775807 := by decide +kernel
  have vmn : pvI minP = 9223372036854775808 := by decide +kernel
  have hK10 : K ≤ 10 := by omega
  cases neg
  · have e : numB false (P : Int) pv = (193 + (P : Int)) :: pv.map (· + 1) := by
      unfold numB
      simp [enc]
    rw [e]
    constructor
    · rw [hmx, cmpL]
      by_cases h9 : P = 9
      · rw [if_pos (by omega)]
        rcases cmp_range (pv.map (· + 1)) (maxP.map (· + 1)) with h | h | h
        · omega
        · exfalso
          have h1 := lex_up pv maxP (by rw [hK]; exact hK10) hp.1 (by decide) h
          rw [vmx, hK, show maxP.length - K = q by show 10 - K = q; omega, ← scI_pow, hV] at h1
          simp at hN
          omega
        · omega
      · rw [if_neg (by omega), if_pos (by omega)]
        decide
    · rw [hmn, cmpL, if_neg (by omega), if_neg (by omega)]
      decide
  · have e : numB true (P : Int) pv = (62 - (P : Int)) :: (pv.map (101 - ·) ++ [102]) := by
      unfold numB
      have : pv.length < 20 := by omega
      simp [enc, this]
    rw [e]
    constructor
    · rw [hmx, cmpL, if_neg (by omega), if_pos (by omega)]
      decide
    · rw [hmn, cmpL]
      by_cases h9 : P = 9
      · rw [if_pos (by omega)]
        rcases cmp_range (pv.map (101 - ·) ++ [102]) (minP.map (101 - ·) ++ [102]) with h | h | h
        · omega
        · omega
        · exfalso
          have h1 := lex_down pv minP (by rw [hK]; exact hK10) hp.1 (by decide) h
          rw [vmn, hK, show minP.length - K = q by show 10 - K = q; omega, ← scI_pow, hV] at h1
          simp at hN
          omega
      · rw [if_neg (by omega), if_neg (by omega)]
        decide
end Go.Proofs.YtcdbnjhkjfimkaaDoor
