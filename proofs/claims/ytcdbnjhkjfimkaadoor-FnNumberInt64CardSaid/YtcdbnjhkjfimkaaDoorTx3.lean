/-
  Plain laws: the text of a number's pairs is its decimal digits.
-/
import Derived.Test.YtcdbnjhkjfimkaaDoorTx0
namespace Go.Proofs.YtcdbnjhkjfimkaaDoor
open Go Go.RowKit

theorem two_prs : ∀ l : List Int, (∀ x ∈ l, IsDigit x) → twoL (prs l) = l ++ (if l.length % 2 = 1 then [48] else [])
  | [], _ => rfl
  | [a], h => by
    have ha := h a (by simp)
    unfold IsDigit at ha
    simp only [prs, twoL, List.flatMap_cons, List.flatMap_nil, List.append_nil, two, List.length_cons, List.length_nil]
    rw [show 10 * (a - 48) / 10 = a - 48 by omega, show 10 * (a - 48) % 10 = 0 by omega, show 48 + (a - 48) = a by omega]
    simp
  | a :: b :: r, h => by
    have ha := h a (by simp)
    have hb := h b (by simp)
    unfold IsDigit at ha hb
    have ih := two_prs r (fun x hx => h x (by simp [hx]))
    simp only [prs, twoL, List.flatMap_cons, two] at ih ⊢
    rw [ih, show (10 * (a - 48) + (b - 48)) / 10 = a - 48 by omega, show (10 * (a - 48) + (b - 48)) % 10 = b - 48 by omega, show 48 + (a - 48) = a by omega, show 48 + (b - 48) = b by omega]
    simp only [List.length_cons, show (r.length + 1 + 1) % 2 = r.length % 2 by omega, List.cons_append, List.nil_append]
/-- The letters of pairs: the first pair without its nought ahead. -/
def bodyL (pv : List Int) : List Int := oneL (pv.getD 0 0) ++ twoL (pv.drop 1)
theorem body_plain (a : Int) (r : List Int) (h : ∀ x ∈ a :: r, IsDigit x) (ha : a ≠ 48) : bodyL (prs (a :: r)) = twoL (prs (a :: r)) := by
  have h1 := h a (by simp)
  unfold IsDigit at h1
  cases r with
  | nil =>
    simp only [prs, bodyL, twoL, List.getD_cons_zero, List.drop_succ_cons, List.drop_zero, List.flatMap_cons, List.flatMap_nil, List.append_nil]
    unfold oneL
    rw [if_neg (by omega)]
  | cons b r =>
    have h2 := h b (by simp)
    unfold IsDigit at h2
    simp only [prs, bodyL, twoL, List.getD_cons_zero, List.drop_succ_cons, List.drop_zero, List.flatMap_cons]
    unfold oneL
    rw [if_neg (by omega)]
theorem body_zero (b : Int) (r : List Int) (h : ∀ x ∈ b :: r, IsDigit x) : bodyL (prs (48 :: b :: r)) = (twoL (prs (48 :: b :: r))).drop 1 := by
  have h2 := h b (by simp)
  unfold IsDigit at h2
  simp only [prs, bodyL, twoL, List.getD_cons_zero, List.drop_succ_cons, List.drop_zero, List.flatMap_cons, two]
  unfold oneL
  rw [if_pos (by omega), show (10 * (48 - 48) + (b - 48)) % 10 = b - 48 by omega]
  simp only [List.cons_append, List.nil_append, List.drop_succ_cons, List.drop_zero]
  rw [show 10 * (48 - 48) + (b - 48) = b - 48 by omega]
/-- The letters of the pairs of digits: the digits, and a nought, if the pairs want one. -/
theorem body_digits (e : Int) (l : List Int) (h : ∀ x ∈ l, IsDigit x) (hl : 1 ≤ l.length) (hf : l.getD 0 0 ≠ 48) : bodyL (prs (evenL e l)) = l ++ (if (evenL e l).length % 2 = 1 then [48] else []) := by
  have h48 : IsDigit 48 := by unfold IsDigit; omega
  unfold evenL
  by_cases he : e % 2 = 0
  · rw [if_pos he]
    cases l with
    | nil => simp at hl
    | cons b r =>
      rw [body_zero b r h, two_prs (48 :: b :: r) (fun x hx => by
        rcases List.mem_cons.1 hx with rfl | hx
        · exact h48
        · exact h x hx)]
      rfl
  · rw [if_neg he]
    cases l with
    | nil => simp at hl
    | cons b r => rw [body_plain b r h hf, two_prs _ h]
theorem evenL_length (e : Int) (l : List Int) : (evenL e l).length = l.length + if e % 2 = 0 then 1 else 0 := by
  unfold evenL; split <;> simp
/-- Digits behind which noughts stand. -/
theorem digI_zeros (N L : Nat) : ∀ t, t ≤ L → N % 10 ^ t = 0 → digI N L = digI (N / 10 ^ t) (L - t) ++ List.replicate t 48 := by
  intro t ht hm
  apply List.ext_getElem
  · simp [digI_length]; omega
  · intro i h1 h2
    have g1 := digI_at N L i (by simpa [digI_length] using h1)
    rw [List.getD_eq_getElem?_getD, List.getElem?_eq_getElem h1] at g1
    simp only [Option.getD_some] at g1
    rw [g1]
    have hi : i < L := by simpa [digI_length] using h1
    by_cases hc : i < L - t
    · rw [List.getElem_append_left (by rw [digI_length]; exact hc)]
      have g2 := digI_at (N / 10 ^ t) (L - t) i hc
      rw [List.getD_eq_getElem?_getD, List.getElem?_eq_getElem (by rw [digI_length]; exact hc)] at g2
      simp only [Option.getD_some] at g2
      rw [g2, div_div_pow, show t + (L - t - 1 - i) = L - 1 - i by omega]
    · rw [List.getElem_append_right (by rw [digI_length]; omega)]
      rw [List.getElem_replicate]
      have hk : L - 1 - i < t := by omega
      obtain ⟨q, hq⟩ : ∃ q, N = 10 ^ t * q := ⟨N / 10 ^ t, by have := Nat.div_add_mod N (10 ^ t); omega⟩
      have hz : N / 10 ^ (L - 1 - i) % 10 = 0 := by
        rw [hq, show t = (L - 1 - i) + (t - (L - 1 - i) - 1 + 1) by omega, Nat.pow_add, Nat.mul_assoc, Nat.mul_div_cancel_left _ (Nat.pow_pos (by decide)), Nat.pow_succ, Nat.mul_assoc, Nat.mul_comm, Nat.mul_assoc]
        exact Nat.mul_mod_right 10 _
      rw [hz]
      rfl
/-- The text of a number whose last pair does not stand behind the point. -/
def wholeL (neg : Bool) (P : Nat) (pv : List Int) : List Int := (if neg then [45] else []) ++ bodyL pv ++ List.replicate (2 * (P + 1 - pv.length)) 48
theorem whole_text (neg : Bool) (N D t m : Nat) (hD : D = Lib.nDigits N) (ht : t < D) (hm : m = D - t) (hmod : N % 10 ^ t = 0) (hN : 0 < N) :
    wholeL neg ((D - 1) / 2) (prs (evenL ((D : Int) - 1) (digI (N / 10 ^ t) m))) = (if neg then [45] else []) ++ digI N D := by
  have hf : (digI (N / 10 ^ t) m).getD 0 0 ≠ 48 := by
    rw [digI_at _ _ _ (by omega)]
    have h1 : 10 ^ (D - 1) ≤ N := by
      have hlt := Lib.lt_pow_nDigits N
      rcases Nat.lt_or_ge N (10 ^ (D - 1)) with h | h
      · exfalso
        have := nDigits_min (D - 1) N hN h
        omega
      · exact h
    have h2 : N < 10 ^ D := by rw [hD]; exact Lib.lt_pow_nDigits N
    rw [div_div_pow, show t + (m - 1 - 0) = D - 1 by omega]
    have h3 : 1 ≤ N / 10 ^ (D - 1) := (Nat.le_div_iff_mul_le (Nat.pow_pos (by decide))).2 (by omega)
    have h4 : N / 10 ^ (D - 1) < 10 := (Nat.div_lt_iff_lt_mul (Nat.pow_pos (by decide))).2 (by rw [← Nat.pow_succ']; rw [show (D - 1).succ = D by omega]; exact h2)
    omega
  unfold wholeL
  rw [List.append_assoc]
  congr 1
  rw [body_digits _ _ (digI_digit _ _) (by rw [digI_length]; omega) hf, digI_zeros N D t (by omega) hmod, ← hm, List.append_assoc]
  congr 1
  rw [prs_length, evenL_length, digI_length]
  by_cases he : ((D : Int) - 1) % 2 = 0
  · rw [if_pos he]
    by_cases ho : (m + 1) % 2 = 1
    · rw [if_pos ho, show [(48 : Int)] = List.replicate 1 48 from rfl, List.replicate_append_replicate, show 1 + 2 * ((D - 1) / 2 + 1 - (m + 1 + 1) / 2) = t by omega]
    · rw [if_neg ho, List.nil_append, show 2 * ((D - 1) / 2 + 1 - (m + 1 + 1) / 2) = t by omega]
  · rw [if_neg he, Nat.add_zero]
    by_cases ho : m % 2 = 1
    · rw [if_pos ho, show [(48 : Int)] = List.replicate 1 48 from rfl, List.replicate_append_replicate, show 1 + 2 * ((D - 1) / 2 + 1 - (m + 1) / 2) = t by omega]
    · rw [if_neg ho, List.nil_append, show 2 * ((D - 1) / 2 + 1 - (m + 1) / 2) = t by omega]
end Go.Proofs.YtcdbnjhkjfimkaaDoor
