/-
  FnNumberText: the law's own walk.
-/
import Derived.Test.YtcdbnjhkjfimkaaDoorTx5
namespace Go.Proofs.YtcdbnjhkjfimkaaDoor
open Go Go.RowKit

/-- Bytes as numbers. -/
def natI (l : List UInt8) : List Int := l.map fun b => (b.toNat : Int)
theorem strOf_bytes (l : List UInt8) : (strOfNums (natI l)).data.toList = l := by
  rw [strOfNums_data, natI, List.map_map]
  conv => rhs; rw [← List.map_id l]
  exact List.map_congr_left fun b _ => by simp
theorem prs_first (l : List Int) (h : ∀ x ∈ l, IsDigit x) (hl : 1 ≤ l.length) (hz : l.getD 0 0 ≠ 48 ∨ (2 ≤ l.length ∧ l.getD 1 0 ≠ 48)) : 1 ≤ (prs l).getD 0 0 := by
  have h1 := prs_at l 0 (by omega)
  have d0 := getD_digit h 0 (by omega)
  rw [h1]
  simp only [Nat.mul_zero, Nat.zero_add] at *
  by_cases hc : 1 < l.length
  · have d1 := getD_digit h 1 hc
    rw [if_pos hc]
    rcases hz with hz | ⟨_, hz⟩ <;> omega
  · rw [if_neg hc]
    rcases hz with hz | ⟨hz, _⟩ <;> omega
theorem prs_last (l : List Int) (h : ∀ x ∈ l, IsDigit x) (hl : 1 ≤ l.length) (hz : l.getD (l.length - 1) 0 ≠ 48) : 1 ≤ (prs l).getD ((prs l).length - 1) 0 := by
  rw [prs_length]
  have h1 := prs_at l ((l.length + 1) / 2 - 1) (by omega)
  rw [h1]
  by_cases hc : 2 * ((l.length + 1) / 2 - 1) + 1 < l.length
  · rw [if_pos hc]
    have d0 := getD_digit h (2 * ((l.length + 1) / 2 - 1)) (by omega)
    have d1 := getD_digit h (2 * ((l.length + 1) / 2 - 1) + 1) hc
    rw [show l.length - 1 = 2 * ((l.length + 1) / 2 - 1) + 1 by omega] at hz
    omega
  · rw [if_neg hc]
    have d0 := getD_digit h (2 * ((l.length + 1) / 2 - 1)) (by omega)
    rw [show l.length - 1 = 2 * ((l.length + 1) / 2 - 1) by omega] at hz
    omega
theorem evenL_digit (e : Int) (l : List Int) (h : ∀ x ∈ l, IsDigit x) : ∀ x ∈ evenL e l, IsDigit x := by
  unfold evenL
  split
  · intro x hx
    rcases List.mem_cons.1 hx with rfl | hx
    · unfold IsDigit; omega
    · exact h x hx
  · exact h
/-- The pairs of digits whose first and last one is not 0. -/
theorem pairs_of (e : Int) (l : List Int) (h : ∀ x ∈ l, IsDigit x) (hl : 1 ≤ l.length) (hl2 : l.length ≤ 38) (hf : l.getD 0 0 ≠ 48) (hz : l.getD (l.length - 1) 0 ≠ 48) : Pairs (prs (evenL e l)) := by
  have hd := evenL_digit e l h
  have hlen := evenL_length e l
  refine ⟨prs_mem _ hd, ?_, ?_, ?_, ?_⟩
  · rw [prs_length, hlen]; omega
  · rw [prs_length, hlen]; split <;> omega
  · refine prs_first _ hd (by omega) ?_
    unfold evenL
    split
    · exact .inr ⟨by simp; omega, by simpa using hf⟩
    · exact .inl hf
  · refine prs_last _ hd (by omega) ?_
    rw [hlen]
    unfold evenL
    split
    · rw [show l.length + 1 - 1 = (l.length - 1) + 1 by omega, List.getD_cons_succ]; exact hz
    · exact hz
theorem textIs_whole (neg : Bool) (P : Nat) (pv : List Int) (hp : Pairs pv) (h1 : pv.length ≤ P + 1) (h2 : P ≤ 60) : TextIs (numB neg (P : Int) pv) (wholeL neg P pv) := fun w g c hc hl => by
  have hn : NumIs w g (numB neg (P : Int) pv).length neg (P : Int) pv := ⟨rfl, hc⟩
  cases neg
  · exact toBytes_whole_false g _ c _ P pv w hn hp rfl h1 h2 hl
  · exact toBytes_whole_true g _ c _ P pv w hn hp rfl h1 h2 hl
theorem textIs_zero : TextIs [128] [48] := fun w g c hc _ => toBytes_zero g c w (hc 0 (by simp))
theorem dig_first (N D t m : Nat) (hD : D = Lib.nDigits N) (ht : t < D) (hm : m = D - t) (hN : 0 < N) : (digI (N / 10 ^ t) m).getD 0 0 ≠ 48 := by
  rw [digI_at _ _ _ (by omega)]
  have h1 : 10 ^ (D - 1) ≤ N := by
    rcases Nat.lt_or_ge N (10 ^ (D - 1)) with h | h
    · exfalso
      have := nDigits_min (D - 1) N hN h
      omega
    · exact h
  have h2 : N < 10 ^ D := by rw [hD]; exact Lib.lt_pow_nDigits N
  rw [div_div_pow, show t + (m - 1 - 0) = D - 1 by omega]
  have h3 : 1 ≤ N / 10 ^ (D - 1) := (Nat.le_div_iff_mul_le (Nat.pow_pos (by decide))).2 (by omega)
  have h4 : N / 10 ^ (D - 1) < 10 := (Nat.div_lt_iff_lt_mul (Nat.pow_pos (by decide))).2 (by rw [← Nat.pow_succ']; rw [show (D - 1).succ = D by omega]; exact h2)
  omega
/-- What the bytes of an integer are, and their text. -/
theorem enc_text (n : Int) (l : List Int) (h0 : -9223372036854775808 ≤ n) (h1 : n ≤ 9223372036854775807) (h : EncL n l) : 1 ≤ l.length ∧ l.length ≤ 30 ∧ ∃ T, TextIs l T ∧ (strOfNums T).data.toList = decT (decide (n < 0)) n.natAbs ∧ 1 ≤ T.length ∧ T.length ≤ 100 := by
  rcases h with ⟨rfl, rfl⟩ | ⟨t, hN, ht, hmod, hne, rfl⟩
  · refine ⟨by simp, by simp, [48], textIs_zero, ?_, by simp, by simp⟩
    have := strOf_bytes [48]
    rw [show ([48] : List Int) = natI [48] from rfl, this]
    unfold decT
    rw [dec_dgL]
    decide +kernel
  · obtain ⟨N, hNN⟩ : ∃ N, N = n.natAbs := ⟨_, rfl⟩
    rw [← hNN] at hN ht hmod hne ⊢
    obtain ⟨D, hD⟩ : ∃ D, D = Lib.nDigits N := ⟨_, rfl⟩
    have hD2 : D ≤ 19 := by rw [hD]; exact nDigits_le 18 N (by omega)
    rw [← hD] at ht ⊢
    obtain ⟨m, hm⟩ : ∃ m, m = D - t := ⟨_, rfl⟩
    rw [← hm]
    generalize hneg : decide (n < 0) = neg
    have hdl : (digI (N / 10 ^ t) m).length = m := digI_length _ _
    have hf := dig_first N D t m hD ht hm hN
    have hlast : (digI (N / 10 ^ t) m).getD ((digI (N / 10 ^ t) m).length - 1) 0 ≠ 48 := by
      rw [hdl, digI_at _ _ _ (by omega), show m - 1 - (m - 1) = 0 by omega, Nat.pow_zero, Nat.div_one]
      omega
    have hp := pairs_of ((D : Int) - 1) (digI (N / 10 ^ t) m) (digI_digit _ _) (by omega) (by omega) hf hlast
    have hpl : (prs (evenL ((D : Int) - 1) (digI (N / 10 ^ t) m))).length = (m + (if ((D : Int) - 1) % 2 = 0 then 1 else 0) + 1) / 2 := by rw [prs_length, evenL_length, hdl]
    have hpb : (prs (evenL ((D : Int) - 1) (digI (N / 10 ^ t) m))).length ≤ (D - 1) / 2 + 1 := by
      rw [hpl]; split <;> omega
    have e : numL (digI (N / 10 ^ t) m) neg ((D : Int) - 1) = numB neg (((D - 1) / 2 : Nat) : Int) (prs (evenL ((D : Int) - 1) (digI (N / 10 ^ t) m))) := by
      have h20 : (prs (evenL ((D : Int) - 1) (digI (N / 10 ^ t) m))).length < 20 := by omega
      have e1 : headB neg ((D : Int) - 1) = if neg then 62 - (((D - 1) / 2 : Nat) : Int) else 193 + (((D - 1) / 2 : Nat) : Int) := by
        unfold headB
        cases neg
        · simp only [Bool.false_eq_true, if_false]; omega
        · simp only [if_true]; omega
      unfold numL numB tailL
      generalize prs (evenL ((D : Int) - 1) (digI (N / 10 ^ t) m)) = pv at h20
      rw [e1]
      cases neg <;> simp [h20]
    have hb1 : (numB neg (((D - 1) / 2 : Nat) : Int) (prs (evenL ((D : Int) - 1) (digI (N / 10 ^ t) m)))).length ≤ 30 := by
      unfold numB
      rw [List.length_cons, List.length_append, List.length_map]
      split <;> simp <;> omega
    have hw := whole_text neg N D t m hD ht hm hmod hN
    have hs : wholeL neg ((D - 1) / 2) (prs (evenL ((D : Int) - 1) (digI (N / 10 ^ t) m))) = natI (decT neg N) := by
      rw [hw]
      unfold decT natI
      rw [dec_dgL, ← hD, List.map_append]
      cases neg <;> rfl
    rw [e]
    refine ⟨by unfold numB; simp, hb1, _, textIs_whole neg ((D - 1) / 2) _ hp hpb (by omega), ?_, ?_, ?_⟩
    · rw [hs, strOf_bytes]
    · rw [hw, List.length_append, digI_length]; omega
    · rw [hw, List.length_append, digI_length]; split <;> simp <;> omega
end Go.Proofs.YtcdbnjhkjfimkaaDoor
