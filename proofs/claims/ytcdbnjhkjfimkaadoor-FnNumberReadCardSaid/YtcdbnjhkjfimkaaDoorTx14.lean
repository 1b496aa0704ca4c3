/-
  Plain laws: a number's text tells its digits and its exponent.
-/
import Derived.Test.YtcdbnjhkjfimkaaDoorTx13
import Derived.Test.YtcdbnjhkjfimkaaDoorTx12
import Derived.Test.YtcdbnjhkjfimkaaDoorTx10
namespace Go.Proofs.YtcdbnjhkjfimkaaDoor
open Go Go.RowKit

/-- All pairs but the last one in two letters each, then the last one: the letters. -/
theorem pairs_letters : ∀ l : List Int, (∀ x ∈ l, IsDigit x) → 1 ≤ l.length → l.getD (l.length - 1) 0 ≠ 48 → twoL ((prs l).take ((prs l).length - 1)) ++ lastT ((prs l).getD ((prs l).length - 1) 0) = l
  | [], _, h, _ => by simp at h
  | [a], hd, _, _ => by
    have ha := hd a (by simp)
    unfold IsDigit at ha
    simp only [prs, List.length_cons, List.length_nil, Nat.zero_add, Nat.sub_self, List.take_zero, List.getD_cons_zero]
    unfold lastT oneL
    rw [if_pos (by omega), if_pos (by omega), show 10 * (a - 48) / 10 = a - 48 by omega, show 48 + (a - 48) = a by omega]
    rfl
  | [a, b], hd, _, hl => by
    have ha := hd a (by simp)
    have hb := hd b (by simp)
    unfold IsDigit at ha hb
    have hb2 : b ≠ 48 := hl
    simp only [prs, List.length_cons, List.length_nil, Nat.zero_add, Nat.sub_self, List.take_zero, List.getD_cons_zero]
    unfold lastT two
    rw [if_neg (by omega), show (10 * (a - 48) + (b - 48)) / 10 = a - 48 by omega, show (10 * (a - 48) + (b - 48)) % 10 = b - 48 by omega, show 48 + (a - 48) = a by omega, show 48 + (b - 48) = b by omega]
    rfl
  | a :: b :: c :: r, hd, _, hl => by
    have ha := hd a (by simp)
    have hb := hd b (by simp)
    unfold IsDigit at ha hb
    have ih := pairs_letters (c :: r) (fun x hx => hd x (by simp only [List.mem_cons] at hx ⊢; exact .inr (.inr hx))) (by simp) (by
      have e : (a :: b :: c :: r).length - 1 = ((c :: r).length - 1) + 1 + 1 := by simp
      rw [e, List.getD_cons_succ, List.getD_cons_succ] at hl
      exact hl)
    have hk : 1 ≤ (prs (c :: r)).length := by rw [prs_length]; simp; omega
    have e1 : (prs (a :: b :: c :: r)) = (10 * (a - 48) + (b - 48)) :: prs (c :: r) := rfl
    obtain ⟨k, hk2⟩ : ∃ k, (prs (c :: r)).length = k + 1 := ⟨(prs (c :: r)).length - 1, by omega⟩
    rw [hk2] at ih
    rw [e1, List.length_cons, hk2]
    simp only [Nat.add_sub_cancel, List.take_succ_cons, List.getD_cons_succ] at ih ⊢
    rw [show twoL ((10 * (a - 48) + (b - 48)) :: (prs (c :: r)).take k) = two (10 * (a - 48) + (b - 48)) ++ twoL ((prs (c :: r)).take k) from rfl, List.append_assoc, ih]
    unfold two
    rw [show (10 * (a - 48) + (b - 48)) / 10 = a - 48 by omega, show (10 * (a - 48) + (b - 48)) % 10 = b - 48 by omega, show 48 + (a - 48) = a by omega, show 48 + (b - 48) = b by omega]
    rfl
/-- The shape of a decimal text: its letters, and where its digits stand. -/
structure Shape (neg : Bool) (ds : List Int) (e : Int) (T : List Int) (A B : List Int) (pt : Bool) (z t : Nat) : Prop where
  text : T = (if neg then [45] else []) ++ bodyT A B pt
  hA : ∀ x ∈ A, IsDigit x
  hB : ∀ x ∈ B, IsDigit x
  a1 : 1 ≤ A.length
  a2 : A.length ≤ 200
  b2 : B.length ≤ 200
  dig : digT A B pt = List.replicate z 0 ++ ds ++ List.replicate t 0
  exp : (A.length : Int) - 1 - (z : Int) = e
theorem strip_of (z t : Nat) (ds : List Int) (h1 : 1 ≤ ds.length) (hf : ds.getD 0 0 ≠ 0) (hl : ds.getD (ds.length - 1) 0 ≠ 0) : Strip (List.replicate z 0 ++ ds ++ List.replicate t 0) z ds.length ∧ ((List.replicate z 0 ++ ds ++ List.replicate t 0).drop z).take ds.length = ds := by
  have hmid : ∀ i, i < ds.length → (List.replicate z (0 : Int) ++ ds ++ List.replicate t 0).getD (z + i) 0 = ds.getD i 0 := fun i hi => by
    rw [List.append_assoc, List.getD_eq_getElem?_getD, List.getElem?_append_right (by simp), List.length_replicate, Nat.add_sub_cancel_left, List.getElem?_append_left hi, ← List.getD_eq_getElem?_getD]
  refine ⟨⟨h1, by simp, fun i hi => ?_, ?_, ?_, fun i hi hi2 => ?_⟩, ?_⟩
  · rw [List.append_assoc, List.getD_eq_getElem?_getD, List.getElem?_append_left (by simpa using hi), List.getElem?_replicate, if_pos hi]
    rfl
  · have := hmid 0 (by omega)
    rw [Nat.add_zero] at this
    rw [this]; exact hf
  · rw [show z + ds.length - 1 = z + (ds.length - 1) by omega, hmid _ (by omega)]; exact hl
  · rw [List.getD_eq_getElem?_getD, List.getElem?_append_right (by simp; omega), List.getElem?_replicate]
    split <;> rfl
  · rw [List.append_assoc, List.drop_append_of_le_length (by simp), List.drop_of_length_le (by simp), List.nil_append, List.take_append_of_le_length (Nat.le_refl _), List.take_of_length_le (Nat.le_refl _)]
theorem letters_of (ds : List Int) (h : ∀ x ∈ ds, 0 ≤ x ∧ x ≤ 9) : ∀ x ∈ ds.map (· + 48), IsDigit x := fun x hx => by
  obtain ⟨y, hy, rfl⟩ := List.mem_map.1 hx
  have := h y hy
  unfold IsDigit
  show 48 ≤ y + 48 ∧ y + 48 ≤ 57
  omega
theorem back_of (ds : List Int) : (ds.map (· + 48)).map (· - 48) = ds := by
  rw [List.map_map]
  conv => rhs; rw [← List.map_id ds]
  exact List.map_congr_left fun x _ => by simp
theorem get_map48 (ds : List Int) (i : Nat) (h : i < ds.length) : (ds.map (· + 48)).getD i 0 = ds.getD i 0 + 48 := by
  rw [List.getD_eq_getElem?_getD, List.getElem?_map, List.getElem?_eq_getElem h, List.getD_eq_getElem?_getD, List.getElem?_eq_getElem h]
  rfl
theorem digit48 : IsDigit 48 := by unfold IsDigit; omega
theorem two_digit (p : Int) (h : 0 ≤ p ∧ p ≤ 99) : ∀ x ∈ two p, IsDigit x := fun x hx => by
  unfold two at hx
  unfold IsDigit
  rcases List.mem_cons.1 hx with rfl | hx
  · omega
  · rw [List.mem_singleton] at hx; omega
theorem one_digit (p : Int) (h : 0 ≤ p ∧ p ≤ 99) : ∀ x ∈ oneL p, IsDigit x := fun x hx => by
  unfold oneL at hx
  split at hx
  · rw [List.mem_singleton] at hx; unfold IsDigit; omega
  · exact two_digit p h x hx
theorem last_digit (p : Int) (h : 0 ≤ p ∧ p ≤ 99) : ∀ x ∈ lastT p, IsDigit x := fun x hx => by
  unfold lastT at hx
  split at hx
  · exact one_digit (p / 10) (by omega) x hx
  · exact two_digit p h x hx
theorem twoL_digit (l : List Int) (h : ∀ x ∈ l, 0 ≤ x ∧ x ≤ 99) : ∀ x ∈ twoL l, IsDigit x := fun x hx => by
  unfold twoL at hx
  obtain ⟨p, hp, hx⟩ := List.mem_flatMap.1 hx
  exact two_digit p (h p hp) x hx
/-- The first pair in as few letters as it has. -/
theorem first_letters (e : Int) (L : List Int) (h : ∀ x ∈ L, IsDigit x) (hl : 1 ≤ L.length) (hf : L.getD 0 0 ≠ 48) : two ((prs (evenL e L)).getD 0 0) = (if e % 2 = 0 then [48] else []) ++ oneL ((prs (evenL e L)).getD 0 0) := by
  cases L with
  | nil => simp at hl
  | cons a r =>
    have ha := h a (by simp)
    have ha2 : a ≠ 48 := hf
    unfold IsDigit at ha
    unfold evenL
    by_cases he : e % 2 = 0
    · rw [if_pos he, if_pos he]
      simp only [prs, List.getD_cons_zero]
      unfold oneL two
      rw [if_pos (by omega), show (10 * (48 - 48) + (a - 48)) / 10 = 0 by omega, show (10 * (48 - 48) + (a - 48)) % 10 = 10 * (48 - 48) + (a - 48) by omega]
      rfl
    · rw [if_neg he, if_neg he]
      have hp : 10 ≤ (prs (a :: r)).getD 0 0 := by
        cases r with
        | nil => simp only [prs, List.getD_cons_zero]; omega
        | cons b r =>
          have hb := h b (by simp)
          unfold IsDigit at hb
          simp only [prs, List.getD_cons_zero]; omega
      unfold oneL
      rw [if_neg (by omega)]
      rfl
theorem prs_bounds (l : List Int) (h : ∀ x ∈ l, IsDigit x) : ∀ x ∈ prs l, 0 ≤ x ∧ x ≤ 99 := prs_mem l h
/-- The text of a number, and its shape. -/
theorem shape_ex (neg : Bool) (ds : List Int) (e : Int) (hd : ∀ x ∈ ds, 0 ≤ x ∧ x ≤ 9) (h1 : 1 ≤ ds.length) (h2 : ds.length ≤ 38) (hf : ds.getD 0 0 ≠ 0) (hl : ds.getD (ds.length - 1) 0 ≠ 0) (he0 : -60 ≤ e) (he1 : e ≤ 60) :
    ∃ T A B pt z t, TextIs (numB neg (e / 2) (prs (evenL e (ds.map (· + 48))))) T ∧ Shape neg ds e T A B pt z t := by
  obtain ⟨L, hL⟩ : ∃ L, L = ds.map (· + 48) := ⟨_, rfl⟩
  have hLd : ∀ x ∈ L, IsDigit x := by rw [hL]; exact letters_of ds hd
  have hLl : L.length = ds.length := by rw [hL]; simp
  have hLf : L.getD 0 0 ≠ 48 := by rw [hL, get_map48 _ _ (by omega)]; omega
  have hLz : L.getD (L.length - 1) 0 ≠ 48 := by rw [hLl, hL, get_map48 _ _ (by omega)]; omega
  have hback : L.map (· - 48) = ds := by rw [hL]; exact back_of ds
  rw [← hL]
  have hp := pairs_of e L hLd (by omega) (by omega) hLf hLz
  obtain ⟨pv, hpv⟩ : ∃ pv, pv = prs (evenL e L) := ⟨_, rfl⟩
  have hEd := evenL_digit e L hLd
  have hEl := evenL_length e L
  have hpl : pv.length = (L.length + (if e % 2 = 0 then 1 else 0) + 1) / 2 := by rw [hpv, prs_length, hEl]
  have hpm : ∀ x ∈ pv, 0 ≤ x ∧ x ≤ 99 := by rw [hpv]; exact prs_mem _ hEd
  have hEz : (evenL e L).getD ((evenL e L).length - 1) 0 ≠ 48 := by
    rw [hEl]
    unfold evenL
    split
    · rw [show L.length + 1 - 1 = (L.length - 1) + 1 by omega, List.getD_cons_succ]; exact hLz
    · exact hLz
  have hall := pairs_letters (evenL e L) hEd (by omega) hEz
  have hfirst := first_letters e L hLd (by omega) hLf
  rw [← hpv] at hp hall hfirst ⊢
  have hK1 := hp.2.1
  have hK2 := hp.2.2.1
  have hsg : ∀ A B : List Int, ∀ pt, bodyT A B pt = A ++ if pt then 46 :: B else [] := fun _ _ _ => rfl
  by_cases hc : (pv.length : Int) ≤ e / 2 + 1
  · -- the last pair stands ahead of the point
    obtain ⟨P, hP⟩ : ∃ P : Nat, e / 2 = (P : Int) := ⟨(e / 2).toNat, by omega⟩
    have hbd := body_digits e L hLd (by omega) hLf
    rw [← hpv] at hbd
    rw [hP]
    refine ⟨_, bodyL pv ++ List.replicate (2 * (P + 1 - pv.length)) 48, [], false, 0, (if (evenL e L).length % 2 = 1 then 1 else 0) + 2 * (P + 1 - pv.length), textIs_whole neg P pv hp (by omega) (by omega), ?_⟩
    have hA : bodyL pv ++ List.replicate (2 * (P + 1 - pv.length)) 48 = L ++ List.replicate ((if (evenL e L).length % 2 = 1 then 1 else 0) + 2 * (P + 1 - pv.length)) 48 := by
      rw [hbd, List.append_assoc]
      congr 1
      split
      · rw [show [(48 : Int)] = List.replicate 1 48 from rfl, List.replicate_append_replicate]
      · rw [Nat.zero_add]; rfl
    refine ⟨by unfold wholeL bodyT; simp, ?_, fun x hx => (by cases hx), ?_, ?_, by simp, ?_, ?_⟩
    · rw [hA]
      intro x hx
      rcases List.mem_append.1 hx with h | h
      · exact hLd x h
      · rw [(List.mem_replicate.1 h).2]; exact digit48
    · rw [hA, List.length_append]; omega
    · rw [hA, List.length_append, List.length_replicate]; split <;> omega
    · rw [hA]
      unfold digT
      simp only [Bool.false_eq_true, if_false, List.append_nil]
      rw [List.map_append, hback, List.map_replicate]
      rfl
    · rw [hA, List.length_append, List.length_replicate, hEl]
      split at hpl
      · rename_i h0
        rw [if_pos h0]
        split <;> omega
      · rename_i h0
        rw [if_neg h0]
        split <;> omega
  · by_cases hq : 0 ≤ e / 2
    · -- the point stands within the pairs
      obtain ⟨P, hP⟩ : ∃ P : Nat, e / 2 = (P : Int) := ⟨(e / 2).toNat, by omega⟩
      rw [hP]
      have hK : 2 ≤ pv.length := by omega
      have htext : TextIs (numB neg (P : Int) pv) (innerT neg pv (P + 1)) := fun w g c hcc hlc => by
        have hn : NumIs w g (numB neg (P : Int) pv).length neg (P : Int) pv := ⟨rfl, hcc⟩
        by_cases h0 : P = 0
        · cases neg
          · exact toBytes_in1_false g _ c _ P pv w hn hp rfl hlc (P + 1) rfl (by omega) (by omega)
          · exact toBytes_in1_true g _ c _ P pv w hn hp rfl hlc (P + 1) rfl (by omega) (by omega)
        · cases neg
          · exact toBytes_in2_false g _ c _ P pv w hn hp rfl hlc (P + 1) rfl (by omega) (by omega)
          · exact toBytes_in2_true g _ c _ P pv w hn hp rfl hlc (P + 1) rfl (by omega) (by omega)
      have hsplit : twoL (pv.take (pv.length - 1)) = two (pv.getD 0 0) ++ twoL ((pv.drop 1).take (pv.length - 2)) := by
        cases hpc : pv with
        | nil => rw [hpc] at hK; simp at hK
        | cons x r =>
          obtain ⟨k, hk⟩ : ∃ k, r.length = k + 1 := ⟨r.length - 1, by rw [hpc] at hK; simp at hK; omega⟩
          simp only [List.length_cons, Nat.add_sub_cancel, List.getD_cons_zero, List.drop_succ_cons, List.drop_zero]
          rw [hk, List.take_succ_cons, show k + 1 + 1 - 2 = k by omega]
          rfl
      have hL2 : oneL (pv.getD 0 0) ++ twoL ((pv.drop 1).take (pv.length - 2)) ++ lastT (pv.getD (pv.length - 1) 0) = L := by
        rw [hsplit, hfirst] at hall
        unfold evenL at hall
        by_cases h0 : e % 2 = 0
        · rw [if_pos h0, if_pos h0] at hall
          simpa using hall
        · rw [if_neg h0, if_neg h0] at hall
          simpa using hall
      have hcut : twoL ((pv.drop 1).take (pv.length - 2)) = twoL ((pv.drop 1).take P) ++ twoL ((pv.drop (P + 1)).take (pv.length - 2 - P)) := by
        unfold twoL
        rw [← List.flatMap_append]
        congr 1
        have h3 : (pv.drop 1).take (pv.length - 2) = (pv.drop 1).take (P + (pv.length - 2 - P)) := by rw [show P + (pv.length - 2 - P) = pv.length - 2 by omega]
        rw [h3, List.take_add, List.drop_drop, Nat.add_comm 1 P]
      refine ⟨_, oneL (pv.getD 0 0) ++ twoL ((pv.drop 1).take P), twoL ((pv.drop (P + 1)).take (pv.length - 2 - P)) ++ lastT (pv.getD (pv.length - 1) 0), true, 0, 0, htext, ?_⟩
      have hAB : (oneL (pv.getD 0 0) ++ twoL ((pv.drop 1).take P)) ++ (twoL ((pv.drop (P + 1)).take (pv.length - 2 - P)) ++ lastT (pv.getD (pv.length - 1) 0)) = L := by
        rw [← hL2, hcut]
        simp only [List.append_assoc]
      have hg0 := hp.at 0 (by omega)
      have hgl := hp.at (pv.length - 1) (by omega)
      have hAB2 := congrArg List.length hAB
      rw [List.length_append] at hAB2
      have ho := oneL_len (pv.getD 0 0)
      refine ⟨?_, ?_, ?_, ?_, ?_, ?_, ?_, ?_⟩
      · unfold innerT tbT bodyT
        rw [if_pos (show P + 1 ≤ 1 + (pv.length - 2) from by omega), Nat.add_sub_cancel, Nat.min_eq_right (by omega), show pv.length - 2 + 1 - (P + 1) = pv.length - 2 - P by omega]
        simp
      · intro x hx
        rcases List.mem_append.1 hx with h | h
        · exact one_digit _ hg0 x h
        · exact twoL_digit _ (fun y hy => hpm y (List.mem_of_mem_drop (List.mem_of_mem_take hy))) x h
      · intro x hx
        rcases List.mem_append.1 hx with h | h
        · exact twoL_digit _ (fun y hy => hpm y (List.mem_of_mem_drop (List.mem_of_mem_take hy))) x h
        · exact last_digit _ hgl x h
      · rw [List.length_append]; omega
      · omega
      · omega
      · unfold digT
        simp only [if_true]
        rw [hAB, hback]
        simp
      · have hol : (oneL (pv.getD 0 0)).length = 2 - (if e % 2 = 0 then 1 else 0) := by
          have := congrArg List.length hfirst
          rw [List.length_append] at this
          simp only [two, List.length_cons, List.length_nil] at this
          by_cases h0 : e % 2 = 0
          · rw [if_pos h0] at this ⊢
            simp only [List.length_cons, List.length_nil] at this
            omega
          · rw [if_neg h0] at this ⊢
            simp only [List.length_nil] at this
            omega
        rw [List.length_append, hol, twoL_len, List.length_take, List.length_drop]
        by_cases h0 : e % 2 = 0
        · rw [if_pos h0]; omega
        · rw [if_neg h0]; omega
    · -- the point stands ahead of all pairs
      obtain ⟨q, hqq⟩ : ∃ q : Nat, e / 2 = -((q : Int) + 1) := ⟨(-(e / 2) - 1).toNat, by omega⟩
      rw [hqq]
      have htext : TextIs (numB neg (-((q : Int) + 1)) pv) (smallT neg pv q) := fun w g c hcc hlc => by
        have hn : NumIs w g (numB neg (-((q : Int) + 1)) pv).length neg (-((q : Int) + 1)) pv := ⟨rfl, hcc⟩
        cases neg
        · exact toBytes_lo_false g _ c _ q pv w hn hp rfl (by omega) hlc
        · exact toBytes_lo_true g _ c _ q pv w hn hp rfl (by omega) hlc
      have hgl := hp.at (pv.length - 1) (by omega)
      have hBe : List.replicate (2 * q) 48 ++ twoL (pv.take (pv.length - 1)) ++ lastT (pv.getD (pv.length - 1) 0) = List.replicate (2 * q + (if e % 2 = 0 then 1 else 0)) 48 ++ L := by
        rw [List.append_assoc, hall]
        unfold evenL
        by_cases h0 : e % 2 = 0
        · rw [if_pos h0, if_pos h0, List.replicate_succ']
          simp
        · rw [if_neg h0, if_neg h0, Nat.add_zero]
      refine ⟨_, [48], List.replicate (2 * q) 48 ++ twoL (pv.take (pv.length - 1)) ++ lastT (pv.getD (pv.length - 1) 0), true, 1 + (2 * q + (if e % 2 = 0 then 1 else 0)), 0, htext, ?_⟩
      refine ⟨?_, ?_, ?_, by simp, by simp, ?_, ?_, ?_⟩
      · unfold smallT bodyT
        simp
      · intro x hx
        rw [List.mem_singleton] at hx
        rw [hx]; exact digit48
      · rw [hBe]
        intro x hx
        rcases List.mem_append.1 hx with h | h
        · rw [(List.mem_replicate.1 h).2]; exact digit48
        · exact hLd x h
      · rw [hBe, List.length_append, List.length_replicate]
        split <;> omega
      · unfold digT
        simp only [if_true]
        rw [hBe, List.map_append, List.map_append, hback, List.map_replicate, Nat.add_comm 1, List.replicate_succ]
        simp
      · simp only [List.length_cons, List.length_nil]
        split <;> omega
end Go.Proofs.YtcdbnjhkjfimkaaDoor
