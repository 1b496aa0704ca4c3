/-
  The address of a server in plain Lean: a host and a port are told by it.
-/
import Derived.Lib.ItoaNum
import Derived.Lib.ItoaMem
import Derived.Lib.Fold
import Derived.Lib.Case
namespace Go.Proofs.YtcdbnjhkjfimkaaDoor
open Go

theorem dec_rec (u : Nat) : Lib.decDigits u = if u < 10 then [UInt8.ofNat (48 + u)] else Lib.decDigits (u / 10) ++ [UInt8.ofNat (48 + u % 10)] := by
  rw [Lib.decDigits]
  by_cases h : u < 10
  · rw [dif_pos h, if_pos h]
  · rw [dif_neg h, if_neg h]
theorem digit_nat (d : Nat) (h : d < 10) : (UInt8.ofNat (48 + d)).toNat = 48 + d := by
  rw [UInt8.toNat_ofNat']; omega
theorem dec_digit (u : Nat) : ∀ c ∈ Lib.decDigits u, 48 ≤ c.toNat ∧ c.toNat ≤ 57 := by
  induction u using Nat.strongRecOn with
  | ind u ih =>
    intro c hc
    rw [dec_rec] at hc
    by_cases h : u < 10
    · rw [if_pos h] at hc
      simp only [List.mem_cons, List.not_mem_nil, or_false] at hc
      subst hc
      rw [digit_nat u h]; omega
    · rw [if_neg h] at hc
      rcases List.mem_append.1 hc with hc | hc
      · exact ih (u / 10) (by omega) c hc
      · simp only [List.mem_cons, List.not_mem_nil, or_false] at hc
        subst hc
        rw [digit_nat _ (Nat.mod_lt _ (by decide))]; omega
theorem dec_ne (u : Nat) : Lib.decDigits u ≠ [] := by
  rw [dec_rec]; split <;> simp
theorem dec_inj : ∀ u v, Lib.decDigits u = Lib.decDigits v → u = v := by
  intro u
  induction u using Nat.strongRecOn with
  | ind u ih =>
    intro v h
    rw [dec_rec u, dec_rec v] at h
    by_cases hu : u < 10
    · by_cases hv : v < 10
      · rw [if_pos hu, if_pos hv] at h
        have := congrArg UInt8.toNat (List.cons.inj h).1
        rw [digit_nat u hu, digit_nat v hv] at this
        omega
      · rw [if_pos hu, if_neg hv] at h
        have h1 := congrArg List.length h
        have h2 : 0 < (Lib.decDigits (v / 10)).length := List.length_pos_iff.2 (dec_ne _)
        simp only [List.length_append, List.length_cons, List.length_nil] at h1
        omega
    · by_cases hv : v < 10
      · rw [if_neg hu, if_pos hv] at h
        have h1 := congrArg List.length h
        have h2 : 0 < (Lib.decDigits (u / 10)).length := List.length_pos_iff.2 (dec_ne _)
        simp only [List.length_append, List.length_cons, List.length_nil] at h1
        omega
      · rw [if_neg hu, if_neg hv] at h
        obtain ⟨h1, h2⟩ := List.append_inj' h rfl
        have h3 := ih (u / 10) (by omega) (v / 10) h1
        have h4 := congrArg UInt8.toNat (List.cons.inj h2).1
        rw [digit_nat _ (Nat.mod_lt _ (by decide)), digit_nat _ (Nat.mod_lt _ (by decide))] at h4
        omega
theorem itoa_digit (n : Int) : ∀ c ∈ Lib.itoa n, c.toNat = 45 ∨ 48 ≤ c.toNat ∧ c.toNat ≤ 57 := fun c hc => by
  unfold Lib.itoa at hc
  split at hc
  · rcases List.mem_cons.1 hc with rfl | hc
    · exact .inl rfl
    · exact .inr (dec_digit _ c hc)
  · exact .inr (dec_digit _ c hc)
theorem itoa_inj (m n : Int) (h : Lib.itoa m = Lib.itoa n) : m = n := by
  unfold Lib.itoa at h
  by_cases hm : m < 0
  · by_cases hn : n < 0
    · rw [if_pos hm, if_pos hn] at h
      have := dec_inj _ _ (List.cons.inj h).2
      omega
    · rw [if_pos hm, if_neg hn] at h
      have : (45 : UInt8) ∈ Lib.decDigits n.toNat := by rw [← h]; simp
      have := dec_digit _ _ this
      simp at this
  · by_cases hn : n < 0
    · rw [if_neg hm, if_pos hn] at h
      have : (45 : UInt8) ∈ Lib.decDigits m.toNat := by rw [h]; simp
      have := dec_digit _ _ this
      simp at this
    · rw [if_neg hm, if_neg hn] at h
      have := dec_inj _ _ h
      omega
theorem itoa_colon (n : Int) : (58 : UInt8) ∉ Lib.itoa n := fun h => by
  have := itoa_digit n _ h
  simp at this
/-- What the address of a server says. -/
def netL (a : List UInt8) (p : Int) : List UInt8 := if 58 ∈ a then 91 :: (a ++ 93 :: 58 :: Lib.itoa p) else a ++ 58 :: Lib.itoa p
theorem last_colon {α : Type} (c : α) : ∀ (x y d e : List α), x ++ c :: d = y ++ c :: e → c ∉ d → c ∉ e → x = y ∧ d = e
  | [], [], d, e, h, _, _ => ⟨rfl, (List.cons.inj h).2⟩
  | [], y :: ys, d, e, h, hd, _ => by
    obtain ⟨_, h2⟩ := List.cons.inj h
    exact absurd (by rw [h2]; simp) hd
  | x :: xs, [], d, e, h, _, he => by
    obtain ⟨_, h2⟩ := List.cons.inj h
    exact absurd (by rw [← h2]; simp) he
  | x :: xs, y :: ys, d, e, h, hd, he => by
    obtain ⟨h1, h2⟩ := List.cons.inj h
    obtain ⟨h3, h4⟩ := last_colon c xs ys d e h2 hd he
    exact ⟨by rw [h1, h3], h4⟩
theorem netL_eq (a : List UInt8) (p : Int) : ∃ x, netL a p = x ++ 58 :: Lib.itoa p ∧ x = if 58 ∈ a then 91 :: (a ++ [93]) else a := by
  unfold netL
  split
  · exact ⟨91 :: (a ++ [93]), by simp, rfl⟩
  · exact ⟨a, rfl, rfl⟩
theorem netL_inj (a b : List UInt8) (p q : Int) : netL a p = netL b q ↔ a = b ∧ p = q := by
  constructor
  · intro h
    obtain ⟨x, hx, ex⟩ := netL_eq a p
    obtain ⟨y, hy, ey⟩ := netL_eq b q
    rw [hx, hy] at h
    obtain ⟨h1, h2⟩ := last_colon (58 : UInt8) x y _ _ h (itoa_colon p) (itoa_colon q)
    refine ⟨?_, itoa_inj _ _ h2⟩
    rw [ex, ey] at h1
    by_cases ha : 58 ∈ a
    · by_cases hb : 58 ∈ b
      · rw [if_pos ha, if_pos hb] at h1
        exact (List.append_inj' (List.cons.inj h1).2 rfl).1
      · rw [if_pos ha, if_neg hb] at h1
        exact absurd (by rw [← h1]; simp [ha]) hb
    · by_cases hb : 58 ∈ b
      · rw [if_neg ha, if_pos hb] at h1
        exact absurd (by rw [h1]; simp [hb]) ha
      · rw [if_neg ha, if_neg hb] at h1
        exact h1
  · rintro ⟨rfl, rfl⟩
    rfl
/-- Whether two hosts are one but for the letters' case, as the package asks. -/
def hostEq (a b : List UInt8) : Bool := Lib.equalFold (Lib.toUpperA a) (Lib.toUpperA b)
set_option maxRecDepth 100000 in
theorem fold_upper (x y : UInt8) : Lib.foldEq (Lib.upperB x) (Lib.upperB y) = decide (Lib.upperB x = Lib.upperB y) := by
  have key : ∀ b : UInt8, ¬ (97 ≤ (Lib.upperB b).toNat ∧ (Lib.upperB b).toNat ≤ 122) := by
    intro b
    have : ∀ i : Fin 256, ¬ (97 ≤ (Lib.upperB (UInt8.ofNat i.val)).toNat ∧ (Lib.upperB (UInt8.ofNat i.val)).toNat ≤ 122) := by decide
    have h := this ⟨b.toNat, b.toNat_lt⟩
    simpa using h
  have kx := key x
  have ky := key y
  unfold Lib.foldEq
  have e : (Lib.upperB x = Lib.upperB y) ↔ (Lib.upperB x).toNat = (Lib.upperB y).toNat := ⟨fun h => by rw [h], fun h => UInt8.toNat_inj.1 h⟩
  rw [decide_eq_decide, e]
  omega
theorem hostEq_iff : ∀ a b, hostEq a b = true ↔ Lib.toUpperA a = Lib.toUpperA b
  | [], [] => by simp [hostEq, Lib.toUpperA, Lib.equalFold]
  | [], y :: ys => by simp [hostEq, Lib.toUpperA, Lib.equalFold]
  | x :: xs, [] => by simp [hostEq, Lib.toUpperA, Lib.equalFold]
  | x :: xs, y :: ys => by
    have ih := hostEq_iff xs ys
    unfold hostEq Lib.toUpperA at ih ⊢
    simp only [List.map_cons, Lib.equalFold, fold_upper, Bool.and_eq_true, decide_eq_true_eq, List.cons.injEq, ih]
theorem hostEq_trans {a b c : List UInt8} (h : hostEq a b = true) (k : hostEq b c = true) : hostEq a c = true :=
  (hostEq_iff a c).2 (((hostEq_iff a b).1 h).trans ((hostEq_iff b c).1 k))
end Go.Proofs.YtcdbnjhkjfimkaaDoor
