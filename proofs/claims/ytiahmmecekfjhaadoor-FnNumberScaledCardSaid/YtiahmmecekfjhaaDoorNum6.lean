/-
  FnNumberTens: an integer and the same one with pairs of noughts behind it.
-/
import Derived.Test.YtiahmmecekfjhaaDoorNum5
namespace Go.Proofs.YtiahmmecekfjhaaDoor
open Go Go.RowKit

theorem nDigits_ten (x : Nat) (hx : 0 < x) : ∀ j, Lib.nDigits (x * 10 ^ j) = Lib.nDigits x + j
  | 0 => by simp
  | j + 1 => by
    have h1 : 0 < x * 10 ^ j := Nat.mul_pos hx (Nat.pow_pos (by decide))
    rw [Nat.pow_succ, ← Nat.mul_assoc, Lib.nDigits_big (show ¬ x * 10 ^ j * 10 < 10 by omega), Nat.mul_div_cancel _ (by decide), nDigits_ten x hx j, Nat.add_assoc]
theorem tz_unique {q s t : Nat} (hq : q % 10 ≠ 0) (h1 : (q * 10 ^ s) % 10 ^ t = 0) (h2 : (q * 10 ^ s) / 10 ^ t % 10 ≠ 0) : t = s := by
  rcases Nat.lt_trichotomy t s with h | h | h
  · exfalso
    apply h2
    obtain ⟨d, rfl⟩ : ∃ d, s = t + (d + 1) := ⟨s - t - 1, by omega⟩
    rw [Nat.pow_add, Nat.mul_comm (10 ^ t), ← Nat.mul_assoc, Nat.mul_div_cancel _ (Nat.pow_pos (by decide)), Nat.pow_succ, ← Nat.mul_assoc, Nat.mul_mod_left]
  · exact h
  · exfalso
    apply hq
    obtain ⟨d, rfl⟩ : ∃ d, t = s + (d + 1) := ⟨t - s - 1, by omega⟩
    rw [Nat.pow_add, Nat.mul_comm q, Nat.mul_mod_mul_left] at h1
    have h3 := (Nat.mul_eq_zero.1 h1).resolve_left (Nat.ne_of_gt (Nat.pow_pos (by decide)))
    exact Nat.mod_eq_zero_of_dvd (Nat.dvd_trans ⟨10 ^ d, by rw [Nat.pow_succ, Nat.mul_comm]⟩ (Nat.dvd_of_mod_eq_zero h3))
theorem pow100 (k : Nat) : 100 ^ k = 10 ^ (2 * k) := by rw [Nat.pow_mul]
theorem tens_abs (n : Int) (k : Nat) : (n * 100 ^ k).natAbs = n.natAbs * 10 ^ (2 * k) := by
  rw [Int.natAbs_mul, Int.natAbs_pow, show (100 : Int).natAbs = 100 from rfl, pow100]
theorem tens_bound (n : Int) (h0 : -1000000 < n) (h1 : n < 1000000) (k : Nat) (hk : k ≤ 5) : -10000000000000000 < n * 100 ^ k ∧ n * 100 ^ k < 10000000000000000 := by
  have : k = 0 ∨ k = 1 ∨ k = 2 ∨ k = 3 ∨ k = 4 ∨ k = 5 := by omega
  rcases this with rfl | rfl | rfl | rfl | rfl | rfl <;> omega
theorem tens_zero {l : List Int} (h : EncL 0 l) : l = [128] := by
  rcases h with ⟨_, h⟩ | ⟨_, h, _⟩
  · exact h
  · simp at h

/-- Two forms whose tails are the same, and whose exponents differ by k. -/
theorem tens_forms {n m : Int} {k : Nat} {la lb : List Int} (hn : n ≠ 0) (hm : m = n * 100 ^ k) (ha : EncL n la) (hb : EncL m lb) :
    ∃ (xs : List Int) (e : Int), 1 ≤ xs.length ∧ 0 ≤ e ∧ (Lib.nDigits n.natAbs : Int) = e + 1 ∧ la = headB (decide (n < 0)) e :: xs ∧ lb = headB (decide (n < 0)) (e + 2 * k) :: xs := by
  have hN : 0 < n.natAbs := by omega
  rcases ha with ⟨h, _⟩ | ⟨t, _, a1, a2, a3, rfl⟩
  · exact absurd h hn
  have hab : m.natAbs = n.natAbs * 10 ^ (2 * k) := by rw [hm, tens_abs]
  have hM : 0 < m.natAbs := by rw [hab]; exact Nat.mul_pos hN (Nat.pow_pos (by decide))
  rcases hb with ⟨h, _⟩ | ⟨t', _, _, b2, b3, rfl⟩
  · omega
  have hs : decide (m < 0) = decide (n < 0) := by
    have hp : (0 : Int) < 100 ^ k := Int.pow_pos (by decide)
    have : (m < 0) ↔ (n < 0) := by
      rw [hm]
      constructor
      · intro h
        rcases Int.lt_or_le n 0 with h1 | h1
        · exact h1
        · exact absurd (Int.mul_nonneg h1 (Int.le_of_lt hp)) (by omega)
      · intro h
        exact Int.mul_neg_of_neg_of_pos h hp
    simp [this]
  have hq : n.natAbs = n.natAbs / 10 ^ t * 10 ^ t := by
    have := Nat.div_add_mod n.natAbs (10 ^ t)
    rw [a2, Nat.add_zero, Nat.mul_comm] at this
    exact this.symm
  have hM2 : m.natAbs = n.natAbs / 10 ^ t * 10 ^ (t + 2 * k) := by rw [hab, Nat.pow_add, ← Nat.mul_assoc, ← hq]
  rw [hM2] at b2 b3
  have ht := tz_unique a3 b2 b3
  have hd : Lib.nDigits m.natAbs = Lib.nDigits n.natAbs + 2 * k := by rw [hab, nDigits_ten _ hN]
  have h1 := Lib.nDigits_pos n.natAbs
  have htl : 1 ≤ (tailL (decide (n < 0)) (evenL ((Lib.nDigits n.natAbs : Int) - 1) (digI (n.natAbs / 10 ^ t) (Lib.nDigits n.natAbs - t)))).length := by
    unfold tailL evenL
    rw [List.length_append, List.length_map, prs_length]
    split
    · rw [List.length_cons, digI_length]
      omega
    · rw [digI_length]
      omega
  refine ⟨_, (Lib.nDigits n.natAbs : Int) - 1, htl, by omega, by omega, rfl, ?_⟩
  have hdiv : m.natAbs / 10 ^ t' = n.natAbs / 10 ^ t := by rw [ht, hM2, Nat.mul_div_cancel _ (Nat.pow_pos (by decide))]
  rw [hdiv, hs, hd, show Lib.nDigits n.natAbs + 2 * k - t' = Lib.nDigits n.natAbs - t by omega, show ((Lib.nDigits n.natAbs + 2 * k : Nat) : Int) - 1 = ((Lib.nDigits n.natAbs : Int) - 1) + 2 * k by omega]
  unfold numL evenL
  rw [show (((Lib.nDigits n.natAbs : Int) - 1) + 2 * k) % 2 = ((Lib.nDigits n.natAbs : Int) - 1) % 2 by omega]
theorem tens_heads {neg : Bool} {e : Int} {k : Nat} (h0 : 0 ≤ e) (h1 : e ≤ 20) (hk : k ≤ 5) : (0 ≤ headB neg e ∧ headB neg e < 256) ∧ (0 ≤ headB neg (e + 2 * k) ∧ headB neg (e + 2 * k) < 256) ∧ (neg = false → headB neg (e + 2 * k) - headB neg e = k) ∧ (neg = true → headB neg e - headB neg (e + 2 * k) = k) := by
  unfold headB
  cases neg
  · simp only [Bool.false_eq_true, if_false]
    exact ⟨⟨by omega, by omega⟩, ⟨by omega, by omega⟩, fun _ => by omega, fun h => absurd h (by decide)⟩
  · simp only [if_true]
    exact ⟨⟨by omega, by omega⟩, ⟨by omega, by omega⟩, fun h => absurd h (by decide), fun _ => by omega⟩

set_option maxRecDepth 100000 in
set_option maxHeartbeats 4000000 in
theorem tens_zero_ (n0 : Int) (k0 : Int) (k : Nat) (hr : n0.tmod 1000000 = 0) (hk0 : k0 % 6 = (k : Int)) (z0 : 0 ≤ k0) (z1 : k0 < 256) (hk : k ≤ 5) (w : World) (ht : Tab w) :
    Calls Tryd.prog 3 #[.int .i64 n0, .int .u8 k0] w fun r w' => r = .returned (.bool true) ∧ Kp w w' := by
  have C := Lib.hid (fun n h0 h1 w ht => numberOf_any n h0 h1 w ht)
  have CA := Lib.hid (fun w ht => numberAwake_any w ht)
  have HT := Lib.hid ht
  have i0 : (k : Int) ≤ 5 := by omega
  have HB := Lib.hid hk
  clear ht
  go_enter Tryd.func3, Tryd.ntmps3
  go_wp2
  go_loopg [6, 16] k (fun g a b wr => ∃ j : Nat, j ≤ k ∧ g = k - j ∧ a = .int .i64 (0) ∧ b = .int .i64 (j : Int) ∧ w = wr)
  case atStart => exact ⟨0, Nat.zero_le _, rfl, rfl, rfl, rfl⟩
  case round =>
    obtain ⟨j, hj, rfl, rfl, rfl, rfl⟩ := hrel
    by_cases hlt : j < k
    · have i1 : (j : Int) < (k : Int) := by omega
      go_wp2
      go_roundg (k - (j + 1))
      case measure => omega
      case rel => first | exact ⟨j + 1, by omega, rfl, rfl, by simp, rfl⟩ | ((repeat apply Exists.intro); exact ⟨⟨j + 1, by omega, rfl, rfl, by simp, rfl⟩, rfl⟩)
    · have q0 : j = k := by omega
      subst q0
      have i1 : ¬ (j : Int) < (j : Int) := by omega
      go_wp2_with fail
      refine (C.out 0 (by omega) (by omega) _ HT.out).mono ?_
      rintro r w1 ⟨v, la, rfl, hown, hka, hla⟩
      have HKA := Lib.hid hka
      have HLA := Lib.hid hla
      have HOA := Lib.hid hown
      clear hown hka hla
      go_wp2_with fail
      refine (C.out 0 (by omega) (by omega) _ (HT.out.kp HKA.out)).mono ?_
      rintro r w2 ⟨v2, lb, rfl, hown, hkb, hlb⟩
      have HKB := Lib.hid hkb
      have HOB := Lib.hid hown
      have HK2 := Lib.hid (HKA.out.trans hkb)
      have ea := tens_zero HLA.out
      have eb := tens_zero hlb
      subst ea eb
      obtain ⟨ga, ca, rfl, _, _, hina⟩ := own_pos HOA.out (by decide)
      obtain ⟨gb, cb, rfl, _, _, hinb⟩ := own_pos HOB.out (by decide)
      have HA := Lib.hid (bin_kp hina HKB.out)
      have HBB := Lib.hid hinb
      clear hown hkb hlb hina hinb HOA HOB HLA
      go_wp2_with fail
      refine (numberSame_same _ _ _ _ 1 _ _ [128] _ rfl HA.out HBB.out).mono ?_
      rintro r w3 ⟨rfl, rfl⟩
      go_wp2_with fail
      refine (CA.out _ (HT.out.kp HK2.out)).mono ?_
      rintro r w3 ⟨rfl, hk3⟩
      have HK3 := Lib.hid (HK2.out.trans hk3)
      clear hk3
      go_wp2
      go_ret
      exact ⟨rfl, HK3.out⟩

set_option maxRecDepth 100000 in
set_option maxHeartbeats 4000000 in
theorem tens_pos (n0 n : Int) (k0 : Int) (k : Nat) (hr : n0.tmod 1000000 = n) (hk0 : k0 % 6 = (k : Int)) (z0 : 0 ≤ k0) (z1 : k0 < 256) (hn0 : -1000000 < n) (hn1 : n < 1000000) (hk : k ≤ 5) (hs : 0 < n) (w : World) (ht : Tab w) :
    Calls Tryd.prog 3 #[.int .i64 n0, .int .u8 k0] w fun r w' => r = .returned (.bool true) ∧ Kp w w' := by
  have C := Lib.hid (fun n h0 h1 w ht => numberOf_any n h0 h1 w ht)
  have CA := Lib.hid (fun w ht => numberAwake_any w ht)
  have HT := Lib.hid ht
  have i0 : (k : Int) ≤ 5 := by omega
  have HB := Lib.hid (tens_bound n hn0 hn1)
  have j0 : (n == 0) = false := by
    simp
    omega
  have j1 : decide (0 < n) = true := by simpa using hs
  clear ht
  go_enter Tryd.func3, Tryd.ntmps3
  go_wp2
  go_loopg [6, 16] k (fun g a b wr => ∃ j : Nat, j ≤ k ∧ g = k - j ∧ a = .int .i64 (n * 100 ^ j) ∧ b = .int .i64 (j : Int) ∧ w = wr)
  case atStart => exact ⟨0, Nat.zero_le _, rfl, by simp, rfl, rfl⟩
  case round =>
    obtain ⟨j, hj, rfl, rfl, rfl, rfl⟩ := hrel
    have b1 := HB.out j (by omega)
    have HP := Lib.hid (show n * 100 ^ (j + 1) = n * 100 ^ j * 100 by rw [Int.pow_succ, Int.mul_assoc])
    by_cases hlt : j < k
    · have i1 : (j : Int) < (k : Int) := by omega
      have b2 := HB.out (j + 1) (by omega)
      rw [HP.out] at b2
      have HP2 := HP
      generalize n * 100 ^ j = y at *
      clear HP
      go_wp2
      go_roundg (k - (j + 1))
      case measure => omega
      case rel => first | exact ⟨j + 1, by omega, rfl, by rw [HP2.out], by simp, rfl⟩ | ((repeat apply Exists.intro); exact ⟨⟨j + 1, by omega, rfl, by rw [HP2.out], by simp, rfl⟩, rfl⟩)
    · have q0 : j = k := by omega
      subst q0
      have i1 : ¬ (j : Int) < (j : Int) := by omega
      obtain ⟨m, hm⟩ : ∃ m, m = n * 100 ^ j := ⟨_, rfl⟩
      have HM := Lib.hid hm
      rw [← hm] at b1
      rw [← hm]
      clear HP hm
      go_wp2_with fail
      refine (C.out n (by omega) (by omega) _ HT.out).mono ?_
      rintro r w1 ⟨v, la, rfl, hown, hka, hla⟩
      have HKA := Lib.hid hka
      have HLA := Lib.hid hla
      have HOA := Lib.hid hown
      clear hown hka hla
      go_wp2_with fail
      refine (C.out m (by omega) (by omega) _ (HT.out.kp HKA.out)).mono ?_
      rintro r w2 ⟨v2, lb, rfl, hown, hkb, hlb⟩
      have HKB := Lib.hid hkb
      have HOB := Lib.hid hown
      have HK2 := Lib.hid (HKA.out.trans hkb)
      obtain ⟨xs, e, hxl, he0, he1, ea, eb⟩ := tens_forms (show n ≠ 0 by omega) HM.out HLA.out hlb
      have hd19 : Lib.nDigits n.natAbs ≤ 19 := nDigits_le 18 _ (by omega)
      have hh := tens_heads (neg := decide (n < 0)) (k := j) he0 (by omega) hk
      have hng : decide (n < 0) = false := by
        simp
        omega
      rw [hng] at ea eb hh
      generalize headB false e = x at *
      generalize headB false (e + 2 * (j : Int)) = y at *
      obtain ⟨⟨hx0, hx1⟩, ⟨hy0, hy1⟩, hp, hq⟩ := hh
      have j2 : y - x = (j : Int) := hp rfl
      obtain ⟨q, hq1⟩ : ∃ q, xs.length + 1 = q := ⟨_, rfl⟩
      subst ea eb
      obtain ⟨ga, ca, rfl, hca, hma, hina⟩ := own_pos HOA.out (by simp)
      obtain ⟨gb, cb, rfl, hcb, hmb, hinb⟩ := own_pos HOB.out (by simp)
      simp only [List.length_cons, hq1] at hca hcb hina hinb ⊢
      have hina2 := bin_kp hina HKB.out
      have HA := Lib.hid (show Lib.BytesIn w2 (some ⟨ga, 1, none⟩) (q - 1) xs from by have h := bin_sub hina2 1 (q - 1) (by omega); simpa [List.take_of_length_le (show xs.length ≤ q - 1 by omega)] using h)
      have HBB := Lib.hid (show Lib.BytesIn w2 (some ⟨gb, 1, none⟩) (q - 1) xs from by have h := bin_sub hinb 1 (q - 1) (by omega); simpa [List.take_of_length_le (show xs.length ≤ q - 1 by omega)] using h)
      have HXL := Lib.hid (show xs.length = q - 1 by omega)
      have ca0 : w2.cell? ⟨ga, 0, none⟩ = some (.int .u8 x) := bin_at hina2 0 (by omega)
      have cb0 : w2.cell? ⟨gb, 0, none⟩ = some (.int .u8 y) := bin_at hinb 0 (by omega)
      have q1 : 2 ≤ q := by omega
      have q4 : 2 ≤ ca := by omega
      have q5 : 2 ≤ cb := by omega
      have q6 : (ca = 1) = False := by simp; omega
      have q7 : (cb = 1) = False := by simp; omega
      have q2 : (1 : Int) ≤ (q : Int) := by omega
      have q8 : (0 : Int) < (q : Int) := by omega
      have q9 : 0 < q := by omega
      have q3 : ((q : Int) == 0) = false := by
        simp
        omega
      have j3 : (y - x == (j : Int)) = true := by simpa using j2
      unfold maxLen at hma hmb
      clear hown hkb hlb hina hina2 hinb HOA HOB HLA hp hq he0 he1 hd19 hng hq1 hxl
      go_wp2_with fail
      go_quiet ((go_at_call 12; exact Calls.quiet_of_same ((numberSame_same _ _ _ _ _ _ _ xs _ HXL.out (by exact HA.out) (by exact HBB.out)).mono fun _ _ h => ⟨h.1, h.2.symm⟩)))
      go_wp2_with fail
      have HKq := Lib.hid (HK2.out.drewN nq)
      have HTq := Lib.hid (HT.out.kp HKq.out)
      have wy : IntKind.i64.wrap y = y := by
        rw [IntKind.wrap_i64]
        omega
      have wx : IntKind.i64.wrap x = x := by
        rw [IntKind.wrap_i64]
        omega
      have wj : IntKind.i64.wrap (j : Int) = (j : Int) := by
        rw [IntKind.wrap_i64]
        omega
      have ca1 : (w2.drewN nq).cell? ⟨ga, 0, none⟩ = some (.int .u8 x) := ca0
      have cb1 : (w2.drewN nq).cell? ⟨gb, 0, none⟩ = some (.int .u8 y) := cb0
      generalize w2.drewN nq = w3 at *
      clear ca0 cb0 HA HBB
      go_region_held3 (fun w' => w'.cell? ⟨ga, 0, none⟩ = some (.int .u8 x) ∧ w'.cell? ⟨gb, 0, none⟩ = some (.int .u8 y)) (first | with_reducible exact ⟨ca1, cb1⟩ | go_keep)
        (first
          | (go_at_call 13; refine (CA.out _ (by exact HTq.out)).mono ?_; rintro e w4 ⟨rfl, hk4⟩; have HK4 := Lib.hid (HKq.out.drew.trans hk4); have ca1 := below_some hk4 (a := ⟨ga, 0, none⟩) (v := .int .u8 x) (by exact ca1); have cb1 := below_some hk4 (a := ⟨gb, 0, none⟩) (v := .int .u8 y) (by exact cb1); clear hk4))
      all_goals
        go_wp2_with fail
        go_ret
        exact ⟨rfl, HK4.out⟩

set_option maxRecDepth 100000 in
set_option maxHeartbeats 4000000 in
theorem tens_neg (n0 n : Int) (k0 : Int) (k : Nat) (hr : n0.tmod 1000000 = n) (hk0 : k0 % 6 = (k : Int)) (z0 : 0 ≤ k0) (z1 : k0 < 256) (hn0 : -1000000 < n) (hn1 : n < 1000000) (hk : k ≤ 5) (hs : n < 0) (w : World) (ht : Tab w) :
    Calls Tryd.prog 3 #[.int .i64 n0, .int .u8 k0] w fun r w' => r = .returned (.bool true) ∧ Kp w w' := by
  have C := Lib.hid (fun n h0 h1 w ht => numberOf_any n h0 h1 w ht)
  have CA := Lib.hid (fun w ht => numberAwake_any w ht)
  have HT := Lib.hid ht
  have i0 : (k : Int) ≤ 5 := by omega
  have HB := Lib.hid (tens_bound n hn0 hn1)
  have j0 : (n == 0) = false := by
    simp
    omega
  have j1 : decide (0 < n) = false := by
    simp
    omega
  clear ht
  go_enter Tryd.func3, Tryd.ntmps3
  go_wp2
  go_loopg [6, 16] k (fun g a b wr => ∃ j : Nat, j ≤ k ∧ g = k - j ∧ a = .int .i64 (n * 100 ^ j) ∧ b = .int .i64 (j : Int) ∧ w = wr)
  case atStart => exact ⟨0, Nat.zero_le _, rfl, by simp, rfl, rfl⟩
  case round =>
    obtain ⟨j, hj, rfl, rfl, rfl, rfl⟩ := hrel
    have b1 := HB.out j (by omega)
    have HP := Lib.hid (show n * 100 ^ (j + 1) = n * 100 ^ j * 100 by rw [Int.pow_succ, Int.mul_assoc])
    by_cases hlt : j < k
    · have i1 : (j : Int) < (k : Int) := by omega
      have b2 := HB.out (j + 1) (by omega)
      rw [HP.out] at b2
      have HP2 := HP
      generalize n * 100 ^ j = y at *
      clear HP
      go_wp2
      go_roundg (k - (j + 1))
      case measure => omega
      case rel => first | exact ⟨j + 1, by omega, rfl, by rw [HP2.out], by simp, rfl⟩ | ((repeat apply Exists.intro); exact ⟨⟨j + 1, by omega, rfl, by rw [HP2.out], by simp, rfl⟩, rfl⟩)
    · have q0 : j = k := by omega
      subst q0
      have i1 : ¬ (j : Int) < (j : Int) := by omega
      obtain ⟨m, hm⟩ : ∃ m, m = n * 100 ^ j := ⟨_, rfl⟩
      have HM := Lib.hid hm
      rw [← hm] at b1
      rw [← hm]
      clear HP hm
      go_wp2_with fail
      refine (C.out n (by omega) (by omega) _ HT.out).mono ?_
      rintro r w1 ⟨v, la, rfl, hown, hka, hla⟩
      have HKA := Lib.hid hka
      have HLA := Lib.hid hla
      have HOA := Lib.hid hown
      clear hown hka hla
      go_wp2_with fail
      refine (C.out m (by omega) (by omega) _ (HT.out.kp HKA.out)).mono ?_
      rintro r w2 ⟨v2, lb, rfl, hown, hkb, hlb⟩
      have HKB := Lib.hid hkb
      have HOB := Lib.hid hown
      have HK2 := Lib.hid (HKA.out.trans hkb)
      obtain ⟨xs, e, hxl, he0, he1, ea, eb⟩ := tens_forms (show n ≠ 0 by omega) HM.out HLA.out hlb
      have hd19 : Lib.nDigits n.natAbs ≤ 19 := nDigits_le 18 _ (by omega)
      have hh := tens_heads (neg := decide (n < 0)) (k := j) he0 (by omega) hk
      have hng : decide (n < 0) = true := by
        simp
        omega
      rw [hng] at ea eb hh
      generalize headB true e = x at *
      generalize headB true (e + 2 * (j : Int)) = y at *
      obtain ⟨⟨hx0, hx1⟩, ⟨hy0, hy1⟩, hp, hq⟩ := hh
      have j2 : x - y = (j : Int) := hq rfl
      obtain ⟨q, hq1⟩ : ∃ q, xs.length + 1 = q := ⟨_, rfl⟩
      subst ea eb
      obtain ⟨ga, ca, rfl, hca, hma, hina⟩ := own_pos HOA.out (by simp)
      obtain ⟨gb, cb, rfl, hcb, hmb, hinb⟩ := own_pos HOB.out (by simp)
      simp only [List.length_cons, hq1] at hca hcb hina hinb ⊢
      have hina2 := bin_kp hina HKB.out
      have HA := Lib.hid (show Lib.BytesIn w2 (some ⟨ga, 1, none⟩) (q - 1) xs from by have h := bin_sub hina2 1 (q - 1) (by omega); simpa [List.take_of_length_le (show xs.length ≤ q - 1 by omega)] using h)
      have HBB := Lib.hid (show Lib.BytesIn w2 (some ⟨gb, 1, none⟩) (q - 1) xs from by have h := bin_sub hinb 1 (q - 1) (by omega); simpa [List.take_of_length_le (show xs.length ≤ q - 1 by omega)] using h)
      have HXL := Lib.hid (show xs.length = q - 1 by omega)
      have ca0 : w2.cell? ⟨ga, 0, none⟩ = some (.int .u8 x) := bin_at hina2 0 (by omega)
      have cb0 : w2.cell? ⟨gb, 0, none⟩ = some (.int .u8 y) := bin_at hinb 0 (by omega)
      have q1 : 2 ≤ q := by omega
      have q4 : 2 ≤ ca := by omega
      have q5 : 2 ≤ cb := by omega
      have q6 : (ca = 1) = False := by simp; omega
      have q7 : (cb = 1) = False := by simp; omega
      have q2 : (1 : Int) ≤ (q : Int) := by omega
      have q8 : (0 : Int) < (q : Int) := by omega
      have q9 : 0 < q := by omega
      have q3 : ((q : Int) == 0) = false := by
        simp
        omega
      have j3 : (x - y == (j : Int)) = true := by simpa using j2
      unfold maxLen at hma hmb
      clear hown hkb hlb hina hina2 hinb HOA HOB HLA hp hq he0 he1 hd19 hng hq1 hxl
      go_wp2_with fail
      go_quiet ((go_at_call 12; exact Calls.quiet_of_same ((numberSame_same _ _ _ _ _ _ _ xs _ HXL.out (by exact HA.out) (by exact HBB.out)).mono fun _ _ h => ⟨h.1, h.2.symm⟩)))
      go_wp2_with fail
      have HKq := Lib.hid (HK2.out.drewN nq)
      have HTq := Lib.hid (HT.out.kp HKq.out)
      have wy : IntKind.i64.wrap y = y := by
        rw [IntKind.wrap_i64]
        omega
      have wx : IntKind.i64.wrap x = x := by
        rw [IntKind.wrap_i64]
        omega
      have wj : IntKind.i64.wrap (j : Int) = (j : Int) := by
        rw [IntKind.wrap_i64]
        omega
      have ca1 : (w2.drewN nq).cell? ⟨ga, 0, none⟩ = some (.int .u8 x) := ca0
      have cb1 : (w2.drewN nq).cell? ⟨gb, 0, none⟩ = some (.int .u8 y) := cb0
      generalize w2.drewN nq = w3 at *
      clear ca0 cb0 HA HBB
      go_region_held3 (fun w' => w'.cell? ⟨ga, 0, none⟩ = some (.int .u8 x) ∧ w'.cell? ⟨gb, 0, none⟩ = some (.int .u8 y)) (first | with_reducible exact ⟨ca1, cb1⟩ | go_keep)
        (first
          | (go_at_call 13; refine (CA.out _ (by exact HTq.out)).mono ?_; rintro e w4 ⟨rfl, hk4⟩; have HK4 := Lib.hid (HKq.out.drew.trans hk4); have ca1 := below_some hk4 (a := ⟨ga, 0, none⟩) (v := .int .u8 x) (by exact ca1); have cb1 := below_some hk4 (a := ⟨gb, 0, none⟩) (v := .int .u8 y) (by exact cb1); clear hk4))
      all_goals
        go_wp2_with fail
        go_ret
        exact ⟨rfl, HK4.out⟩

theorem fnNumberTens_any (n0 k0 : Int) (w : World) (ht : Tab w) (wf1 : (Lit.int .u8 k0).wf = true) :
    Calls Tryd.prog 3 #[.int .i64 n0, .int .u8 k0] w fun e w' => e = .returned (.bool true) ∧ Below w.heap.size w w' := by
  have h0 : IntKind.u8.min = 0 := rfl
  have h1 : IntKind.u8.max = 255 := rfl
  simp [Lit.wf, h0, h1] at wf1
  have hb1 := Int.lt_tmod_of_pos n0 (show (0 : Int) < 1000000 by decide)
  have hb2 := Int.tmod_lt_of_pos n0 (show (0 : Int) < 1000000 by decide)
  have hk : k0 % 6 = ((k0 % 6).toNat : Int) := by omega
  rcases Int.lt_trichotomy (n0.tmod 1000000) 0 with h | h | h
  · exact tens_neg n0 _ k0 _ rfl hk (by omega) (by omega) hb1 hb2 (by omega) h w ht
  · exact tens_zero_ n0 k0 _ h hk (by omega) (by omega) (by omega) w ht
  · exact tens_pos n0 _ k0 _ rfl hk (by omega) (by omega) hb1 hb2 (by omega) h w ht
end Go.Proofs.YtiahmmecekfjhaaDoor
