/-
  A number taken apart: addDigitToMantissa, FromNumber, DecodeInt.
-/
import Derived.Test.YtcdbnjhkjfimkaaDoorNum2
import Derived.Laws.Externs
namespace Go.Proofs.YtcdbnjhkjfimkaaDoor
open Go Go.RowKit

theorem add64_run (x y : Int) (hx : 0 ≤ x) (hy : 0 ≤ y) (h : x + y < 18446744073709551616) (w : World) :
    (callFunc 180 #[.int .u64 x, .int .u64 y, .int .u64 0]).run Tryd.prog w = .ok (.value (.tuple #[.int .u64 (x + y), .int .u64 0])) w := by
  have e := run_add64 (P := Tryd.prog) x y 0 hx hy (by omega) (by omega) w
  rw [run_callFunc_extern Tryd.func180 (by kernel_rfl) (by kernel_rfl) (by kernel_rfl) (e := add64Entry) (by kernel_rfl), e, Int.add_zero, Int.emod_eq_of_lt (by omega) h, Int.ediv_eq_zero_of_lt (by omega) h]
  rfl

theorem mul10 (x : Int) (h0 : 0 ≤ x) (hx : x ≤ 1000000000000000000) (w : World) :
    Calls Tryd.prog 179 #[.int .u64 x, .int .u64 10] w fun e w' => e = .returned (.tuple #[.int .u64 0, .int .u64 (x * 10)]) ∧ w' = w := by
  obtain ⟨n, rfl⟩ := Int.eq_ofNat_of_zero_le h0
  have h := Tryd.bits_Mul64 n 10 (by omega) (by omega) w
  rw [Nat.div_eq_of_lt (by omega), Nat.mod_eq_of_lt (by omega)] at h
  exact h

set_option maxHeartbeats 1000000 in
theorem addDigit_any (m d : Int) (hm0 : 0 ≤ m) (hm : m ≤ 1000000000000000000) (hd0 : 0 ≤ d) (hd : d ≤ 9) (w : World) :
    Calls Tryd.prog 135 #[.int .u64 m, .int .u8 d] w fun e w' => e = .returned (.tuple #[.int .u64 (m * 10 + d), .bool false]) ∧ w' = w := by
  have C := Lib.hid (mul10 m hm0 hm w)
  by_cases h0 : m = 0
  · subst h0
    have A := add64_run 0 d (by omega) hd0 (by omega)
    rw [Int.zero_add] at A
    clear hm0 hm C
    go_enter Tryd.func135, Tryd.ntmps135
    go_wp2
    exact bodyPost_ret (v := .tuple #[.int .u64 d, .bool false]) (by simp [results, Tryd.results135, go_sem]) rfl ⟨by rw [Int.zero_mul, Int.zero_add], rfl⟩
  · have A := add64_run (m * 10) d (by omega) hd0 (by omega)
    have b0 : (m != 0) = true := by simpa using h0
    clear h0
    go_enter Tryd.func135, Tryd.ntmps135
    go_wp2_with fail
    refine C.out.mono ?_
    rintro e w' ⟨rfl, rfl⟩
    clear C
    go_wp2
    exact bodyPost_ret (v := .tuple #[.int .u64 (m * 10 + d), .bool false]) (by simp [results, Tryd.results135, go_sem]) rfl ⟨rfl, rfl⟩

/-- The number that pairs of digits tell. -/
def pval (l : List Nat) : Nat := l.foldl (fun a x => a * 100 + x) 0
theorem pval_snoc (l : List Nat) (x : Nat) : pval (l ++ [x]) = pval l * 100 + x := by simp [pval]
theorem foldl_ge : ∀ (l : List Nat) (a : Nat), a ≤ l.foldl (fun a x => a * 100 + x) a
  | [], _ => Nat.le_refl _
  | x :: l, a => by
    have := foldl_ge l (a * 100 + x)
    simp only [List.foldl_cons]
    omega
theorem pval_take (l : List Nat) (j : Nat) : pval (l.take j) ≤ pval l := by
  conv => rhs; rw [← List.take_append_drop j l]
  unfold pval
  rw [List.foldl_append]
  exact foldl_ge _ _
theorem take_snocN (l : List Nat) (j : Nat) (h : j < l.length) : l.take (j + 1) = l.take j ++ [l.getD j 0] := by
  rw [List.take_succ_eq_append_getElem h]
  simp [List.getD, h]
/-- The bytes of a number: the first one of t, then the pairs. -/
def packL (neg : Bool) (t : Int) (pv : List Nat) : List Int := (if neg then 127 - t else t + 128) :: (pv.map fun (x : Nat) => enc neg (x : Int)) ++ if neg then [102] else []
theorem packL_length (neg : Bool) (t : Int) (pv : List Nat) : (packL neg t pv).length = 1 + pv.length + if neg then 1 else 0 := by
  unfold packL; cases neg <;> simp <;> omega
theorem packL_at (neg : Bool) (t : Int) (pv : List Nat) (j : Nat) (h : j < pv.length) : (packL neg t pv).getD (1 + j) 0 = enc neg ((pv.getD j 0 : Nat) : Int) := by
  unfold packL
  rw [Nat.add_comm 1 j]
  cases neg <;> simp [List.getD, List.getElem?_append, h]
theorem packL_last (t : Int) (pv : List Nat) : (packL true t pv).getD (1 + pv.length) 0 = 102 := by
  unfold packL
  rw [Nat.add_comm 1]
  simp [List.getD]
theorem and128_hi (v : Int) (h0 : 128 ≤ v) (h1 : v < 256) : bits .and .u8 v 128 = 128 := by
  obtain ⟨n, rfl⟩ := Int.eq_ofNat_of_zero_le (show 0 ≤ v by omega)
  have key : ∀ i : Fin 256, 128 ≤ i.val → bits .and .u8 (i.val : Int) 128 = 128 := by decide +kernel
  exact key ⟨n, by omega⟩ (show 128 ≤ n by omega)
theorem and128_lo (v : Int) (h0 : 0 ≤ v) (h1 : v < 128) : bits .and .u8 v 128 = 0 := by
  obtain ⟨n, rfl⟩ := Int.eq_ofNat_of_zero_le h0
  have key : ∀ i : Fin 256, i.val < 128 → bits .and .u8 (i.val : Int) 128 = 0 := by decide +kernel
  exact key ⟨n, by omega⟩ (show n < 128 by omega)
theorem and127_hi (v : Int) (h0 : 128 ≤ v) (h1 : v < 256) : bits .and .u8 v 127 = v - 128 := by
  obtain ⟨n, rfl⟩ := Int.eq_ofNat_of_zero_le (show 0 ≤ v by omega)
  have key : ∀ i : Fin 256, 128 ≤ i.val → bits .and .u8 (i.val : Int) 127 = (i.val : Int) - 128 := by decide +kernel
  exact key ⟨n, by omega⟩ (show 128 ≤ n by omega)

def FromPost (V : Nat) (neg : Bool) (t : Int) (K : Nat) (w : World) (r : Ending) (w' : World) : Prop := r = .returned (.tuple #[.int .u64 (V : Int), .bool neg, .int .i64 ((t - 64) * 2 - 2 * (K : Int)), .int .i64 (2 * (K : Int) + -1), .nilIface]) ∧ w = w'

set_option maxRecDepth 100000 in
set_option maxHeartbeats 4000000 in
theorem fromNumber_false (b o n c : Nat) (t : Int) (pv : List Nat) (K : Nat) (w : World) (hK : pv.length = K) (hn : n = (1 + K)) (hK1 : 1 ≤ K) (hK2 : K ≤ 20) (hp : ∀ x ∈ pv, x ≤ 99) (hv : pval pv ≤ 10000000000000000000) (ht0 : 1 ≤ t) (ht1 : t ≤ 127) (hnc : n ≤ c) (_hcm : c ≤ maxLen)
    (hc : ∀ i, i < n → w.cell? ⟨b, o + i, none⟩ = some (.int .u8 ((packL false t pv).getD i 0))) :
    Calls Tryd.prog 92 #[.slice (some ⟨b, o, none⟩) n c] w (FromPost (pval pv) false t K w) := by
  unfold maxLen at _hcm
  have c0 : w.cell? ⟨b, o, none⟩ = some (.int .u8 (t + 128)) := hc 0 (by omega)
  
  have HC := Lib.hid (show ∀ j, j < K → w.cell? ⟨b, o + 1 + j, none⟩ = some (.int .u8 (enc false ((pv.getD j 0 : Nat) : Int))) from fun j hj => by
    have h := hc (1 + j) (by omega)
    rw [packL_at _ _ _ _ (by omega), ← Nat.add_assoc] at h
    exact h)
  have HT := Lib.hid (show ∀ j, j < K → pval (pv.take (j + 1)) = pval (pv.take j) * 100 + pv.getD j 0 from fun j hj => by rw [take_snocN _ _ (by omega), pval_snoc])
  have HV := Lib.hid (show ∀ j, pval (pv.take j) ≤ pval pv from pval_take pv)
  have HP := Lib.hid (show ∀ j, j < K → pv.getD j 0 ≤ 99 from fun j hj => by
    have hl : j < pv.length := by omega
    rw [List.getD_eq_getElem?_getD, List.getElem?_eq_getElem hl]
    exact hp _ (List.getElem_mem hl))
  have HF := Lib.hid (show pv.take K = pv from List.take_of_length_le (by omega))
  obtain ⟨V, hV⟩ : ∃ V, V = pval pv := ⟨_, rfl⟩
  rw [← hV] at HV hv ⊢
  have HVV := Lib.hid hV
  have i0 : ((n : Nat) : Int) ≤ (c : Int) := by omega
  have i1 : (2 : Int) ≤ (n : Int) := by omega
  have i2 : ((n : Nat) : Int) ≤ 22 := by omega
  have HN := Lib.hid hn
  have x1 := and128_hi (t + 128) (by omega) (by omega)
  have x2 := and127_hi (t + 128) (by omega) (by omega)
  have x3 : ((t + 128 : Int) == 128) = false := by simp; omega
  have x4 : 127 - (127 - t) = t := by omega
  have x5 : t + 128 - 128 = t := by omega
  have n0 : ((n : Int) == 0) = false := by simp; omega
  have e1 : ((n : Int) - 1).toNat = n - 1 := by omega
  
  have en : n - 1 = K := by omega
  clear hc hK hn hV hp
  go_enter Tryd.func92, Tryd.ntmps92
  go_wp2_with fail
  go_loopg [57, 2, 5, 9] K (fun g i a d f wr => ∃ j : Nat, j ≤ K ∧ g = K - j ∧ i = .int .i64 (j : Int) ∧ a = .int .u64 ((pval (pv.take j) : Nat) : Int) ∧ d = .int .i64 (2 * (j : Int)) ∧ ((j = 0 ∧ f = .int .i64 0) ∨ (0 < j ∧ f = .int .i64 (-1))) ∧ w = wr)
  case atStart => exact ⟨0, Nat.zero_le _, rfl, rfl, rfl, rfl, Or.inl ⟨rfl, rfl⟩, rfl⟩
  case round =>
    obtain ⟨j, hj, rfl, rfl, rfl, rfl, hf, rfl⟩ := hrel
    by_cases hlt : j < K
    · have hcell := HC.out j hlt
      have ht := HT.out j hlt
      have hb := HV.out (j + 1)
      have hp := HP.out j hlt
      have HTT := Lib.hid ht
      rw [ht] at hb
      obtain ⟨m, hm⟩ : ∃ m : Int, m = ((pval (pv.take j) : Nat) : Int) := ⟨_, rfl⟩
      obtain ⟨p, hpp⟩ : ∃ p : Int, p = ((pv.getD j 0 : Nat) : Int) := ⟨_, rfl⟩
      rw [← hpp] at hcell
      rw [← hm]
      have m0 : 0 ≤ m := by omega
      have m1 : m * 100 + p ≤ 10000000000000000000 := by omega
      have p0 : 0 ≤ p := by omega
      have p1 : p ≤ 99 := by omega
      have HM := Lib.hid hm
      have HPP := Lib.hid hpp
      have cell : w.cell? ⟨b, o + 1 + j, none⟩ = some (.int .u8 (p + 1)) := hcell
      
      
      have i3 : (j : Int) < (K : Int) := by omega
      clear hcell ht hb hp hm hpp
      rcases hf with ⟨h0, rfl⟩ | ⟨h0, rfl⟩
      · have z0 : ((j : Int) == 0) = true := by simp; omega
        have H0 := Lib.hid h0
        clear h0
        go_wp2_with (go_at_call 135; refine (addDigit_any _ _ (by omega) (by omega) (by omega) (by omega) _).mono ?_; rintro r w2 ⟨rfl, rfl⟩)
        go_roundg (K - (j + 1))
        case measure => omega
        case rel => exact ⟨j + 1, by omega, rfl, rfl, by rw [HTT.out]; congr 1; have := HM.out; have := HPP.out; omega, by congr 1, Or.inr ⟨by omega, rfl⟩, rfl⟩
      · have z0 : ((j : Int) == 0) = false := by simp; omega
        go_wp2_with (go_at_call 135; refine (addDigit_any _ _ (by omega) (by omega) (by omega) (by omega) _).mono ?_; rintro r w2 ⟨rfl, rfl⟩)
        go_roundg (K - (j + 1))
        case measure => omega
        case rel => exact ⟨j + 1, by omega, rfl, rfl, by rw [HTT.out]; congr 1; have := HM.out; have := HPP.out; omega, by congr 1, Or.inr ⟨by omega, rfl⟩, rfl⟩
    · obtain rfl : j = K := by omega
      obtain ⟨_, rfl⟩ := hf.resolve_left (by omega)
      rw [HF.out, ← HVV.out]
      have i3 : ¬ (j : Int) < (j : Int) := by omega
      go_wp2
      exact bodyPost_ret (v := .tuple #[.int .u64 (V : Int), .bool false, .int .i64 ((t - 64) * 2 - 2 * (j : Int)), .int .i64 (2 * (j : Int) + -1), .nilIface]) (by simp [results, Tryd.results92, go_sem]) rfl ⟨rfl, rfl⟩

set_option maxRecDepth 100000 in
set_option maxHeartbeats 4000000 in
theorem fromNumber_true (b o n c : Nat) (t : Int) (pv : List Nat) (K : Nat) (w : World) (hK : pv.length = K) (hn : n = (1 + K + 1)) (hK1 : 1 ≤ K) (hK2 : K ≤ 20) (hp : ∀ x ∈ pv, x ≤ 99) (hv : pval pv ≤ 10000000000000000000) (ht0 : 0 ≤ t) (ht1 : t ≤ 127) (hnc : n ≤ c) (_hcm : c ≤ maxLen)
    (hc : ∀ i, i < n → w.cell? ⟨b, o + i, none⟩ = some (.int .u8 ((packL true t pv).getD i 0))) :
    Calls Tryd.prog 92 #[.slice (some ⟨b, o, none⟩) n c] w (FromPost (pval pv) true t K w) := by
  unfold maxLen at _hcm
  have c0 : w.cell? ⟨b, o, none⟩ = some (.int .u8 (127 - t)) := hc 0 (by omega)
  have cl : w.cell? ⟨b, o + (1 + K), none⟩ = some (.int .u8 102) := by have h := hc (1 + K) (by omega); rw [← hK, packL_last] at h; rw [hK] at h; exact h
  have HC := Lib.hid (show ∀ j, j < K → w.cell? ⟨b, o + 1 + j, none⟩ = some (.int .u8 (enc true ((pv.getD j 0 : Nat) : Int))) from fun j hj => by
    have h := hc (1 + j) (by omega)
    rw [packL_at _ _ _ _ (by omega), ← Nat.add_assoc] at h
    exact h)
  have HT := Lib.hid (show ∀ j, j < K → pval (pv.take (j + 1)) = pval (pv.take j) * 100 + pv.getD j 0 from fun j hj => by rw [take_snocN _ _ (by omega), pval_snoc])
  have HV := Lib.hid (show ∀ j, pval (pv.take j) ≤ pval pv from pval_take pv)
  have HP := Lib.hid (show ∀ j, j < K → pv.getD j 0 ≤ 99 from fun j hj => by
    have hl : j < pv.length := by omega
    rw [List.getD_eq_getElem?_getD, List.getElem?_eq_getElem hl]
    exact hp _ (List.getElem_mem hl))
  have HF := Lib.hid (show pv.take K = pv from List.take_of_length_le (by omega))
  obtain ⟨V, hV⟩ : ∃ V, V = pval pv := ⟨_, rfl⟩
  rw [← hV] at HV hv ⊢
  have HVV := Lib.hid hV
  have i0 : ((n : Nat) : Int) ≤ (c : Int) := by omega
  have i1 : (2 : Int) ≤ (n : Int) := by omega
  have i2 : ((n : Nat) : Int) ≤ 22 := by omega
  have HN := Lib.hid hn
  have x1 := and128_lo (127 - t) (by omega) (by omega)
  have x2 := xor127 (127 - t) (by omega) (by omega)
  have x3 : ((127 - t : Int) == 128) = false := by simp; omega
  have x4 : 127 - (127 - t) = t := by omega
  have x5 : t + 128 - 128 = t := by omega
  have n0 : ((n : Int) == 0) = false := by simp; omega
  have e1 : ((n : Int) - 1).toNat = n - 1 := by omega
  have e2 : o + (n - 1) = o + (1 + K) := by omega
  have en : n - 1 - 1 = K := by omega
  clear hc hK hn hV hp
  go_enter Tryd.func92, Tryd.ntmps92
  go_wp2_with fail
  go_loopg [57, 2, 5, 9] K (fun g i a d f wr => ∃ j : Nat, j ≤ K ∧ g = K - j ∧ i = .int .i64 (j : Int) ∧ a = .int .u64 ((pval (pv.take j) : Nat) : Int) ∧ d = .int .i64 (2 * (j : Int)) ∧ ((j = 0 ∧ f = .int .i64 0) ∨ (0 < j ∧ f = .int .i64 (-1))) ∧ w = wr)
  case atStart => exact ⟨0, Nat.zero_le _, rfl, rfl, rfl, rfl, Or.inl ⟨rfl, rfl⟩, rfl⟩
  case round =>
    obtain ⟨j, hj, rfl, rfl, rfl, rfl, hf, rfl⟩ := hrel
    by_cases hlt : j < K
    · have hcell := HC.out j hlt
      have ht := HT.out j hlt
      have hb := HV.out (j + 1)
      have hp := HP.out j hlt
      have HTT := Lib.hid ht
      rw [ht] at hb
      obtain ⟨m, hm⟩ : ∃ m : Int, m = ((pval (pv.take j) : Nat) : Int) := ⟨_, rfl⟩
      obtain ⟨p, hpp⟩ : ∃ p : Int, p = ((pv.getD j 0 : Nat) : Int) := ⟨_, rfl⟩
      rw [← hpp] at hcell
      rw [← hm]
      have m0 : 0 ≤ m := by omega
      have m1 : m * 100 + p ≤ 10000000000000000000 := by omega
      have p0 : 0 ≤ p := by omega
      have p1 : p ≤ 99 := by omega
      have HM := Lib.hid hm
      have HPP := Lib.hid hpp
      have cell : w.cell? ⟨b, o + 1 + j, none⟩ = some (.int .u8 (101 - p)) := hcell
      have y1 : 101 - p - 1 = 100 - p := by omega
      have y2 : 100 - (100 - p) = p := by omega
      have i3 : (j : Int) < (K : Int) := by omega
      clear hcell ht hb hp hm hpp
      rcases hf with ⟨h0, rfl⟩ | ⟨h0, rfl⟩
      · have z0 : ((j : Int) == 0) = true := by simp; omega
        have H0 := Lib.hid h0
        clear h0
        go_wp2_with (go_at_call 135; refine (addDigit_any _ _ (by omega) (by omega) (by omega) (by omega) _).mono ?_; rintro r w2 ⟨rfl, rfl⟩)
        go_roundg (K - (j + 1))
        case measure => omega
        case rel => exact ⟨j + 1, by omega, rfl, rfl, by rw [HTT.out]; congr 1; have := HM.out; have := HPP.out; omega, by congr 1, Or.inr ⟨by omega, rfl⟩, rfl⟩
      · have z0 : ((j : Int) == 0) = false := by simp; omega
        go_wp2_with (go_at_call 135; refine (addDigit_any _ _ (by omega) (by omega) (by omega) (by omega) _).mono ?_; rintro r w2 ⟨rfl, rfl⟩)
        go_roundg (K - (j + 1))
        case measure => omega
        case rel => exact ⟨j + 1, by omega, rfl, rfl, by rw [HTT.out]; congr 1; have := HM.out; have := HPP.out; omega, by congr 1, Or.inr ⟨by omega, rfl⟩, rfl⟩
    · obtain rfl : j = K := by omega
      obtain ⟨_, rfl⟩ := hf.resolve_left (by omega)
      rw [HF.out, ← HVV.out]
      have i3 : ¬ (j : Int) < (j : Int) := by omega
      go_wp2
      exact bodyPost_ret (v := .tuple #[.int .u64 (V : Int), .bool true, .int .i64 ((t - 64) * 2 - 2 * (j : Int)), .int .i64 (2 * (j : Int) + -1), .nilIface]) (by simp [results, Tryd.results92, go_sem]) rfl ⟨rfl, rfl⟩
end Go.Proofs.YtcdbnjhkjfimkaaDoor
