/-
  The reference's digits of a number: spec.NumberDigits.
-/
import Derived.Test.YtcdbnjhkjfimkaaDoorNum7
namespace Go.Proofs.YtcdbnjhkjfimkaaDoor
open Go Go.RowKit

/-- The last L decimal digits of N. -/
def digV (N L : Nat) : List Int := (digI N L).map fun x => x - 48
theorem digV_length (N L : Nat) : (digV N L).length = L := by simp [digV, digI_length]
theorem digV_zero (N : Nat) : digV N 0 = [] := rfl
theorem digV_succ (N L : Nat) : digV N (L + 1) = ((N / 10 ^ L % 10 : Nat) : Int) :: digV N L := by
  unfold digV digI
  rw [dgL_succ, List.map_cons, List.map_cons, dg_toNat]
  congr 1
  omega
theorem digV_at (N L i : Nat) (h : i < L) : (digV N L).getD i 0 = ((N / 10 ^ (L - 1 - i) % 10 : Nat) : Int) := by
  have h1 := digI_at N L i h
  have hl : i < (digI N L).length := by rw [digI_length]; exact h
  rw [List.getD_eq_getElem?_getD, List.getElem?_eq_getElem hl] at h1
  simp only [Option.getD_some] at h1
  unfold digV
  rw [List.getD_eq_getElem?_getD, List.getElem?_map, List.getElem?_eq_getElem hl]
  simp only [Option.map_some, Option.getD_some]
  rw [h1]
  omega
theorem digV_take (N L t : Nat) (h : t ≤ L) : (digV N L).take (L - t) = digV (N / 10 ^ t) (L - t) := by
  unfold digV
  rw [← List.map_take, digI_take N L t h]
theorem digV_dig (N L : Nat) : Dig (digV N L) := fun x hx => by
  obtain ⟨y, hy, rfl⟩ := List.mem_map.1 hx
  have := digI_digit N L y hy
  unfold IsDigit at this
  omega
theorem div_zero_iff {N i : Nat} (h : N / 10 ^ i = 0) : N < 10 ^ i := by
  rcases Nat.lt_or_ge N (10 ^ i) with h1 | h1
  · exact h1
  · have := Nat.div_pos h1 (Nat.pow_pos (by decide))
    omega
theorem nDigits_min : ∀ (i N : Nat), 0 < N → N < 10 ^ i → Lib.nDigits N ≤ i
  | 0, N, h0, h => by simp at h; omega
  | i + 1, N, _, h => nDigits_le i N h
theorem lt_nDigits {N i : Nat} (h : 0 < N / 10 ^ i) : i < Lib.nDigits N := by
  rcases Nat.lt_or_ge i (Lib.nDigits N) with h1 | h1
  · exact h1
  · have h2 := Lib.lt_pow_nDigits N
    have h3 : 10 ^ Lib.nDigits N ≤ 10 ^ i := Nat.pow_le_pow_right (by decide) h1
    rw [Nat.div_eq_of_lt (by omega)] at h
    omega

theorem bin_some {w : World} {p : Option Addr} {n : Nat} {xs : List Int} (h : Lib.BytesIn w p n xs) (hn : 0 < n) : ∃ b o, p = some ⟨b, o, none⟩ ∧ ∀ i, i < n → w.cell? ⟨b, o + i, none⟩ = some (.int .u8 (xs.getD i 0)) := h hn

/-- What the reference's digits are. -/
def RefDig (N : Nat) (r : Ending) (w w' : World) : Prop := ∃ q m d t, r = .returned (.tuple #[.slice q m d, .int .i64 ((Lib.nDigits N : Int) - 1)]) ∧ Lib.BytesIn w' q m (digV (N / 10 ^ t) m) ∧ t < Lib.nDigits N ∧ m = Lib.nDigits N - t ∧ N % 10 ^ t = 0 ∧ N / 10 ^ t % 10 ≠ 0 ∧ Kp w w'

set_option maxRecDepth 100000 in
set_option maxHeartbeats 2000000 in
theorem refDigits_any (N : Nat) (hN : N ≤ 9223372036854775808) (hN0 : 0 < N) (w : World) :
    Calls Tryd.prog 58 #[.int .u64 N] w fun r w' => RefDig N r w w' := by
  obtain ⟨D, hD⟩ : ∃ D, D = Lib.nDigits N := ⟨_, rfl⟩
  have hD1 : 1 ≤ D := by rw [hD]; exact Lib.nDigits_pos N
  have hD2 : D ≤ 19 := by rw [hD]; exact nDigits_le 18 N (by omega)
  have hlt0 := Lib.lt_pow_nDigits N
  rw [← hD] at hlt0
  have HLT := Lib.hid hlt0
  have HDD := Lib.hid hD
  have HN0 := Lib.hid hN0
  have HN1 := Lib.hid hN
  clear hD hlt0 hN0 hN
  go_enter Tryd.func58, Tryd.ntmps58
  go_wp2
  go_loopg [0, 4] D (fun g n a wr => ∃ (i : Nat) (q : Option Addr) (d : Nat), i ≤ D ∧ g = D - i ∧ n = .int .u64 ((N / 10 ^ i : Nat) : Int) ∧ a = .slice q i d ∧ wr.ownsRow w.heap.size 5 1 (.slice q i d) i ((digV N i).map (Value.int .u8)) ∧ Kp w wr)
  case atStart => exact ⟨0, none, 0, Nat.zero_le _, rfl, by simp, rfl, World.ownsRow_nil _ _ _ _, Kp.refl w⟩
  case round =>
    obtain ⟨i, q, d, hi, rfl, rfl, rfl, hown, hkr⟩ := hrel
    have HO := Lib.hid hown
    have HKR := Lib.hid hkr
    clear hown hkr
    obtain ⟨M, hM⟩ : ∃ M, M = N / 10 ^ i := ⟨_, rfl⟩
    rw [← hM]
    have HM := Lib.hid hM
    have hMb : M ≤ 9223372036854775808 := by rw [hM]; exact Nat.le_trans (Nat.div_le_self _ _) HN1.out
    have m1 : (M : Int) ≤ 9223372036854775808 := by omega
    have hMM : (0 < M → i < Lib.nDigits N) ∧ (M = 0 → N < 10 ^ i) := by
      rw [hM]
      exact ⟨fun h => lt_nDigits h, fun h => div_zero_iff h⟩
    clear hM
    by_cases hz : M = 0
    · subst hz
      have hiD : D ≤ i := by rw [HDD.out]; exact nDigits_min i N HN0.out (hMM.2 rfl)
      obtain rfl : i = D := by omega
      have HB := Lib.hid (bin_of_own HO.out)
      have hcd := own_cap HO.out
      have hdm := own_capmax HO.out
      clear HO hMM
      go_wp2
      go_loopg [4] i (fun g a wq => ∃ (k t d' : Nat), k = g ∧ t < i ∧ k = i - t ∧ a = .slice q k d' ∧ N % 10 ^ t = 0 ∧ k ≤ d' ∧ d' ≤ maxLen ∧ wr = wq)
      case atStart => exact ⟨i, 0, d, rfl, by omega, by omega, rfl, by simp [Nat.mod_one], hcd, hdm, rfl⟩
      case round =>
        obtain ⟨k, t, d', rfl, ht, hkt, rfl, hmod, hkd, hdm', rfl⟩ := hrel
        have hb2 := bin_take HB.out (k := k) (by omega)
        rw [hkt, digV_take N i t (by omega), ← hkt] at hb2
        have HB2 := Lib.hid hb2
        have HMOD := Lib.hid hmod
        have cc := bin_some hb2 (by omega)
        obtain ⟨b, o, rfl, hc⟩ := cc
        have cl := hc (k - 1) (by omega)
        rw [digV_at _ _ _ (by omega), show k - 1 - (k - 1) = 0 by omega, Nat.pow_zero, Nat.div_one] at cl
        obtain ⟨z, hz⟩ : ∃ z, z = N / 10 ^ t % 10 := ⟨_, rfl⟩
        rw [← hz] at cl
        have HZ := Lib.hid hz
        have k1 : (0 : Int) < (k : Int) := by omega
        have k2 : ((k : Int) - 1).toNat = k - 1 := by omega
        have k3 : (1 : Int) ≤ (k : Int) := by omega
        have k4 : (k : Int) ≤ 19 := by omega
        have HKT := Lib.hid hkt
        have hki : k ≤ i := by omega
        have hkt1 : k = 1 → i = t + 1 := by omega
        have HKT1 := Lib.hid hkt1
        clear hb2 hc hmod hz hkt1
        by_cases hz0 : z = 0
        · subst hz0
          have hmod2 := mod_pow_succ HMOD.out HZ.out.symm
          have ht2 : t + 1 < i := by
            rcases Nat.lt_or_ge (t + 1) i with h | h
            · exact h
            · exfalso
              have e : t + 1 = i := by omega
              rw [e] at hmod2
              have := eq_zero_of_mod hmod2 HLT.out
              have h0 := HN0.out
              omega
          have HMOD2 := Lib.hid hmod2
          have HKT2 := Lib.hid (show k - 1 = i - (t + 1) by omega)
          clear hmod2 hkt
          go_wp2
          go_roundg (k - 1)
          case measure => omega
          case rel => first | exact ⟨k - 1, t + 1, d', rfl, ht2, HKT2.out, rfl, HMOD2.out, by omega, hdm', rfl⟩ | ((repeat apply Exists.intro); exact ⟨⟨k - 1, t + 1, d', rfl, ht2, HKT2.out, rfl, HMOD2.out, by omega, hdm', rfl⟩, rfl⟩)
        · have z0 : ((z : Int) == 0) = false := by
            simp
            omega
          clear hkt
          go_wp2
          exact bodyPost_ret (v := .tuple #[.slice (some ⟨b, o, none⟩) k d', .int .i64 ((i : Int) - 1)]) (by simp [results, Tryd.results58, go_sem]) rfl ⟨some ⟨b, o, none⟩, k, d', t, by rw [← HDD.out], HB2.out, by rw [← HDD.out]; exact ht, by rw [← HDD.out]; exact HKT.out, HMOD.out, by rw [← HZ.out]; exact hz0, HKR.out⟩
    · have m0 : (0 : Int) < (M : Int) := by omega
      have hiD : i < D := by rw [HDD.out]; exact hMM.1 (by omega)
      obtain ⟨y, hy⟩ : ∃ y : Nat, M % 10 = y := ⟨_, rfl⟩
      have y0 : (M : Int) % 10 = (y : Int) := by omega
      have y1 : (y : Int) ≤ 9 := by omega
      have hq : M / 10 = N / 10 ^ (i + 1) := by rw [HM.out, Nat.pow_succ, Nat.div_div_eq_div_mul]
      obtain ⟨M2, hM2⟩ : ∃ M2, M2 = M / 10 := ⟨_, rfl⟩
      have y2 : (M : Int) / 10 = (M2 : Int) := by omega
      have HV := Lib.hid (show digV N (i + 1) = (y : Int) :: digV N i by rw [digV_succ, ← HM.out, hy])
      have HQ := Lib.hid (show M2 = N / 10 ^ (i + 1) by rw [hM2, hq])
      have hbin := bin_of_own HO.out
      obtain ⟨v1, w1, hrun, hov, hgr, _⟩ := run_append_bytes (wr.alloc (.cells #[.int .u8 (y : Int)] 5)) wr.heap.size _ 1 [(y : Int)] (by exact own_new wr [(y : Int)] _ (by simp [maxLen])) q i d (digV N i) (bin_alloc hbin _) (digV_length N i) (by omega) (by simp)
      obtain ⟨q1, d1, rfl, _⟩ := bin_own hov
      have H1 := Lib.hid hrun
      have HO1 := Lib.hid hov
      have HK1 := Lib.hid (((Kp.refl wr).alloc _).grown hgr (fun k' hk' => own_ge (own_new wr [(y : Int)] 5 (by simp [maxLen])) k' hk'))
      clear hrun hov hgr hbin hq hM2 hMM hy
      go_wp2_with (at_builtin; refine Lib.wpList_append_run _ rfl _ _ _ _ rfl _ _ rfl rfl _ _ H1.out ?_)
      go_roundg (D - (i + 1))
      case measure => omega
      case rel =>
        have ho : w1.ownsRow w.heap.size 5 1 (.slice q1 (i + 1) d1) (i + 1) ((digV N (i + 1)).map (Value.int .u8)) := by
          have h := own_base HO1.out HKR.out.size
          rw [HV.out, Nat.add_comm i 1]
          exact h
        first | exact ⟨i + 1, q1, d1, by omega, rfl, by rw [← HQ.out], by rw [Nat.add_comm i 1], ho, HKR.out.trans HK1.out⟩ | ((repeat apply Exists.intro); exact ⟨⟨i + 1, q1, d1, by omega, rfl, by rw [← HQ.out], by rw [Nat.add_comm i 1], ho, HKR.out.trans HK1.out⟩, rfl⟩)
end Go.Proofs.YtcdbnjhkjfimkaaDoor
