/-
  FnNumberTexts: the law's own walk.
-/
import Derived.Test.YtcdbnjhkjfimkaaDoorTx9
import Derived.Test.YtcdbnjhkjfimkaaDoorTx7
namespace Go.Proofs.YtcdbnjhkjfimkaaDoor
open Go Go.RowKit

set_option maxRecDepth 100000 in
set_option maxHeartbeats 2000000 in
theorem readT_zero (s : ByteArray) (w : World) (hs : natI s.data.toList = [48]) :
    Calls Tryd.prog 27 #[.string s] w fun e w' => e = .returned (.tuple #[.slice none 0 0, .bool false, .int .i64 0, .bool true]) ∧ Kp w w' := by
  have hsz : s.size = 1 := by
    have h1 : (natI s.data.toList).length = s.size := by simp [natI]
    rw [← h1, hs]; rfl
  have hlt0 : 0 < s.size := by omega
  have he : s.toList.isEmpty = false := by
    rw [← decide_eq_emptyBytes]
    exact decide_eq_false (fun h => by rw [h] at hsz; exact absurd hsz (by decide))
  have hne : ¬ s.toList = [] := fun h => by rw [h] at he; cases he
  have he2 : (!s.toList.isEmpty) = true := by rw [he]; rfl
  obtain ⟨y0, hy0⟩ : ∃ y0, (s[0]'hlt0).toNat = y0 := ⟨_, rfl⟩
  have hc0 := s_char s _ hs 0 hlt0
  rw [hy0] at hc0
  have y48 : (y0 : Int) = 48 := hc0
  have hz1 : (s.size : Int) = 1 := by omega
  have HSZ := Lib.hid hsz
  clear hs hc0 he hsz
  go_enter Tryd.func27, Tryd.ntmps27
  go_wp2_with fail
  go_loopg [9, 6, 7, 8, 2] 1 (fun G s9 s6 s7 s8 s2 wr => ∃ (i : Nat) (v : Value), 1 - i = G ∧ i ≤ 1 ∧ s9 = .int .i64 (i : Int) ∧ s6 = .int .i64 (i : Int) ∧ s7 = .bool false ∧ s8 = .bool (decide (i = 0)) ∧ v = s2 ∧ BRow wr w.heap.size v i (List.replicate i 0) ∧ Kp w wr)
  case atStart => exact ⟨0, _, rfl, Nat.zero_le _, rfl, rfl, rfl, rfl, rfl, World.ownsRow_nil _ _ _ _, Kp.refl w⟩
  case round =>
    obtain ⟨i, v, rfl, hi, rfl, rfl, rfl, rfl, rfl, hrow, hkw⟩ := hrel
    have HKW := Lib.hid hkw
    rcases (show i = 0 ∨ i = 1 by omega) with rfl | rfl
    · obtain ⟨v1, w5, r1, r2, r3, _⟩ := app_b wr hrow (Kp.refl wr) hkw.size (by omega) 0
      have HA := Lib.hid r1
      have HA2 := Lib.hid (show BRow w5 w.heap.size v1 (0 + 1) (List.replicate (0 + 1) 0) from r2)
      have HA3 := Lib.hid (r3 w hkw (Nat.le_refl _))
      clear hrow hkw r1 r2 r3 hi
      go_wp2_with (at_builtin; refine Lib.wpList_append_run _ rfl _ _ _ _ rfl _ _ rfl rfl _ _ HA.out ?_)
      go_roundg 0
      case measure => omega
      case rel => exact ⟨1, v1, rfl, Nat.le_refl _, rfl, rfl, rfl, rfl, rfl, HA2.out, HA3.out⟩
    · obtain ⟨g, c, rfl, hc1, hc2, hin⟩ := own_pos hrow (by omega)
      have c0 : wr.cell? ⟨g, 0, none⟩ = some (.int .u8 0) := bin_cells hin 0 (by omega)
      have r3 : (1 : Int) ≤ (c : Int) := by omega
      have cm : (c : Int) ≤ 9223372036854775807 := by unfold maxLen at hc2; omega
      clear hrow hkw hi hin hc1 hc2
      obtain ⟨wo, rfl⟩ : ∃ wo : World, wo = wr := ⟨_, rfl⟩
      go_wp2_with fail
      go_loopg [2, 4] 1 (fun G s2 s4 wr => ∃ (k : Nat), 1 - k = G ∧ k ≤ 1 ∧ (k = 0 → s2 = .slice (some ⟨g, 0, none⟩) 1 c) ∧ (k = 1 → ∃ p c', s2 = .slice p 0 c') ∧ (k = 0 → s4 = .int .i64 0) ∧ (k = 1 → s4 = .int .i64 (-1)) ∧ wo = wr)
      case atStart => exact ⟨0, rfl, Nat.zero_le _, fun _ => rfl, fun h => (by cases h), fun _ => rfl, fun h => (by cases h), rfl⟩
      case round =>
      obtain ⟨k, rfl, hk, h0, h1, h2, h3, rfl⟩ := hrel
      rcases (show k = 0 ∨ k = 1 by omega) with rfl | rfl
      · obtain rfl := h0 rfl
        obtain rfl := h2 rfl
        clear h0 h1 h2 h3 hk
        by_cases hc1 : c = 1
        · have cc1 : (c = 1) = True := eq_true hc1
          clear hc1
          go_wp2_with fail
          go_roundg 0
          case measure => omega
          case rel => exact ⟨1, rfl, Nat.le_refl _, fun h => (by cases h), fun _ => ⟨_, _, rfl⟩, fun h => (by cases h), fun _ => rfl, rfl⟩
        · have cc1 : (c = 1) = False := eq_false hc1
          clear hc1
          go_wp2_with fail
          go_roundg 0
          case measure => omega
          case rel => exact ⟨1, rfl, Nat.le_refl _, fun h => (by cases h), fun _ => ⟨_, _, rfl⟩, fun h => (by cases h), fun _ => rfl, rfl⟩
      · obtain ⟨p, c', rfl⟩ := h1 rfl
        obtain rfl := h3 rfl
        clear h0 h1 h2 h3 hk
        go_wp2_with fail
        go_loopg [2] 0 (fun G s2 wr => G = 0 ∧ s2 = .slice p 0 c' ∧ wo = wr)
        case atStart => exact ⟨rfl, rfl, rfl⟩
        case round =>
        obtain ⟨rfl, rfl, rfl⟩ := hrel
        go_wp2_with fail
        exact bodyPost_ret (v := .tuple #[.slice none 0 0, .bool false, .int .i64 0, .bool true]) (by simp [results, Tryd.results27, go_sem]) rfl ⟨rfl, HKW.out⟩
set_option maxRecDepth 100000 in
theorem numberBytes_none (neg : Bool) (e : Int) (q : Option Addr) (c : Nat) (w : World) :
    Calls Tryd.prog 26 #[.slice q 0 c, .bool neg, .int .i64 e] w fun r w' => ∃ v, r = .returned v ∧ BRow w' w.heap.size v 1 [128] ∧ Kp w w' := by
  go_enter Tryd.func26, Tryd.ntmps26
  go_wp2
  go_ret
  exact ⟨_, rfl, by exact own_new w [128] 5 (by simp [maxLen]), (Kp.refl w).alloc _⟩

/-- The digits of an integer, as the reader tells them, and the bytes that they give. -/
theorem enc_digits (n : Int) (l : List Int) (h0 : -9223372036854775808 ≤ n) (h1 : n ≤ 9223372036854775807) (hn : n ≠ 0) (h : EncL n l) : ∃ (D m : Nat), 1 ≤ D ∧ D ≤ 19 ∧ 1 ≤ m ∧ m ≤ D ∧ D = Lib.nDigits n.natAbs ∧
    (digT (digI n.natAbs D) [] false).length = D ∧ (digT (digI n.natAbs D) [] false).getD 0 0 ≠ 0 ∧ (digT (digI n.natAbs D) [] false).getD (m - 1) 0 ≠ 0 ∧ (∀ i, m ≤ i → i < D → (digT (digI n.natAbs D) [] false).getD i 0 = 0) ∧
    l = numB (decide (n < 0)) (((D : Int) - 1) / 2) (prs (evenL ((D : Int) - 1) ((((digT (digI n.natAbs D) [] false)).take m).map (· + 48)))) := by
  rcases h with ⟨h, _⟩ | ⟨t, hN, ht, hmod, hne, rfl⟩
  · exact absurd h hn
  · obtain ⟨N, hNN⟩ : ∃ N, N = n.natAbs := ⟨_, rfl⟩
    rw [← hNN] at hN ht hmod hne ⊢
    obtain ⟨D, hD⟩ : ∃ D, D = Lib.nDigits N := ⟨_, rfl⟩
    have hD2 : D ≤ 19 := by rw [hD]; exact nDigits_le 18 N (by omega)
    rw [← hD] at ht ⊢
    have hat : ∀ i, i < D → (digT (digI N D) [] false).getD i 0 = ((N / 10 ^ (D - 1 - i) % 10 : Nat) : Int) := fun i hi => by
      rw [digT_A _ _ _ _ (by rw [digI_length]; exact hi), digI_at N D i hi]
      omega
    have hlen : (digT (digI N D) [] false).length = D := by rw [digT_len, digI_length]; simp
    have htake : ((digT (digI N D) [] false).take (D - t)).map (· + 48) = digI (N / 10 ^ t) (D - t) := by
      rw [← digI_take N D t (by omega)]
      unfold digT
      simp only [Bool.false_eq_true, if_false, List.append_nil]
      rw [← List.map_take, List.map_map]
      conv => rhs; rw [← List.map_id (List.take (D - t) (digI N D))]
      exact List.map_congr_left fun x _ => by simp
    have hf := dig_first N D t (D - t) hD ht rfl hN
    refine ⟨D, D - t, by omega, hD2, by omega, by omega, rfl, hlen, ?_, ?_, ?_, ?_⟩
    · rw [hat 0 (by omega)]
      rw [digI_at _ _ _ (by omega), div_div_pow, show t + (D - t - 1 - 0) = D - 1 by omega] at hf
      rw [Nat.sub_zero]
      omega
    · rw [hat (D - t - 1) (by omega), show D - 1 - (D - t - 1) = t by omega]
      omega
    · intro i hi hiD
      rw [hat i hiD]
      have hk : D - 1 - i < t := by omega
      obtain ⟨q, hq⟩ : ∃ q, N = 10 ^ t * q := ⟨N / 10 ^ t, by have := Nat.div_add_mod N (10 ^ t); omega⟩
      have hz : N / 10 ^ (D - 1 - i) % 10 = 0 := by
        rw [hq, show t = (D - 1 - i) + (t - (D - 1 - i) - 1 + 1) by omega, Nat.pow_add, Nat.mul_assoc, Nat.mul_div_cancel_left _ (Nat.pow_pos (by decide)), Nat.pow_succ, Nat.mul_assoc, Nat.mul_comm, Nat.mul_assoc]
        exact Nat.mul_mod_right 10 _
      rw [hz]
      rfl
    · rw [htake]
      generalize decide (n < 0) = neg
      have hdl : (digI (N / 10 ^ t) (D - t)).length = D - t := digI_length _ _
      have h20 : (prs (evenL ((D : Int) - 1) (digI (N / 10 ^ t) (D - t)))).length < 20 := by
        rw [prs_length, evenL_length, hdl]; split <;> omega
      have e1 : headB neg ((D : Int) - 1) = if neg then 62 - ((D : Int) - 1) / 2 else 193 + ((D : Int) - 1) / 2 := by
        unfold headB
        cases neg
        · simp only [Bool.false_eq_true, if_false]; omega
        · simp only [if_true]; omega
      unfold numL numB tailL
      generalize prs (evenL ((D : Int) - 1) (digI (N / 10 ^ t) (D - t))) = pv at h20
      rw [e1]
      cases neg <;> simp [h20]
end Go.Proofs.YtcdbnjhkjfimkaaDoor
