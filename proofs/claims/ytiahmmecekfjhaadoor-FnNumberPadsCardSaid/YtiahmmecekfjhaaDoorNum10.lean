/-
  FnNumberPads: padded bytes are whole blocks.
-/
import Derived.Test.YtiahmmecekfjhaaDoorNum9
namespace Go.Proofs.YtiahmmecekfjhaaDoor
open Go Go.RowKit

theorem pad_mod (n B : Nat) (h : 0 < B) : (n + padK n B) % B = 0 := by
  unfold padK
  have h1 := Nat.div_add_mod n B
  have h2 := Nat.mod_lt n h
  have h3 : n + (B - n % B) = B * (n / B + 1) := by
    rw [Nat.mul_add, Nat.mul_one]
    omega
  rw [h3, Nat.mul_mod_right]
theorem pad_at {xs : List Int} {n K : Nat} (hx : xs.length = n) (j : Nat) (hj : j < K) : (xs ++ List.replicate K (K : Int)).getD (n + j) 0 = (K : Int) := by
  subst hx
  simp [List.getD, hj]

set_option maxRecDepth 100000 in
set_option maxHeartbeats 2000000 in
theorem pads_main (p : Option Addr) (n c : Nat) (xs : List Int) (B : Nat) (w : World) (ht : Tab w) (hi : Lib.BytesIn w p n xs) (hx : xs.length = n) (hn : n ≤ 2000) (h0 : 1 ≤ B) (h1 : B ≤ 255) :
    Calls Tryd.prog 5 #[.slice p n c, .int .u8 B] w fun r w' => r = .returned (.bool true) ∧ Kp w w' := by
  have CA := Lib.hid (fun w ht => numberAwake_any w ht)
  have HT := Lib.hid ht
  have HI := Lib.hid hi
  have HX := Lib.hid hx
  have CP := Lib.hid (fun q d w1 h => padded_any q n d xs B w1 h hx hn h0 h1)
  have hK := padK_pos n B h0
  have hmod := pad_mod n B h0
  generalize padK n B = K at *
  obtain ⟨N, hN⟩ : ∃ N, n + K = N := ⟨_, rfl⟩
  rw [hN] at hmod CP
  have HN := Lib.hid hN
  have i0 : (n : Int) ≤ 2000 := by omega
  have i1 : (1 : Int) ≤ (B : Int) := by omega
  have i2 : (B : Int) ≤ 255 := by omega
  have i3 : (1 : Int) ≤ (K : Int) := by omega
  have i4 : (K : Int) ≤ 255 := by omega
  have i5 : (N : Int) ≤ 2255 := by omega
  have i6 : (n : Int) < (N : Int) := by omega
  have b0 : ((B : Int) == 0) = false := by
    simp
    omega
  have r0 : (N : Int) % (B : Int) = 0 := by
    have h := congrArg (fun x : Nat => (x : Int)) hmod
    simpa using h
  have r1 : (N : Int) - (n : Int) = (K : Int) := by omega
  have r2 : N - n = K := by omega
  have r3 : ((N : Int) - 1).toNat = N - 1 := by omega
  have r4 : (0 : Int) ≤ (N : Int) - 1 := by omega
  have HX2 := Lib.hid (show (xs ++ List.replicate K (K : Int)).take n = xs by rw [← hx, List.take_left])
  clear ht hi hx hmod hN
  go_enter Tryd.func5, Tryd.ntmps5
  go_wp2_with fail
  refine (clone_any _ _ _ _ xs HI.out HX.out (by omega)).mono ?_
  rintro r w1 ⟨q, d, rfl, hown, hb⟩
  have HQ := Lib.hid (bin_of_own hown)
  have HK1 := Lib.hid (show Kp w w1 from hb)
  clear hown hb
  go_wp2_with fail
  refine (CP.out _ _ _ HQ.out).mono ?_
  rintro r w2 ⟨g, d2, rfl, hd1, hd2, hin, hk⟩
  have HIN := Lib.hid hin
  have HK2 := Lib.hid (HK1.out.trans hk)
  have HI2 := Lib.hid (bin_kp HI.out HK2.out)
  have HP := Lib.hid (show Lib.BytesIn w2 (some ⟨g, 0, none⟩) n xs from by have h := bin_take hin (k := n) (by omega); rw [HX2.out] at h; exact h)
  have cl : w2.cell? ⟨g, N - 1, none⟩ = some (.int .u8 (K : Int)) := by
    have h := bin_at hin (N - 1) (by omega)
    rw [Nat.zero_add, show N - 1 = n + (K - 1) by omega, pad_at HX.out (K - 1) (by omega)] at h
    rw [show N - 1 = n + (K - 1) by omega]
    exact h
  have HC := Lib.hid (show ∀ j, j < K → w2.cell? ⟨g, n + j, none⟩ = some (.int .u8 (K : Int)) from fun j hj => by
    have h := bin_at hin (n + j) (by omega)
    rw [Nat.zero_add, pad_at HX.out j hj] at h
    exact h)
  have s0 : (N : Int) ≤ (d2 : Int) := by omega
  have s1 : (n : Int) ≤ (d2 : Int) := by omega
  have s2 : (d2 = n) = False := by simp; omega
  have s3 : (n : Int) ≤ (N : Int) := by omega
  unfold maxLen at hd2
  clear hin hk CP
  go_wp2_with fail
  refine (bytes_equal_same _ _ _ _ _ _ xs HX.out HP.out HI2.out).mono ?_
  rintro r w3 ⟨rfl, rfl⟩
  go_wp2_with fail
  go_loopg [66] K (fun g' a wr => ∃ j : Nat, j ≤ K ∧ g' = K - j ∧ a = .int .i64 (j : Int) ∧ w3 = wr)
  case atStart => exact ⟨0, Nat.zero_le _, rfl, rfl, rfl⟩
  case round =>
    obtain ⟨j, hj, rfl, rfl, rfl⟩ := hrel
    by_cases hlt : j < K
    · have j0 : (j : Int) < (K : Int) := by omega
      have cj := HC.out j hlt
      go_wp2_with fail
      go_roundg (K - (j + 1))
      case measure => omega
      case rel => first | exact ⟨j + 1, by omega, rfl, by simp, rfl⟩ | ((repeat apply Exists.intro); exact ⟨⟨j + 1, by omega, rfl, by simp, rfl⟩, rfl⟩)
    · have q0 : j = K := by omega
      have j0 : ¬ (j : Int) < (K : Int) := by omega
      go_wp2_with fail
      refine (CA.out _ (HT.out.kp HK2.out)).mono ?_
      rintro r w4 ⟨rfl, hk4⟩
      have HK4 := Lib.hid (HK2.out.trans hk4)
      clear hk4
      go_wp2
      go_ret
      exact ⟨rfl, HK4.out⟩

set_option maxRecDepth 100000 in
set_option maxHeartbeats 2000000 in
theorem fnNumberPads_any (p : Option Addr) (n c : Nat) (xs : List Int) (m : Int) (w : World) (ht : Tab w) (hi : Lib.BytesIn w p n xs) (hx : xs.length = n) (wf1 : (Lit.int .u8 m).wf = true) :
    Calls Tryd.prog 5 #[.slice p n c, .int .u8 m] w fun e w' => e = .returned (.bool true) ∧ Below w.heap.size w w' := by
  have h0 : IntKind.u8.min = 0 := rfl
  have h1 : IntKind.u8.max = 255 := rfl
  simp [Lit.wf, h0, h1] at wf1
  obtain ⟨B, rfl⟩ := Int.eq_ofNat_of_zero_le wf1.1
  have hB : B ≤ 255 := by omega
  by_cases h2 : 2147483647 < n
  · have i0 : (2147483647 : Int) < (n : Int) := by omega
    clear ht hi hx wf1 h0 h1
    go_enter Tryd.func5, Tryd.ntmps5
    go_wp2
    go_ret
    exact ⟨rfl, Below.refl _ _⟩
  by_cases h3 : n ≤ 2000 ∧ 1 ≤ B
  · exact pads_main p n c xs B w ht hi hx h3.1 h3.2 hB
  · have CA := Lib.hid (numberAwake_any w ht)
    have i0 : (n : Int) ≤ 2147483647 := by omega
    clear ht hi hx wf1 h0 h1
    by_cases h4 : 2000 < n
    · have i1 : (2000 : Int) < (n : Int) := by omega
      go_enter Tryd.func5, Tryd.ntmps5
      go_wp2_with fail
      refine CA.out.mono ?_
      rintro r w1 ⟨rfl, hk⟩
      have HK := Lib.hid hk
      clear hk CA
      go_wp2
      go_ret
      exact ⟨rfl, HK.out⟩
    · have i1 : ¬ (2000 : Int) < (n : Int) := by omega
      have hB0 : B = 0 := by omega
      subst hB0
      go_enter Tryd.func5, Tryd.ntmps5
      go_wp2_with fail
      refine CA.out.mono ?_
      rintro r w1 ⟨rfl, hk⟩
      have HK := Lib.hid hk
      clear hk CA
      go_wp2
      go_ret
      exact ⟨rfl, HK.out⟩
end Go.Proofs.YtiahmmecekfjhaaDoor
