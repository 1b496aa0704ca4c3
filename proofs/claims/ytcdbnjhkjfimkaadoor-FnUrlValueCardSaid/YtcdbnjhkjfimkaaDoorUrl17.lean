/-
  strconv.ParseUint of two signs to the base 16.
-/
import Derived.Test.YtcdbnjhkjfimkaaDoorUrl16
namespace Go.Proofs.YtcdbnjhkjfimkaaDoor
open Go Go.RowKit

set_option maxRecDepth 100000 in
theorem lower_any (x : Int) (h : bits .or .u8 x 32 = x + 32) (w : World) :
    Calls Tryd.prog 167 #[.int .u8 x] w fun e w' => e = .returned (.int .u8 (x + 32)) ∧ w = w' := by
  go_enter Tryd.func167, Tryd.ntmps167
  go_wp2_with fail
  go_ret
  exact ⟨rfl, rfl⟩
theorem low_bits (x : Nat) (h0 : 65 ≤ x) (h1 : x ≤ 70) : bits .or .u8 (x : Int) 32 = (x : Int) + 32 := by
  rcases (show x = 65 ∨ x = 66 ∨ x = 67 ∨ x = 68 ∨ x = 69 ∨ x = 70 by omega) with rfl | rfl | rfl | rfl | rfl | rfl <;> decide +kernel
/-- What is read of two signs. -/
def hexV (a b k : Nat) : Nat := if k = 0 then 0 else if k = 1 then a else 16 * a + b
def hexD (a b k : Nat) : Nat := if k = 0 then a else b
theorem hexV_next (a b k : Nat) (h : k < 2) : hexV a b (k + 1) = 16 * hexV a b k + hexD a b k := by
  unfold hexV hexD
  rcases (show k = 0 ∨ k = 1 by omega) with rfl | rfl <;> simp
theorem hexV_le (a b k : Nat) (ha : a < 16) (hb : b < 16) (h : k < 2) : hexV a b k ≤ 15 ∧ hexD a b k < 16 := by
  unfold hexV hexD
  rcases (show k = 0 ∨ k = 1 by omega) with rfl | rfl <;> simp <;> omega
theorem hexB_nat (d : Nat) (h : d < 16) : (hexB d).toNat = if d < 10 then 48 + d else 55 + d := by
  unfold hexB
  split <;> (rw [UInt8.toNat_ofNat']; omega)
theorem hex_at (a b k : Nat) (h : k < 2) : [hexB a, hexB b].getD k 0 = hexB (hexD a b k) := by
  unfold hexD
  rcases (show k = 0 ∨ k = 1 by omega) with rfl | rfl <;> rfl
set_option maxRecDepth 100000 in
set_option maxHeartbeats 4000000 in
theorem parseHexI_any (s : ByteArray) (a b : Nat) (w : World) (hs : s.data.toList = [hexB a, hexB b]) (ha : a < 16) (hb : b < 16) :
    Calls Tryd.prog 124 #[.string s, .int .i64 16, .int .i64 8] w fun e w' => e = .returned (.tuple #[.int .u64 ((16 * a + b : Nat) : Int), .nilIface]) ∧ Kp w w' := by
  have hz : s.size = 2 := by
    have : s.data.toList.length = s.size := rfl
    rw [← this, hs]; rfl
  have HZ := Lib.hid hz
  have he : s.toList.isEmpty = false := by
    rw [← decide_eq_emptyBytes]
    exact decide_eq_false (fun h => by rw [h] at hz; cases hz)
  have hne : ¬ s.toList = [] := fun h => by rw [h] at he; cases he
  have hmv : IntKind.u64.wrap (IntKind.u64.wrap 256 - 1) = 255 := by
    rw [IntKind.wrap_u64, IntKind.wrap_u64]
    decide
  have HAB := Lib.hid (And.intro ha hb)
  have HC := Lib.hid (fun w1 c e m i hi => bytes_cell w1 s c e m i hi)
  have HSL := Lib.hid hs
  have iz : (s.size : Int) ≤ 2 := by omega
  clear hz hs ha hb
  go_enter Tryd.func124, Tryd.ntmps124
  go_wp2_with fail
  rw [run_bytes_of_string w 9 26 5 s Tryd.underlying9 Tryd.underlying26 Tryd.underlying5]
  simp only [Result.andThen]
  rw [Oper.upon_value]
  generalize hX : w.drew.alloc (.cells (bytesRow s (grownCap w s.size 0 5)) 5 ((bytesRow s (grownCap w s.size 0 5)).size, (bytesRow s (grownCap w s.size 0 5)).size + 1)) = X
  have HK := Lib.hid (show Kp w X from hX ▸ (Kp.refl w).drew.alloc _)
  have HX := Lib.hid (fun i hi => (hX ▸ HC.out w _ _ _ i hi : X.cell? ⟨w.heap.size, i, none⟩ = some (.int .u8 ((s.data.toList.getD i 0).toNat : Int))))
  clear hX
  go_wp2_with fail
  obtain ⟨B, hB⟩ : ∃ B, B = w.heap.size := ⟨_, rfl⟩
  rw [← hB] at HX ⊢
  clear hB
  obtain ⟨U, hU⟩ : ∃ U : Int, U = 1152921504606846976 := ⟨_, rfl⟩
  rw [← hU]
  have u0 : (1000 : Int) ≤ U := by omega
  clear hU
  go_loopg [12, 13, 101] 2 (fun G s12 s13 s101 wr => ∃ k : Nat, G = 2 - k ∧ k ≤ 2 ∧ s12 = .bool false ∧ s13 = .int .u64 (hexV a b k : Int) ∧ s101 = .int .i64 (k : Int) ∧ X = wr)
  case atStart => exact ⟨0, rfl, Nat.zero_le _, rfl, rfl, rfl, rfl⟩
  case round =>
    obtain ⟨k, rfl, hk, rfl, rfl, rfl, rfl⟩ := hrel
    have j0 : (0 : Int) ≤ (k : Int) := by omega
    by_cases hlt : k < 2
    · have j1 : (k : Int) < (s.size : Int) := by have := HZ.out; omega
      have c0 := HX.out k (by have := HZ.out; omega)
      have hd := hexV_le a b k HAB.out.1 HAB.out.2 hlt
      have hb := hexB_nat (hexD a b k) hd.2
      rw [HSL.out, hex_at a b k hlt, hb] at c0
      have HN := Lib.hid (hexV_next a b k hlt)
      obtain ⟨V, hV⟩ : ∃ V, V = hexV a b k := ⟨_, rfl⟩
      obtain ⟨D, hD⟩ : ∃ D, D = hexD a b k := ⟨_, rfl⟩
      rw [← hV, ← hD] at hd HN
      rw [← hD] at c0
      rw [← hV]
      have v1 : (V : Int) ≤ 15 := by omega
      have v0 : (0 : Int) ≤ (V : Int) := by omega
      have HLT := Lib.hid hlt
      clear hb hlt hk hV hD
      by_cases h10 : D < 10
      · rw [if_pos h10] at c0
        obtain ⟨x, hx⟩ : ∃ x, x = 48 + D := ⟨_, rfl⟩
        rw [← hx] at c0
        have x0 : (48 : Int) ≤ (x : Int) := by omega
        have x1 : (x : Int) ≤ 57 := by omega
        have e95 : ((x : Int) == 95) = false := by simp; omega
        have HX0 := Lib.hid hx
        clear hd h10 hx
        go_wp2_with fail
        go_roundg (2 - (k + 1))
        case measure => have := HLT.out; omega
        case rel => exact ⟨k + 1, rfl, HLT.out, rfl, by rw [HN.out]; congr 1; have := HX0.out; omega, by go_num, rfl⟩
      · rw [if_neg h10] at c0
        obtain ⟨x, hx⟩ : ∃ x, x = 55 + D := ⟨_, rfl⟩
        rw [← hx] at c0
        have x0 : (65 : Int) ≤ (x : Int) := by omega
        have x1 : (x : Int) ≤ 70 := by omega
        have e95 : ((x : Int) == 95) = false := by simp; omega
        have x2 : decide ((x : Int) ≤ 57) = false := decide_eq_false (by omega)
        have hlb := low_bits x (by omega) (by omega)
        have CL := Lib.hid (fun w1 => lower_any (x : Int) hlb w1)
        have HX0 := Lib.hid hx
        clear hd h10 hx hlb
        go_wp2_with (go_at_call 167; refine (CL.out _).mono ?_; rintro e w2 ⟨rfl, rfl⟩)
        go_roundg (2 - (k + 1))
        case measure => have := HLT.out; omega
        case rel => exact ⟨k + 1, rfl, HLT.out, rfl, by rw [HN.out]; congr 1; have := HX0.out; omega, by go_num, rfl⟩
    · obtain rfl : k = 2 := by omega
      have hz2 : ((s.size : Nat) : Int) = 2 := by have := HZ.out; omega
      clear hlt hk
      go_wp2_with fail
      go_ret2
      exact ⟨rfl, HK.out⟩
end Go.Proofs.YtcdbnjhkjfimkaaDoor
