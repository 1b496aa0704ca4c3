/-
  slices.Concat of rows of bytes; sessionSize.
-/
import Derived.Test.YtgjfejalinkohaaDoorSes13
import Derived.Laws.BitsAllLaws
namespace Go.Proofs.YtgjfejalinkohaaDoor
open Go Go.RowKit

theorem info5' : (Tryd.prog.info? 5).map (fun i => (i.zero, i.size, i.bytes)) = some (some (.int .u8 0), 1, 1) := by kernel_rfl
/-- append of so many zeros onto nil, cut back to no byte: a row of the call's own with room. -/
theorem grow_nil (w : World) (n : Nat) (h0 : 0 < n) (hn : n ≤ 1099511627776) : ∃ c w', (Builtin.append_ #[23, 3] 23 #[.slice none 0 0, .int .i64 n]).run Tryd.prog w = .ok (.slice (some ⟨w.heap.size, 0, none⟩) n c) w' ∧
    w'.ownsRow w.heap.size 5 1 (.slice (some ⟨w.heap.size, 0, none⟩) 0 c) 0 [] ∧ n ≤ c ∧ c ≤ maxLen ∧ Below w.heap.size w w' := by
  obtain ⟨i0, hi, hz0, hz1, hz2⟩ := info_parts info5'
  have h := Lib.run_append_nil_zeros (P := Tryd.prog) w 23 3 23 5 i0 (.int .u8 0) .i64 .i64 Tryd.underlying23 Tryd.underlying3 hi hz0 n h0 (by omega) (by omega) (by rw [hz2]; omega)
  rw [hz1] at *
  refine ⟨grownCap w n 0 5, _, h, ?_, grownCap_ge w _ 0 _, grownCap_le_maxLen w _ 0 _ (by unfold maxLen; omega), ((Below.refl _ w).drew).alloc (Nat.le_refl _) _⟩
  refine ⟨rfl, .inr ⟨w.heap.size, grownCap w n 0 5, _, rfl, Nat.le_refl _, heap_alloc_new w.drew _, Nat.zero_le _, grownCap_le_maxLen w _ 0 _ (by unfold maxLen; omega), ?_, rfl⟩⟩
  have hge := grownCap_ge w n 0 5
  simp [Builtin.zeroCells, Value.cells]
  omega

set_option maxRecDepth 100000 in
set_option maxHeartbeats 2000000 in
theorem slicesGrow_any (n : Nat) (w : World) (hn : n ≤ 1099511627776) :
    Calls Tryd.prog 49 #[.slice none 0 0, .int .i64 n] w fun e w' => ∃ v, e = .returned v ∧ w'.ownsRow w.heap.size 5 1 v 0 [] ∧ Below w.heap.size w w' := by
  have i0 : (0 : Int) ≤ (n : Int) := by omega
  have i1 : (n : Int) ≤ 1099511627776 := by omega
  rcases Nat.eq_zero_or_pos n with h0 | h0
  · subst h0
    go_enter Tryd.func49, Tryd.ntmps49
    go_wp2_with fail
    go_ret
    exact ⟨_, rfl, World.ownsRow_nil _ _ _ _, Below.refl _ _⟩
  · have i2 : (0 : Int) < (n : Int) := by omega
    obtain ⟨c, w', hr, hown, hc, hcm, hb⟩ := grow_nil w n h0 hn
    have HR := Lib.hid hr
    have HO := Lib.hid hown
    have HB := Lib.hid hb
    have i3 : (0 : Int) ≤ (c : Int) := by omega
    clear hr hown hb h0 hn
    go_enter Tryd.func49, Tryd.ntmps49
    go_wp2_with (at_builtin; refine Lib.wpList_append_run _ rfl _ _ _ _ rfl _ _ rfl rfl _ _ HR.out ?_)
    go_ret
    exact ⟨_, rfl, HO.out, HB.out⟩

/-- Rows of bytes, in a slice. -/
def SlsIn (w : World) (a : Option Addr) (n : Nat) (A : Nat → Option Addr) (L C : Nat → Nat) (X : Nat → List Int) : Prop := ∀ r, r < n → ∃ b o, a = some ⟨b, o, none⟩ ∧ w.cell? ⟨b, o + r, none⟩ = some (.slice (A r) (L r) (C r)) ∧ Lib.BytesIn w (A r) (L r) (X r) ∧ (X r).length = L r
theorem SlsIn.kp {w w' : World} {a : Option Addr} {n : Nat} {A : Nat → Option Addr} {L C : Nat → Nat} {X : Nat → List Int} (h : SlsIn w a n A L C X) (hk : Kp w w') : SlsIn w' a n A L C X := fun r hr => by
  obtain ⟨b, o, h1, h2, h3, h4⟩ := h r hr
  exact ⟨b, o, h1, below_some hk h2, bin_kp h3 hk, h4⟩
def catN (X : Nat → List Int) : Nat → List Int
  | 0 => []
  | k + 1 => catN X k ++ X k
theorem catN_mono (X : Nat → List Int) : ∀ k n, k ≤ n → (catN X k).length ≤ (catN X n).length
  | k, 0, h => by obtain rfl : k = 0 := by omega
                  exact Nat.le_refl _
  | k, n + 1, h => by
    by_cases e : k = n + 1
    · rw [e]; exact Nat.le_refl _
    · have := catN_mono X k n (by omega)
      simp [catN]; omega

set_option maxRecDepth 100000 in
set_option maxHeartbeats 4000000 in
theorem concat_any (a : Option Addr) (n c : Nat) (A : Nat → Option Addr) (L C : Nat → Nat) (X : Nat → List Int) (w : World) (h : SlsIn w a n A L C X) (hn : n ≤ 1000000) (hl : (catN X n).length ≤ 10000000000) :
    Calls Tryd.prog 29 #[.slice a n c] w fun e w' => ∃ v, e = .returned v ∧ w'.ownsRow w.heap.size 5 1 v (catN X n).length ((catN X n).map (Value.int .u8)) ∧ Below w.heap.size w w' := by
  have H := Lib.hid h
  have i0 : (0 : Int) ≤ (n : Int) := by omega
  have i1 : (n : Int) ≤ 1000000 := by omega
  have HL := Lib.hid hl
  have HM := Lib.hid (fun k (hk : k ≤ n) => catN_mono X k n hk)
  clear h hn hl
  go_enter Tryd.func29, Tryd.ntmps29
  go_wp2_with fail
  go_loopg [11, 3] n (fun G st sm wr => ∃ k : Nat, G = n - k ∧ k ≤ n ∧ st = .int .i64 (k : Int) ∧ sm = .int .i64 ((catN X k).length : Int) ∧ w = wr)
  case atStart => exact ⟨0, rfl, Nat.zero_le _, rfl, rfl, rfl⟩
  case round =>
    obtain ⟨k, rfl, hk, rfl, rfl, rfl⟩ := hrel
    obtain ⟨sz, hsz⟩ : ∃ sz, sz = (catN X k).length := ⟨_, rfl⟩
    have j0 : (0 : Int) ≤ (sz : Int) := by omega
    have j1 : (sz : Int) ≤ 10000000000 := by have := HM.out k hk; have := HL.out; omega
    rw [← hsz]
    by_cases hlt : k < n
    · obtain ⟨b, o, rfl, hc, _, hx⟩ := H.out k hlt
      have i2 : (k : Int) < (n : Int) := by omega
      have j2 : (sz : Int) + (L k : Int) ≤ 10000000000 := by have h1 := HM.out (k + 1) hlt; have h2 := HL.out; simp only [catN, List.length_append] at h1; omega
      have j3 : (0 : Int) ≤ (L k : Int) := by omega
      have HX := Lib.hid hx
      have HSZ := Lib.hid hsz
      have HLT := Lib.hid hlt
      clear hx hsz hlt hk
      go_wp2_with fail
      go_roundg (n - (k + 1))
      case measure => have := HLT.out; omega
      case rel => exact ⟨k + 1, rfl, HLT.out, by go_num, by congr 1; simp only [catN, List.length_append, HX.out, ← HSZ.out]; omega, rfl⟩
    · obtain rfl : k = n := by omega
      have HSZ := Lib.hid hsz
      clear hsz hlt hk
      go_wp2_with fail
      refine (slicesGrow_any sz _ (by omega)).mono ?_
      rintro e w1 ⟨v1, rfl, hown, hb1⟩
      have HO1 := Lib.hid hown
      have HB1 := Lib.hid hb1
      clear hown hb1
      go_wp2_with fail
      go_loopg [27, 6] k (fun G st v wr => ∃ (j : Nat) (v0 : Value), G = k - j ∧ j ≤ k ∧ st = .int .i64 (j : Int) ∧ v0 = v ∧ wr.ownsRow w.heap.size 5 1 v0 (catN X j).length ((catN X j).map (Value.int .u8)) ∧ Kp w wr)
      case atStart => exact ⟨0, v1, rfl, Nat.zero_le _, rfl, rfl, HO1.out, HB1.out⟩
      case round =>
        obtain ⟨j, v, rfl, hj, rfl, rfl, hown, hkp⟩ := hrel
        have HO := Lib.hid hown
        have HK := Lib.hid hkp
        have HJ := Lib.hid hj
        have k0 : (j : Int) ≤ (k : Int) := by omega
        clear hown hkp hj
        by_cases hlt : j < k
        · obtain ⟨b, o, rfl, hc, hin, hx⟩ := H.out.kp HK.out j hlt
          have k1 : (j : Int) < (k : Int) := by omega
          have hlen : (catN X j).length + L j ≤ 10000000000 := by have h1 := HM.out (j + 1) hlt; have h2 := HL.out; simp only [catN, List.length_append] at h1; omega
          obtain ⟨v', w', hrun, hov, hgr, _⟩ := run_append_bytes wr w.heap.size v (catN X j).length (catN X j) HO.out (A j) (L j) (C j) (X j) hin hx (by omega) HK.out.size
          have HRUN := Lib.hid hrun
          have HOV := Lib.hid hov
          have HGR := Lib.hid hgr
          have HX := Lib.hid hx
          have HLT := Lib.hid hlt
          clear hrun hov hgr hin hx hlen hlt
          go_wp2_with (at_builtin; refine Lib.wpList_append_run _ rfl _ _ _ _ rfl _ _ rfl rfl _ _ HRUN.out ?_)
          go_roundg (k - (j + 1))
          case measure => have := HLT.out; omega
          case rel => exact ⟨j + 1, v', rfl, HLT.out, by go_num, rfl, by
            have := HOV.out
            rw [← HX.out, ← List.length_append] at this
            exact this, HK.out.grown HGR.out (own_ge HO.out)⟩
        · obtain rfl : j = k := by have := HJ.out; omega
          go_wp2_with fail
          go_ret
          exact ⟨v, rfl, HO.out, HK.out⟩

/-- A part of a message: its kind, the size of its number, the number. -/
def partSize (s : Nat) : Nat := if s % 4 = 0 then 1 else if s % 4 = 1 then 2 else if s % 4 = 2 then 4 else 8
def partNum (kd s num : Nat) : Nat := if kd % 6 = 2 then num % (256 ^ partSize s / 2) else num % 256 ^ partSize s
theorem and_mask (n k m : Nat) (hn : n < 18446744073709551616) (hm : m = 2 ^ k - 1) (hk : k ≤ 63) : bits .and .u64 (n : Int) (m : Int) = ((n % 2 ^ k : Nat) : Int) := by
  have h63 : 2 ^ k ≤ 2 ^ 63 := Nat.pow_le_pow_right (by omega) hk
  have hp : (2 : Nat) ^ 63 = 9223372036854775808 := by decide
  rw [u64_and_nat n m hn (by omega), hm, Nat.and_two_pow_sub_one_eq_mod]

set_option maxRecDepth 100000 in
set_option maxHeartbeats 8000000 in
theorem sessionSize_any (kd s num : Nat) (big comp : Bool) (flag : Int) (q1 q2 : Option Addr) (k1 c1 k2 c2 : Nat) (w : World) (hkd : kd < 256) (hs : s < 256) (hnum : num < 18446744073709551616) :
    Calls Tryd.prog 21 #[.agg #[.int .u8 (kd : Int), .int .u8 (s : Int), .int .u64 (num : Int), .bool big, .bool comp, .int .u8 flag, .slice q1 k1 c1, .slice q2 k2 c2]] w fun e w' => e = .returned (.tuple #[.int .u8 (partSize s : Int), .int .u64 (partNum kd s num : Int)]) ∧ Below w.heap.size w w' := by
  have i0 : (0 : Int) ≤ (kd : Int) := by omega
  have i1 : (kd : Int) < 256 := by omega
  have i2 : (0 : Int) ≤ (s : Int) := by omega
  have i3 : (s : Int) < 256 := by omega
  have i4 : (0 : Int) ≤ (num : Int) := by omega
  have i5 : (num : Int) ≤ 18446744073709551615 := by omega
  obtain h4 | h4 | h4 | h4 : s % 4 = 0 ∨ s % 4 = 1 ∨ s % 4 = 2 ∨ s % 4 = 3 := by omega
  · have e4 : (s : Int) % 4 = 0 := by omega
    have hS : partSize s = 1 := by simp [partSize, h4]
    by_cases h6 : kd % 6 = 2
    · have e6 : (kd : Int) % 6 = 2 := by omega
      have hN : partNum kd s num = num % 128 := by simp [partNum, h6, hS]
      have m0 : bits .and .u64 (num : Int) 255 = (num : Int) % 256 := by rw [show (255 : Int) = ((255 : Nat) : Int) from rfl, and_mask num 8 255 hnum (by decide) (by omega)]; omega
      have m1 : bits .and .u64 ((num : Int) % 256) 127 = ((partNum kd s num : Nat) : Int) := by rw [show ((num : Int) % 256) = ((num % 256 : Nat) : Int) by omega, show (127 : Int) = ((127 : Nat) : Int) from rfl, and_mask (num % 256) 7 127 (by omega) (by decide) (by omega), hN]; omega
      have HS := Lib.hid hS
      clear hS hN h4 h6 hkd hs hnum
      go_enter Tryd.func21, Tryd.ntmps21
      go_wp2_with fail
      go_ret2
      exact ⟨by rw [HS.out]; rfl, (((Kp.refl w).alloc _).alloc _)⟩
    · have e6 : ((kd : Int) % 6 == 2) = false := by simp; omega
      have hN : partNum kd s num = num % 256 := by simp [partNum, h6, hS]
      have m0 : bits .and .u64 (num : Int) 255 = ((partNum kd s num : Nat) : Int) := by rw [show (255 : Int) = ((255 : Nat) : Int) from rfl, and_mask num 8 255 hnum (by decide) (by omega), hN]
      have HS := Lib.hid hS
      clear hS hN h4 h6 hkd hs hnum
      go_enter Tryd.func21, Tryd.ntmps21
      go_wp2_with fail
      go_ret2
      exact ⟨by rw [HS.out]; rfl, (((Kp.refl w).alloc _).alloc _)⟩
  · have e4 : (s : Int) % 4 = 1 := by omega
    have hS : partSize s = 2 := by simp [partSize, h4]
    by_cases h6 : kd % 6 = 2
    · have e6 : (kd : Int) % 6 = 2 := by omega
      have hN : partNum kd s num = num % 32768 := by simp [partNum, h6, hS]
      have m0 : bits .and .u64 (num : Int) 65535 = (num : Int) % 65536 := by rw [show (65535 : Int) = ((65535 : Nat) : Int) from rfl, and_mask num 16 65535 hnum (by decide) (by omega)]; omega
      have m1 : bits .and .u64 ((num : Int) % 65536) 32767 = ((partNum kd s num : Nat) : Int) := by rw [show ((num : Int) % 65536) = ((num % 65536 : Nat) : Int) by omega, show (32767 : Int) = ((32767 : Nat) : Int) from rfl, and_mask (num % 65536) 15 32767 (by omega) (by decide) (by omega), hN]; omega
      have HS := Lib.hid hS
      clear hS hN h4 h6 hkd hs hnum
      go_enter Tryd.func21, Tryd.ntmps21
      go_wp2_with fail
      go_ret2
      exact ⟨by rw [HS.out]; rfl, (((Kp.refl w).alloc _).alloc _)⟩
    · have e6 : ((kd : Int) % 6 == 2) = false := by simp; omega
      have hN : partNum kd s num = num % 65536 := by simp [partNum, h6, hS]
      have m0 : bits .and .u64 (num : Int) 65535 = ((partNum kd s num : Nat) : Int) := by rw [show (65535 : Int) = ((65535 : Nat) : Int) from rfl, and_mask num 16 65535 hnum (by decide) (by omega), hN]
      have HS := Lib.hid hS
      clear hS hN h4 h6 hkd hs hnum
      go_enter Tryd.func21, Tryd.ntmps21
      go_wp2_with fail
      go_ret2
      exact ⟨by rw [HS.out]; rfl, (((Kp.refl w).alloc _).alloc _)⟩
  · have e4 : (s : Int) % 4 = 2 := by omega
    have hS : partSize s = 4 := by simp [partSize, h4]
    by_cases h6 : kd % 6 = 2
    · have e6 : (kd : Int) % 6 = 2 := by omega
      have hN : partNum kd s num = num % 2147483648 := by simp [partNum, h6, hS]
      have m0 : bits .and .u64 (num : Int) 4294967295 = (num : Int) % 4294967296 := by rw [show (4294967295 : Int) = ((4294967295 : Nat) : Int) from rfl, and_mask num 32 4294967295 hnum (by decide) (by omega)]; omega
      have m1 : bits .and .u64 ((num : Int) % 4294967296) 2147483647 = ((partNum kd s num : Nat) : Int) := by rw [show ((num : Int) % 4294967296) = ((num % 4294967296 : Nat) : Int) by omega, show (2147483647 : Int) = ((2147483647 : Nat) : Int) from rfl, and_mask (num % 4294967296) 31 2147483647 (by omega) (by decide) (by omega), hN]; omega
      have HS := Lib.hid hS
      clear hS hN h4 h6 hkd hs hnum
      go_enter Tryd.func21, Tryd.ntmps21
      go_wp2_with fail
      go_ret2
      exact ⟨by rw [HS.out]; rfl, (((Kp.refl w).alloc _).alloc _)⟩
    · have e6 : ((kd : Int) % 6 == 2) = false := by simp; omega
      have hN : partNum kd s num = num % 4294967296 := by simp [partNum, h6, hS]
      have m0 : bits .and .u64 (num : Int) 4294967295 = ((partNum kd s num : Nat) : Int) := by rw [show (4294967295 : Int) = ((4294967295 : Nat) : Int) from rfl, and_mask num 32 4294967295 hnum (by decide) (by omega), hN]
      have HS := Lib.hid hS
      clear hS hN h4 h6 hkd hs hnum
      go_enter Tryd.func21, Tryd.ntmps21
      go_wp2_with fail
      go_ret2
      exact ⟨by rw [HS.out]; rfl, (((Kp.refl w).alloc _).alloc _)⟩
  · have e4 : (s : Int) % 4 = 3 := by omega
    have hS : partSize s = 8 := by simp [partSize, h4]
    by_cases h6 : kd % 6 = 2
    · have e6 : (kd : Int) % 6 = 2 := by omega
      have hN : partNum kd s num = num % 9223372036854775808 := by simp [partNum, h6, hS]
      have m1 : bits .and .u64 (num : Int) 9223372036854775807 = ((partNum kd s num : Nat) : Int) := by rw [show (9223372036854775807 : Int) = ((9223372036854775807 : Nat) : Int) from rfl, and_mask num 63 9223372036854775807 hnum (by decide) (by omega), hN]
      have HS := Lib.hid hS
      clear hS hN h4 h6 hkd hs hnum
      go_enter Tryd.func21, Tryd.ntmps21
      go_wp2_with fail
      go_ret2
      exact ⟨by rw [HS.out]; rfl, (((Kp.refl w).alloc _).alloc _)⟩
    · have e6 : ((kd : Int) % 6 == 2) = false := by simp; omega
      have hN : partNum kd s num = num % 18446744073709551616 := by simp [partNum, h6, hS]
      rw [show partNum kd s num = num from by rw [hN]; omega]
      have HS := Lib.hid hS
      clear hS hN h4 h6 hkd hs hnum
      go_enter Tryd.func21, Tryd.ntmps21
      go_wp2_with fail
      go_ret2
      exact ⟨by rw [HS.out]; rfl, (((Kp.refl w).alloc _).alloc _)⟩
end Go.Proofs.YtgjfejalinkohaaDoor
