/-
  sessionFits: at most 20 parts with at most 1000 bytes each.
-/
import Derived.Test.YtgjfejalinkohaaDoorSes20
namespace Go.Proofs.YtgjfejalinkohaaDoor
open Go Go.RowKit

set_option maxHeartbeats 2000000 in
theorem indexLong_any (a : Option Addr) (n c : Nat) (P : Nat → LPart) (w : World) (h : PartsIn w a n P) (hn : n ≤ 20) :
    Calls Tryd.prog 80 #[.slice a n c, .func (.func 48) #[] #[]] w fun e w' => ∃ i : Int, e = .returned (.int .i64 i) ∧ (allFit 1000 P n = true → i = -1) ∧ (allFit 1000 P n = false → 0 ≤ i) ∧ Kp w w' := by
  have i0 : (n : Int) ≤ 20 := by omega
  have HP := Lib.hid h
  clear h hn
  go_enter Tryd.func80, Tryd.ntmps80
  go_wp2_with fail
  go_loopg [8] n (fun G st wr => ∃ k : Nat, G = n - k ∧ k ≤ n ∧ st = .int .i64 (k : Int) ∧ allFit 1000 P k = true ∧ Kp w wr)
  case atStart => exact ⟨0, rfl, Nat.zero_le _, rfl, rfl, Kp.refl _⟩
  case round =>
    obtain ⟨k, rfl, hk, rfl, hall, hkp⟩ := hrel
    have HALL := Lib.hid hall
    have HK := Lib.hid hkp
    have HKN := Lib.hid hk
    have j0 : (0 : Int) ≤ (k : Int) := by omega
    have j1 : (k : Int) ≤ (n : Int) := by omega
    clear hall hkp hk
    by_cases hlt : k < n
    · have j2 : (k : Int) < (n : Int) := by omega
      obtain ⟨b, o, rfl, hc, _, _, hok⟩ := HP.out.kp HK.out k hlt
      have HLT := Lib.hid hlt
      have HFA := Lib.hid (fun h => allFit_no 1000 P k h n hlt)
      have HAS := Lib.hid (show allFit 1000 P (k + 1) = (P k).fits 1000 from by simp [allFit, HALL.out])
      clear hlt
      generalize P k = s at hc hok HFA HAS
      have HOK := Lib.hid hok
      have d0 : wr.cell? ⟨b, o + k * 8, none⟩ = some (.int .u8 (s.kd : Int)) := hc 0 _ rfl
      have d1 : wr.cell? ⟨b, o + k * 8 + 1, none⟩ = some (.int .u8 (s.sz : Int)) := hc 1 _ rfl
      have d2 : wr.cell? ⟨b, o + k * 8 + 2, none⟩ = some (.int .u64 (s.num : Int)) := hc 2 _ rfl
      have d3 : wr.cell? ⟨b, o + k * 8 + 3, none⟩ = some (.bool s.big) := hc 3 _ rfl
      have d4 : wr.cell? ⟨b, o + k * 8 + 4, none⟩ = some (.bool s.comp) := hc 4 _ rfl
      have d5 : wr.cell? ⟨b, o + k * 8 + 5, none⟩ = some (.int .u8 (s.flag : Int)) := hc 5 _ rfl
      have d6 : wr.cell? ⟨b, o + k * 8 + 6, none⟩ = some (.slice s.q1 s.k1 s.c1) := hc 6 _ rfl
      have d7 : wr.cell? ⟨b, o + k * 8 + 7, none⟩ = some (.slice s.q2 s.k2 s.c2) := hc 7 _ rfl
      clear hc hok
      go_wp2_with fail
      refine (tooLong_any s HOK.out _).mono ?_
      rintro e w1 ⟨rfl, hb1⟩
      have HB1 := Lib.hid hb1
      clear hb1 d0 d1 d2 d3 d4 d5 d6 d7
      cases hf : s.fits 1000
      · have HF := Lib.hid hf
        clear hf
        go_wp2_with fail
        go_ret
        exact ⟨(k : Int), rfl, fun h => (by rw [HFA.out HF.out] at h; cases h), fun _ => by omega, HK.out.trans HB1.out⟩
      · have HF := Lib.hid hf
        clear hf
        go_wp2_with fail
        go_roundg (n - (k + 1))
        case measure => have := HLT.out; omega
        case rel => exact ⟨k + 1, rfl, HLT.out, by go_num, by rw [HAS.out]; exact HF.out, HK.out.trans HB1.out⟩
    · obtain rfl : k = n := by have := HKN.out; omega
      clear hlt
      go_wp2_with fail
      go_ret
      exact ⟨-1, rfl, fun _ => rfl, fun h => (by rw [HALL.out] at h; cases h), HK.out⟩
set_option maxHeartbeats 1000000 in
theorem anyLong_any (a : Option Addr) (n c : Nat) (P : Nat → LPart) (w : World) (h : PartsIn w a n P) (hn : n ≤ 20) :
    Calls Tryd.prog 47 #[.slice a n c, .func (.func 48) #[] #[]] w fun e w' => e = .returned (.bool (!allFit 1000 P n)) ∧ Kp w w' := by
  have HI := Lib.hid (indexLong_any a n c P w h hn)
  clear h hn
  generalize allFit 1000 P n = t at HI ⊢
  go_enter Tryd.func47, Tryd.ntmps47
  go_wp2_with fail
  refine HI.out.mono ?_
  rintro e w1 ⟨i, rfl, h1, h2, hb⟩
  have HB := Lib.hid hb
  clear hb HI
  cases t
  · have i0 := h2 rfl
    clear h1 h2
    go_wp2_with fail
    go_ret
    exact ⟨rfl, HB.out⟩
  · obtain rfl := h1 rfl
    clear h1 h2
    go_wp2_with fail
    go_ret
    exact ⟨rfl, HB.out⟩
set_option maxHeartbeats 1000000 in
theorem sessionFits_any (a : Option Addr) (n c : Nat) (P : Nat → LPart) (w : World) (h : PartsIn w a n P) (hn : n ≤ 20) :
    Calls Tryd.prog 24 #[.slice a n c] w fun e w' => e = .returned (.bool (allFit 1000 P n)) ∧ Kp w w' := by
  have i0 : (n : Int) ≤ 20 := by omega
  have HP := Lib.hid (anyLong_any a n c P w h hn)
  clear h hn
  go_enter Tryd.func24, Tryd.ntmps24
  go_wp2_with fail
  refine HP.out.mono ?_
  rintro e w1 ⟨rfl, hb⟩
  have HB := Lib.hid hb
  clear hb HP
  go_wp2_with fail
  go_ret
  exact ⟨by simp, HB.out⟩
theorem sessionFits_no (a : Option Addr) (n c : Nat) (w : World) (hn : 20 < n) (hm : n ≤ 2147483647) :
    Calls Tryd.prog 24 #[.slice a n c] w fun e w' => e = .returned (.bool false) ∧ Kp w w' := by
  have i0 : (20 : Int) < (n : Int) := by omega
  have i1 : (n : Int) ≤ 2147483647 := by omega
  clear hn hm
  go_enter Tryd.func24, Tryd.ntmps24
  go_wp2_with fail
  go_ret
  exact ⟨rfl, Kp.refl _⟩
end Go.Proofs.YtgjfejalinkohaaDoor
