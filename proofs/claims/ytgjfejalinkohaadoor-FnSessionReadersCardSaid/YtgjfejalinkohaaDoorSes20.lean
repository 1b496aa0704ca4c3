/-
  Parts of messages as they lie in memory; the laws' tests of their sizes.
-/
import Derived.Test.YtgjfejalinkohaaDoorSes19
namespace Go.Proofs.YtgjfejalinkohaaDoor
open Go Go.RowKit

/-- A part of a message. -/
structure LPart where
  kd : Nat
  sz : Nat
  num : Nat
  big : Bool
  comp : Bool
  flag : Nat
  q1 : Option Addr
  k1 : Nat
  c1 : Nat
  ys : List Int
  q2 : Option Addr
  k2 : Nat
  c2 : Nat
  zs : List Int
def LPart.cells (s : LPart) : List Value := [.int .u8 s.kd, .int .u8 s.sz, .int .u64 s.num, .bool s.big, .bool s.comp, .int .u8 s.flag, .slice s.q1 s.k1 s.c1, .slice s.q2 s.k2 s.c2]
structure LPart.Ok (s : LPart) : Prop where
  kd : s.kd < 256
  sz : s.sz < 256
  num : s.num < 18446744073709551616
  flag : s.flag < 256
  l1 : s.ys.length = s.k1
  b1 : Bys s.ys
  n1 : s.k1 ≤ s.c1
  m1 : s.c1 ≤ maxLen
  l2 : s.zs.length = s.k2
  b2 : Bys s.zs
  n2 : s.k2 ≤ s.c2
  m2 : s.c2 ≤ maxLen
def PartsIn (w : World) (a : Option Addr) (n : Nat) (P : Nat → LPart) : Prop := ∀ r, r < n → ∃ b o, a = some ⟨b, o, none⟩ ∧ (∀ j v, (P r).cells[j]? = some v → w.cell? ⟨b, o + r * 8 + j, none⟩ = some v) ∧ Lib.BytesIn w (P r).q1 (P r).k1 (P r).ys ∧ Lib.BytesIn w (P r).q2 (P r).k2 (P r).zs ∧ (P r).Ok
theorem PartsIn.kp {w w' : World} {a : Option Addr} {n : Nat} {P : Nat → LPart} (h : PartsIn w a n P) (hk : Kp w w') : PartsIn w' a n P := fun r hr => by
  obtain ⟨b, o, h1, h2, h3, h4, h5⟩ := h r hr
  exact ⟨b, o, h1, fun j v hv => below_some hk (h2 j v hv), bin_kp h3 hk, bin_kp h4 hk, h5⟩
def LPart.fits (m : Nat) (s : LPart) : Bool := decide (s.k1 ≤ m) && decide (s.k2 ≤ m)
theorem LPart.Ok.lim {s : LPart} (h : s.Ok) : (s.k1 : Int) ≤ 9223372036854775807 ∧ (s.k2 : Int) ≤ 9223372036854775807 := by
  have h1 := h.n1; have h2 := h.m1; have h3 := h.n2; have h4 := h.m2
  unfold maxLen at h2 h4
  omega

set_option maxHeartbeats 1000000 in
theorem zzFits12_any (s : LPart) (hs : s.Ok) (w : World) :
    Calls Tryd.prog 46 #[.agg #[.int .u8 (s.kd : Int), .int .u8 (s.sz : Int), .int .u64 (s.num : Int), .bool s.big, .bool s.comp, .int .u8 (s.flag : Int), .slice s.q1 s.k1 s.c1, .slice s.q2 s.k2 s.c2]] w fun e w' => e = .returned (.bool (s.fits 2147483647)) ∧ Kp w w' := by
  obtain ⟨i1, i2⟩ := hs.lim
  have i3 : (0 : Int) ≤ (s.k1 : Int) := by omega
  have i4 : (0 : Int) ≤ (s.k2 : Int) := by omega
  clear hs
  by_cases h1 : s.k1 ≤ 2147483647
  · have i5 : (s.k1 : Int) ≤ 2147483647 := by omega
    by_cases h2 : s.k2 ≤ 2147483647
    · have i6 : (s.k2 : Int) ≤ 2147483647 := by omega
      have hf : s.fits 2147483647 = true := by simp [LPart.fits, h1, h2]
      rw [hf]
      clear h1 h2 hf
      go_enter Tryd.func46, Tryd.ntmps46
      go_wp2
      go_ret
      exact ⟨rfl, (Kp.refl w).alloc _⟩
    · have i6 : (2147483647 : Int) < (s.k2 : Int) := by omega
      have hf : s.fits 2147483647 = false := by simp [LPart.fits, h2]
      rw [hf]
      clear h1 h2 hf
      go_enter Tryd.func46, Tryd.ntmps46
      go_wp2
      go_ret
      exact ⟨rfl, (Kp.refl w).alloc _⟩
  · have i5 : (2147483647 : Int) < (s.k1 : Int) := by omega
    have hf : s.fits 2147483647 = false := by simp [LPart.fits, h1]
    rw [hf]
    clear h1 hf
    go_enter Tryd.func46, Tryd.ntmps46
    go_wp2
    go_ret
    exact ⟨rfl, (Kp.refl w).alloc _⟩

set_option maxHeartbeats 1000000 in
theorem tooLong_any (s : LPart) (hs : s.Ok) (w : World) :
    Calls Tryd.prog 48 #[.agg #[.int .u8 (s.kd : Int), .int .u8 (s.sz : Int), .int .u64 (s.num : Int), .bool s.big, .bool s.comp, .int .u8 (s.flag : Int), .slice s.q1 s.k1 s.c1, .slice s.q2 s.k2 s.c2]] w fun e w' => e = .returned (.bool (!s.fits 1000)) ∧ Kp w w' := by
  obtain ⟨i1, i2⟩ := hs.lim
  have i3 : (0 : Int) ≤ (s.k1 : Int) := by omega
  have i4 : (0 : Int) ≤ (s.k2 : Int) := by omega
  clear hs
  by_cases h1 : s.k1 ≤ 1000
  · have i5 : (s.k1 : Int) ≤ 1000 := by omega
    by_cases h2 : s.k2 ≤ 1000
    · have i6 : (s.k2 : Int) ≤ 1000 := by omega
      have hf : s.fits 1000 = true := by simp [LPart.fits, h1, h2]
      rw [hf]
      clear h1 h2 hf
      go_enter Tryd.func48, Tryd.ntmps48
      go_wp2
      go_ret
      exact ⟨by show Ending.returned (.bool (decide ((1000 : Int) < s.k1) || decide ((1000 : Int) < s.k2))) = _; simp; omega, (Kp.refl w).alloc _⟩
    · have i6 : (1000 : Int) < (s.k2 : Int) := by omega
      have hf : s.fits 1000 = false := by simp [LPart.fits, h2]
      rw [hf]
      clear h1 h2 hf
      go_enter Tryd.func48, Tryd.ntmps48
      go_wp2
      go_ret
      exact ⟨rfl, (Kp.refl w).alloc _⟩
  · have i5 : (1000 : Int) < (s.k1 : Int) := by omega
    have hf : s.fits 1000 = false := by simp [LPart.fits, h1]
    rw [hf]
    clear h1 hf
    go_enter Tryd.func48, Tryd.ntmps48
    go_wp2
    go_ret
    exact ⟨rfl, (Kp.refl w).alloc _⟩

/-- Whether all parts fit. -/
def allFit (m : Nat) (P : Nat → LPart) : Nat → Bool
  | 0 => true
  | k + 1 => allFit m P k && (P k).fits m
theorem allFit_no (m : Nat) (P : Nat → LPart) (k : Nat) (h : (P k).fits m = false) : ∀ n, k < n → allFit m P n = false
  | 0, hk => by omega
  | n + 1, hk => by
    by_cases e : k = n
    · subst e; simp [allFit, h]
    · simp [allFit, allFit_no m P k h n (by omega)]
theorem allFit_at (m : Nat) (P : Nat → LPart) : ∀ n, allFit m P n = true → ∀ r, r < n → (P r).fits m = true
  | 0, _, r, hr => by omega
  | n + 1, h, r, hr => by
    simp only [allFit, Bool.and_eq_true] at h
    by_cases e : r = n
    · rw [e]; exact h.2
    · exact allFit_at m P n h.1 r (by omega)

set_option maxHeartbeats 2000000 in
theorem zzFits11_few (a : Option Addr) (n c : Nat) (P : Nat → LPart) (w : World) (h : PartsIn w a n P) (hn : n ≤ 2147483647) :
    Calls Tryd.prog 23 #[.slice a n c] w fun e w' => e = .returned (.bool (allFit 2147483647 P n)) ∧ Kp w w' := by
  have i0 : (n : Int) ≤ 2147483647 := by omega
  have HP := Lib.hid h
  clear h hn
  go_enter Tryd.func23, Tryd.ntmps23
  go_wp2_with fail
  go_loopg [10] n (fun G st wr => ∃ k : Nat, G = n - k ∧ k ≤ n ∧ st = .int .i64 (k : Int) ∧ allFit 2147483647 P k = true ∧ Kp w wr)
  case atStart => exact ⟨0, rfl, Nat.zero_le _, rfl, rfl, Kp.refl _⟩
  case round =>
    obtain ⟨k, rfl, hk, rfl, hall, hkp⟩ := hrel
    have HALL := Lib.hid hall
    have HK := Lib.hid hkp
    have HKN := Lib.hid hk
    have j0 : (0 : Int) ≤ (k : Int) := by omega
    have j1 : (k : Int) ≤ (n : Int) := by omega
    clear hall hkp hk
    by_cases hlt : k < n
    · have j2 : (k : Int) < (n : Int) := by omega
      obtain ⟨b, o, rfl, hc, _, _, hok⟩ := HP.out.kp HK.out k hlt
      have HLT := Lib.hid hlt
      have HFA := Lib.hid (fun h => allFit_no 2147483647 P k h n hlt)
      have HAS := Lib.hid (show allFit 2147483647 P (k + 1) = (P k).fits 2147483647 from by simp [allFit, HALL.out])
      clear hlt
      generalize P k = s at hc hok HFA HAS
      have HOK := Lib.hid hok
      have d0 : wr.cell? ⟨b, o + k * 8, none⟩ = some (.int .u8 (s.kd : Int)) := hc 0 _ rfl
      have d1 : wr.cell? ⟨b, o + k * 8 + 1, none⟩ = some (.int .u8 (s.sz : Int)) := hc 1 _ rfl
      have d2 : wr.cell? ⟨b, o + k * 8 + 2, none⟩ = some (.int .u64 (s.num : Int)) := hc 2 _ rfl
      have d3 : wr.cell? ⟨b, o + k * 8 + 3, none⟩ = some (.bool s.big) := hc 3 _ rfl
      have d4 : wr.cell? ⟨b, o + k * 8 + 4, none⟩ = some (.bool s.comp) := hc 4 _ rfl
      have d5 : wr.cell? ⟨b, o + k * 8 + 5, none⟩ = some (.int .u8 (s.flag : Int)) := hc 5 _ rfl
      have d6 : wr.cell? ⟨b, o + k * 8 + 6, none⟩ = some (.slice s.q1 s.k1 s.c1) := hc 6 _ rfl
      have d7 : wr.cell? ⟨b, o + k * 8 + 7, none⟩ = some (.slice s.q2 s.k2 s.c2) := hc 7 _ rfl
      clear hc hok
      go_wp2_with fail
      refine (zzFits12_any s HOK.out _).mono ?_
      rintro e w1 ⟨rfl, hb1⟩
      have HB1 := Lib.hid (show Kp wr w1 from ((Kp.refl wr).alloc _).trans hb1)
      clear hb1 d0 d1 d2 d3 d4 d5 d6 d7
      cases hf : s.fits 2147483647
      · have HF := Lib.hid hf
        clear hf
        go_wp2_with fail
        go_ret
        exact ⟨by rw [HFA.out HF.out]; rfl, HK.out.trans HB1.out⟩
      · have HF := Lib.hid hf
        clear hf
        go_wp2_with fail
        go_roundg (n - (k + 1))
        case measure => have := HLT.out; omega
        case rel => exact ⟨k + 1, rfl, HLT.out, by go_num, by rw [HAS.out]; exact HF.out, HK.out.trans HB1.out⟩
    · obtain rfl : k = n := by have := HKN.out; omega
      clear hlt
      go_wp2_with fail
      go_ret
      exact ⟨by rw [HALL.out]; rfl, HK.out⟩
theorem zzFits11_big (a : Option Addr) (n c : Nat) (w : World) (hn : 2147483647 < n) (hm : n ≤ maxLen) :
    Calls Tryd.prog 23 #[.slice a n c] w fun e w' => e = .returned (.bool false) ∧ Kp w w' := by
  unfold maxLen at hm
  have i0 : (2147483647 : Int) < (n : Int) := by omega
  have i1 : (n : Int) ≤ 9223372036854775807 := by omega
  clear hn hm
  go_enter Tryd.func23, Tryd.ntmps23
  go_wp2
  go_ret
  exact ⟨rfl, Kp.refl _⟩

end Go.Proofs.YtgjfejalinkohaaDoor
