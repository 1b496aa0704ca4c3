/-
  FnIntervalDays: the law returns true for every interval.
-/
import Derived.Test.YtaohgebiedkdaaaDoorInt4
namespace Go.Proofs.YtaohgebiedkdaaaDoor
open Go Go.RowKit

theorem iv_cells {w : World} {g : Nat} {t : TypeId} {mi : Bool} {d h m s n y o : Int} (h' : Blk w g t #[.bool mi, .int .i64 d, .int .i64 h, .int .i64 m, .int .i64 s, .int .i64 n, .int .i64 y, .int .i64 o]) :
    w.cell? ⟨g, 0, none⟩ = some (.bool mi) ∧ w.cell? ⟨g, 1, none⟩ = some (.int .i64 d) ∧ w.cell? ⟨g, 2, none⟩ = some (.int .i64 h) ∧ w.cell? ⟨g, 3, none⟩ = some (.int .i64 m) ∧ w.cell? ⟨g, 4, none⟩ = some (.int .i64 s) ∧ w.cell? ⟨g, 5, none⟩ = some (.int .i64 n) ∧ w.cell? ⟨g, 6, none⟩ = some (.int .i64 y) ∧ w.cell? ⟨g, 7, none⟩ = some (.int .i64 o) :=
  ⟨h'.cell 0, h'.cell 1, h'.cell 2, h'.cell 3, h'.cell 4, h'.cell 5, h'.cell 6, h'.cell 7⟩
def Iv.bytes (x : Iv) : List Int := if x.mi then ivL (2147483648 - x.d) (60 - x.h) (60 - x.m) (60 - x.s) (2147483648 - x.n) else ivL (2147483648 + x.d) (60 + x.h) (60 + x.m) (60 + x.s) (2147483648 + x.n)
theorem Iv.bytes_length (x : Iv) : x.bytes.length = 11 := by unfold Iv.bytes; cases x.mi <;> rfl
theorem ivBytes_any (x : Iv) (hr : x.Right) (w : World) :
    Calls Tryd.prog 31 #[x.val] w fun e w' => ∃ v, e = .returned v ∧ w'.ownsRow w.heap.size 5 1 v 11 (x.bytes.map (Value.int .u8)) ∧ Kp w w' := by
  obtain ⟨mi, d, h, m, s, n, y, o⟩ := x
  cases mi
  · exact ivBytes_plus d h m s n y o hr w
  · exact ivBytes_minus d h m s n y o hr w
def Iv.text (x : Iv) : ByteArray := ivText x.sign x.d x.h x.m x.s (x.n / 1000)
theorem convert_any (x : Iv) (hr : x.Right) (b q c : Nat) (hc11 : 11 ≤ c) (w : World) (ht : Tab w) (hc : ∀ i, i < 11 → w.cell? ⟨b, q + i, none⟩ = some (.int .u8 (x.bytes.getD i 0))) :
    Calls Tryd.prog 50 #[.slice (some ⟨b, q, none⟩) 11 c] w fun e w' => e = .returned (.string x.text) ∧ Kp w w' := by
  obtain ⟨mi, d, h, m, s, n, y, o⟩ := x
  cases mi
  · exact convert_plus d h m s n y o hr b q c hc11 w ht hc
  · exact convert_minus d h m s n y o hr b q c hc11 w ht hc

set_option maxHeartbeats 1000000 in
theorem impl_days (x : Iv) (hr : x.Right) (p : Option Addr) (k : Nat) (w : World) (ht : Tab w) (hi : Lib.BytesIn w p 11 x.bytes) :
    Calls Tryd.prog 30 #[.slice p 11 k] w fun e w' => e = .returned (.string x.text) ∧ Kp w w' := by
  have HC := Lib.hid (fun b q c h1 w1 h2 h3 => convert_any x hr b q c h1 w1 h2 h3)
  have HI := Lib.hid hi
  have HT := Lib.hid ht
  have HL := Lib.hid (Iv.bytes_length x)
  generalize x.text = t at *
  generalize x.bytes = xs at *
  clear hi ht hr
  go_enter Tryd.func30, Tryd.ntmps30
  go_wp2_with fail
  refine (clone_any _ _ _ _ xs HI.out HL.out (by decide)).mono ?_
  rintro e w1 ⟨q, d, rfl, hown, hb⟩
  have hd := own_cap hown
  obtain ⟨b, o, rfl, hcell⟩ := bin_of_own hown (by decide)
  have HCC := Lib.hid hcell
  have HK := Lib.hid (show Kp w w1 from hb)
  have HT1 := Lib.hid (HT.out.kp hb)
  clear hown hb hcell HT
  go_wp2_with fail
  refine (HC.out b o d hd _ HT1.out HCC.out).mono ?_
  rintro e w2 ⟨rfl, hk⟩
  have HK2 := Lib.hid (HK.out.trans hk)
  clear hk
  go_wp2_with fail
  go_ret
  exact ⟨rfl, HK2.out⟩

theorem pad32 : padS 3 2 = ⟨#[48, 51]⟩ := by unfold padS; rw [Lib.nDigits_small (by decide)]; decide +kernel
theorem pad42 : padS 4 2 = ⟨#[48, 52]⟩ := by unfold padS; rw [Lib.nDigits_small (by decide)]; decide +kernel

set_option maxHeartbeats 2000000 in
theorem convertYM (b q c : Nat) (w : World) (ht : Tab w) (hc : ∀ i, i < 5 → w.cell? ⟨b, q + i, none⟩ = some (.int .u8 ([128, 0, 0, 3, 64].getD i 0))) :
    Calls Tryd.prog 66 #[.slice (some ⟨b, q, none⟩) 5 c] w fun e w' => e = .returned (.string ⟨#[43, 48, 51, 45, 48, 52]⟩) ∧ Kp w w' := by
  have k0 : w.cell? ⟨b, q, none⟩ = some (.int .u8 (2147483651 / 16777216 % 256)) := hc 0 (by omega)
  have k1 : w.cell? ⟨b, q + 1, none⟩ = some (.int .u8 (2147483651 / 65536 % 256)) := hc 1 (by omega)
  have k2 : w.cell? ⟨b, q + 2, none⟩ = some (.int .u8 (2147483651 / 256 % 256)) := hc 2 (by omega)
  have k3 : w.cell? ⟨b, q + 3, none⟩ = some (.int .u8 (2147483651 % 256)) := hc 3 (by omega)
  have k4 : w.cell? ⟨b, q + 4, none⟩ = some (.int .u8 64) := hc 4 (by omega)
  have hb := heap_lt_of_cell k0
  have C1 := Lib.hid (getV32 b q 5 c 2147483651 (by omega) (by omega) w (by omega) k0 k1 k2 k3)
  have HT := Lib.hid ht
  have P3 := Lib.hid pad32
  have P4 := Lib.hid pad42
  clear hc k0 k1 k2 k3 ht
  go_enter Tryd.func66, Tryd.ntmps66
  go_wp2_with fail
  refine C1.out.mono ?_
  rintro e w1 ⟨rfl, hk⟩
  have l4 := (hk.below.cell (p := ⟨b, q + 4, none⟩) hb).trans k4
  have HK := Lib.hid hk
  have HT1 := Lib.hid (HT.out.kp hk)
  clear hk C1 k4 HT
  go_wp2_with fail
  refine (zzPadded_int _ _ (by omega) (by omega) (by omega) (by omega) _ HT1.out).mono ?_
  rintro e w2 ⟨rfl, hk⟩
  rw [show padS (Int.toNat 3) (Int.toNat 2) = ⟨#[48, 51]⟩ from pad32]
  have HK2 := Lib.hid (HK.out.trans hk)
  have HT2 := Lib.hid (HT1.out.kp hk)
  clear hk
  go_wp2_with fail
  refine (zzPadded_int _ _ (by omega) (by omega) (by omega) (by omega) _ HT2.out).mono ?_
  rintro e w3 ⟨rfl, hk⟩
  rw [show padS (Int.toNat 4) (Int.toNat 2) = ⟨#[48, 52]⟩ from pad42]
  have HK3 := Lib.hid (HK2.out.trans hk)
  clear hk
  go_wp2_with fail
  go_ret
  exact ⟨rfl, HK3.out⟩

set_option maxHeartbeats 1000000 in
theorem intervalsLive_any (w : World) (ht : Tab w) :
    Calls Tryd.prog 29 #[] w fun e w' => e = .returned (.bool true) ∧ Kp w w' := by
  have HT := Lib.hid ht
  clear ht
  have HY : Hid (∀ (p : Option Addr) (k : Nat) (w : World), Tab w → Lib.BytesIn w p 5 [128, 0, 0, 3, 64] → Calls Tryd.prog 49 #[.slice p 5 k] w fun e w' => e = .returned (.string ⟨#[43, 48, 51, 45, 48, 52]⟩) ∧ Kp w w') := Lib.hid (fun p k w ht hi => by
    have HI := Lib.hid hi
    have HT := Lib.hid ht
    clear hi ht
    go_enter Tryd.func49, Tryd.ntmps49
    go_wp2_with fail
    refine (clone_any _ _ _ _ [128, 0, 0, 3, 64] HI.out rfl (by decide)).mono ?_
    rintro e w1 ⟨q, d, rfl, hown, hb⟩
    obtain ⟨b, o, rfl, hcell⟩ := bin_of_own hown (by decide)
    have HCC := Lib.hid hcell
    have HK := Lib.hid (show Kp w w1 from hb)
    have HT1 := Lib.hid (HT.out.kp hb)
    clear hown hb hcell HT
    go_wp2_with fail
    refine (convertYM b o d _ HT1.out HCC.out).mono ?_
    rintro e w2 ⟨rfl, hk⟩
    have HK2 := Lib.hid (HK.out.trans hk)
    clear hk
    go_wp2_with fail
    go_ret
    exact ⟨rfl, HK2.out⟩)
  go_enter Tryd.func29, Tryd.ntmps29
  go_wp2_with fail
  refine (HY.out _ _ _ (HT.out.kp ((Kp.refl w).alloc _)) (by exact bin_new w [128, 0, 0, 3, 64] _)).mono ?_
  rintro e w1 ⟨rfl, hk⟩
  have HK := Lib.hid (((Kp.refl w).alloc _).trans hk)
  clear hk
  go_wp2_with fail
  go_ret
  exact ⟨rfl, HK.out⟩

set_option maxRecDepth 100000 in
set_option maxHeartbeats 4000000 in
theorem intervalRight_yes (x : Iv) (hr : x.Right) (w : World) : Calls Tryd.prog 28 #[x.val] w fun e w' => e = .returned (.bool true) ∧ Kp w w' := by
  obtain ⟨mi, d, h, m, s, n, y, o⟩ := x
  obtain ⟨⟨d0, d1⟩, ⟨h0, h1⟩, ⟨m0, m1⟩, ⟨s0, s1⟩, ⟨n0, n1⟩, hz⟩ := hr
  dsimp only at d0 d1 h0 h1 m0 m1 s0 s1 n0 n1 hz
  simp only [Iv.val]
  cases mi
  · clear hz
    go_enter Tryd.func28, Tryd.ntmps28
    go_wp2
    go_ret
    exact ⟨rfl, (Kp.refl w).alloc _⟩
  · have hz0 := hz rfl
    clear hz
    go_enter Tryd.func28, Tryd.ntmps28
    go_wp2
    go_ret
    exact ⟨rfl, (Kp.refl w).alloc _⟩

set_option maxRecDepth 100000 in
set_option maxHeartbeats 4000000 in
theorem intervalRight_no (x : Iv) (hr : ¬ x.Right) (w : World) : Calls Tryd.prog 28 #[x.val] w fun e w' => e = .returned (.bool false) ∧ Kp w w' := by
  obtain ⟨mi, d, h, m, s, n, y, o⟩ := x
  simp only [Iv.val]
  by_cases a0 : 0 ≤ d
  rotate_left
  · have b0 : d < 0 := by omega
    clear a0 hr
    go_enter Tryd.func28, Tryd.ntmps28
    go_wp2
    go_ret
    exact ⟨rfl, (Kp.refl w).alloc _⟩
  by_cases a1 : d < 1000000000
  rotate_left
  · have b1 : 1000000000 ≤ d := by omega
    clear a1 hr
    go_enter Tryd.func28, Tryd.ntmps28
    go_wp2
    go_ret
    exact ⟨rfl, (Kp.refl w).alloc _⟩
  by_cases a2 : 0 ≤ h
  rotate_left
  · have b2 : h < 0 := by omega
    clear a2 hr
    go_enter Tryd.func28, Tryd.ntmps28
    go_wp2
    go_ret
    exact ⟨rfl, (Kp.refl w).alloc _⟩
  by_cases a3 : h < 24
  rotate_left
  · have b3 : 24 ≤ h := by omega
    clear a3 hr
    go_enter Tryd.func28, Tryd.ntmps28
    go_wp2
    go_ret
    exact ⟨rfl, (Kp.refl w).alloc _⟩
  by_cases a4 : 0 ≤ m
  rotate_left
  · have b4 : m < 0 := by omega
    clear a4 hr
    go_enter Tryd.func28, Tryd.ntmps28
    go_wp2
    go_ret
    exact ⟨rfl, (Kp.refl w).alloc _⟩
  by_cases a5 : m < 60
  rotate_left
  · have b5 : 60 ≤ m := by omega
    clear a5 hr
    go_enter Tryd.func28, Tryd.ntmps28
    go_wp2
    go_ret
    exact ⟨rfl, (Kp.refl w).alloc _⟩
  by_cases a6 : 0 ≤ s
  rotate_left
  · have b6 : s < 0 := by omega
    clear a6 hr
    go_enter Tryd.func28, Tryd.ntmps28
    go_wp2
    go_ret
    exact ⟨rfl, (Kp.refl w).alloc _⟩
  by_cases a7 : s < 60
  rotate_left
  · have b7 : 60 ≤ s := by omega
    clear a7 hr
    go_enter Tryd.func28, Tryd.ntmps28
    go_wp2
    go_ret
    exact ⟨rfl, (Kp.refl w).alloc _⟩
  by_cases a8 : 0 ≤ n
  rotate_left
  · have b8 : n < 0 := by omega
    clear a8 hr
    go_enter Tryd.func28, Tryd.ntmps28
    go_wp2
    go_ret
    exact ⟨rfl, (Kp.refl w).alloc _⟩
  by_cases a9 : n < 1000000000
  rotate_left
  · have b9 : 1000000000 ≤ n := by omega
    clear a9 hr
    go_enter Tryd.func28, Tryd.ntmps28
    go_wp2
    go_ret
    exact ⟨rfl, (Kp.refl w).alloc _⟩
  cases mi
  · exact absurd ⟨⟨a0, a1⟩, ⟨a2, a3⟩, ⟨a4, a5⟩, ⟨a6, a7⟩, ⟨a8, a9⟩, fun h => by cases h⟩ hr
  · have hz : d ≤ 0 := by
      rcases Int.lt_or_le 0 d with h1 | h1
      · exact absurd ⟨⟨a0, a1⟩, ⟨a2, a3⟩, ⟨a4, a5⟩, ⟨a6, a7⟩, ⟨a8, a9⟩, fun _ => h1⟩ hr
      · exact h1
    have hz1 : decide ((0 : Int) < d) = false := by simp; omega
    clear hr
    go_enter Tryd.func28, Tryd.ntmps28
    go_wp2
    go_ret
    exact ⟨rfl, (Kp.refl w).alloc _⟩

set_option maxRecDepth 100000 in
set_option maxHeartbeats 4000000 in
theorem fnIntervalDays_any (x : Iv) (w : World) (ht : Tab w) :
    Calls Tryd.prog 9 #[x.val] w fun e w' => e = .returned (.bool true) ∧ Below w.heap.size w w' := by
  have HT := Lib.hid ht
  clear ht
  by_cases hr : x.Right
  · have HY := Lib.hid (fun w1 => intervalRight_yes x hr w1)
    have HB := Lib.hid (fun w1 => ivBytes_any x hr w1)
    have HI := Lib.hid (fun p k w1 h1 h2 => impl_days x hr p k w1 h1 h2)
    have HS := Lib.hid (fun w1 => ivText_spec x hr w1)
    have HE := Lib.hid (show ivText x.sign x.d x.h x.m x.s (x.n / 1000) = x.text from rfl)
    obtain ⟨mi, d, h, m, s, n, y, o⟩ := x
    rw [HE.out] at HS
    generalize Iv.text _ = t at *
    generalize Iv.bytes _ = xs at *
    clear hr HE
    simp only [Iv.val] at *
    go_enter Tryd.func9, Tryd.ntmps9
    go_wp2_with fail
    refine (HY.out _).mono ?_
    rintro e w1 ⟨rfl, hk⟩
    have HK1 := Lib.hid (((Kp.refl w).alloc _).trans hk)
    have HX := Lib.hid ((Blk.new w 55 #[.bool mi, .int .i64 d, .int .i64 h, .int .i64 m, .int .i64 s, .int .i64 n, .int .i64 y, .int .i64 o]).old hk)
    have HT1 := Lib.hid (HT.out.kp HK1.out)
    have b0 : w1.cell? ⟨w.heap.size, 0, none⟩ = some (.bool mi) := HX.out.cell 0
    have b1 : w1.cell? ⟨w.heap.size, 1, none⟩ = some (.int .i64 d) := HX.out.cell 1
    have b2 : w1.cell? ⟨w.heap.size, 2, none⟩ = some (.int .i64 h) := HX.out.cell 2
    have b3 : w1.cell? ⟨w.heap.size, 3, none⟩ = some (.int .i64 m) := HX.out.cell 3
    have b4 : w1.cell? ⟨w.heap.size, 4, none⟩ = some (.int .i64 s) := HX.out.cell 4
    have b5 : w1.cell? ⟨w.heap.size, 5, none⟩ = some (.int .i64 n) := HX.out.cell 5
    have b6 : w1.cell? ⟨w.heap.size, 6, none⟩ = some (.int .i64 y) := HX.out.cell 6
    have b7 : w1.cell? ⟨w.heap.size, 7, none⟩ = some (.int .i64 o) := HX.out.cell 7
    clear hk HT
    go_wp2_with fail
    go_region_held3 (fun w' => w'.cell? ⟨w.heap.size, 0, none⟩ = some (.bool mi) ∧ w'.cell? ⟨w.heap.size, 1, none⟩ = some (.int .i64 d) ∧ w'.cell? ⟨w.heap.size, 2, none⟩ = some (.int .i64 h) ∧ w'.cell? ⟨w.heap.size, 3, none⟩ = some (.int .i64 m) ∧ w'.cell? ⟨w.heap.size, 4, none⟩ = some (.int .i64 s) ∧ w'.cell? ⟨w.heap.size, 5, none⟩ = some (.int .i64 n) ∧ w'.cell? ⟨w.heap.size, 6, none⟩ = some (.int .i64 y) ∧ w'.cell? ⟨w.heap.size, 7, none⟩ = some (.int .i64 o)) (first | with_reducible exact iv_cells HX.out | with_reducible exact iv_cells HX.out.drew | go_keep)
      (first
        | (go_at_call 31; refine (HB.out _).mono ?_; rintro e w2 ⟨v, rfl, hov, hk⟩; obtain ⟨q2, d2, rfl, hin⟩ := bin_own hov; have HQ := Lib.hid hin; have HX := Lib.hid (HX.out.drew.kp hk); have HK2 := Lib.hid (HK1.out.drew.trans hk); have HT2 := Lib.hid (HT1.out.kp ((Kp.refl w1).drew.trans hk)); clear hov hin hk)
        | (go_at_call 30; refine (HI.out _ _ _ HT2.out HQ.out).mono ?_; rintro e w3 ⟨rfl, hk⟩; have HX := Lib.hid (HX.out.kp hk); have HK3 := Lib.hid (HK2.out.trans hk); have HT3 := Lib.hid (HT2.out.kp hk); clear hk)
        | (go_at_call 32; refine (HS.out _).mono ?_; rintro e w4 ⟨rfl, hk⟩; have HX := Lib.hid (HX.out.kp hk); have HK4 := Lib.hid (HK3.out.trans hk); have HT4 := Lib.hid (HT3.out.kp hk); clear hk)
        | (go_at_call 29; refine (intervalsLive_any _ HT4.out).mono ?_; rintro e w5 ⟨rfl, hk⟩; have HX := Lib.hid (HX.out.kp hk); have HK5 := Lib.hid (HK4.out.trans hk); clear hk))
    go_wp2_with fail
    go_ret
    exact ⟨rfl, HK5.out⟩
  · have HN := Lib.hid (fun w1 => intervalRight_no x hr w1)
    obtain ⟨mi, d, h, m, s, n, y, o⟩ := x
    clear hr
    simp only [Iv.val] at *
    go_enter Tryd.func9, Tryd.ntmps9
    go_wp2_with fail
    refine (HN.out _).mono ?_
    rintro e w1 ⟨rfl, hk⟩
    have HK1 := Lib.hid (((Kp.refl w).alloc _).trans hk)
    have HT1 := Lib.hid (HT.out.kp HK1.out)
    clear hk HT
    go_wp2_with fail
    refine (intervalsLive_any _ HT1.out).mono ?_
    rintro e w2 ⟨rfl, hk⟩
    have HK2 := Lib.hid (HK1.out.trans hk)
    clear hk
    go_wp2_with fail
    go_ret
    exact ⟨rfl, HK2.out⟩
end Go.Proofs.YtaohgebiedkdaaaDoor
