/-
  The package's text of an interval.
-/
import Derived.Test.YtaohgebiedkdaaaDoorInt3
namespace Go.Proofs.YtaohgebiedkdaaaDoor
open Go Go.RowKit

theorem be4_val (v : Int) (h0 : 0 ≤ v) (h1 : v < 4294967296) : ((v / 16777216 % 256 * 256 + v / 65536 % 256) * 256 + v / 256 % 256) * 256 + v % 256 = v := by omega
theorem getV32 (b o n c : Nat) (V : Int) (h0 : 0 ≤ V) (h1 : V < 4294967296) (w : World) (hn : 4 ≤ n) (c0 : w.cell? ⟨b, o, none⟩ = some (.int .u8 (V / 16777216 % 256))) (c1 : w.cell? ⟨b, o + 1, none⟩ = some (.int .u8 (V / 65536 % 256)))
    (c2 : w.cell? ⟨b, o + 2, none⟩ = some (.int .u8 (V / 256 % 256))) (c3 : w.cell? ⟨b, o + 3, none⟩ = some (.int .u8 (V % 256))) :
    Calls Tryd.prog 67 #[.agg #[], .slice (some ⟨b, o, none⟩) n c] w fun e w' => e = .returned (.int .u32 V) ∧ Kp w w' :=
  (get32 b o n c _ _ _ _ w hn c0 c1 c2 c3 (by omega) (by omega) (by omega) (by omega)).mono (by rintro e w' ⟨rfl, hb⟩; exact ⟨by rw [be4_val V h0 h1], hb⟩)

set_option maxRecDepth 100000 in
set_option maxHeartbeats 4000000 in
theorem convert_plus (d h m s n y o : Int) (hr : Iv.Right ⟨false, d, h, m, s, n, y, o⟩) (b q c : Nat) (hc11 : 11 ≤ c) (w : World) (ht : Tab w) (hc : ∀ i, i < 11 → w.cell? ⟨b, q + i, none⟩ = some (.int .u8 ((ivL (2147483648 + d) (60 + h) (60 + m) (60 + s) (2147483648 + n)).getD i 0))) :
    Calls Tryd.prog 50 #[.slice (some ⟨b, q, none⟩) 11 c] w fun e w' => e = .returned (.string (ivText ⟨#[43]⟩ d h m s (n / 1000))) ∧ Kp w w' := by
  obtain ⟨⟨d0, d1⟩, ⟨h0, h1⟩, ⟨m0, m1⟩, ⟨s0, s1⟩, ⟨n0, n1⟩, hz⟩ := hr
  dsimp only at d0 d1 h0 h1 m0 m1 s0 s1 n0 n1 hz
  
  clear hz
  have z1 := padS_size d.toNat 2 (by omega) (by decide)
  have z2 := padS_size h.toNat 2 (by omega) (by decide)
  have z3 := padS_size m.toNat 2 (by omega) (by decide)
  have z4 := padS_size s.toNat 2 (by omega) (by decide)
  have z5 := padS_size (n / 1000).toNat 6 (by omega) (by decide)
  have q0 : 0 ≤ n / 1000 := by omega
  have q1 : n / 1000 ≤ 1000000 := by omega
  have k0 : w.cell? ⟨b, q, none⟩ = some (.int .u8 ((2147483648 + d) / 16777216 % 256)) := hc 0 (by omega)
  have k1 : w.cell? ⟨b, q + 1, none⟩ = some (.int .u8 ((2147483648 + d) / 65536 % 256)) := hc 1 (by omega)
  have k2 : w.cell? ⟨b, q + 2, none⟩ = some (.int .u8 ((2147483648 + d) / 256 % 256)) := hc 2 (by omega)
  have k3 : w.cell? ⟨b, q + 3, none⟩ = some (.int .u8 ((2147483648 + d) % 256)) := hc 3 (by omega)
  have k4 : w.cell? ⟨b, q + 4, none⟩ = some (.int .u8 (60 + h)) := hc 4 (by omega)
  have k5 : w.cell? ⟨b, q + 5, none⟩ = some (.int .u8 (60 + m)) := hc 5 (by omega)
  have k6 : w.cell? ⟨b, q + 6, none⟩ = some (.int .u8 (60 + s)) := hc 6 (by omega)
  have k7 : w.cell? ⟨b, q + 7, none⟩ = some (.int .u8 ((2147483648 + n) / 16777216 % 256)) := hc 7 (by omega)
  have k8 : w.cell? ⟨b, q + 8, none⟩ = some (.int .u8 ((2147483648 + n) / 65536 % 256)) := hc 8 (by omega)
  have k9 : w.cell? ⟨b, q + 9, none⟩ = some (.int .u8 ((2147483648 + n) / 256 % 256)) := hc 9 (by omega)
  have k10 : w.cell? ⟨b, q + 10, none⟩ = some (.int .u8 ((2147483648 + n) % 256)) := hc 10 (by omega)
  have hb := heap_lt_of_cell k0
  have C1 := Lib.hid (getV32 b q 11 c (2147483648 + d) (by omega) (by omega) w (by omega) k0 k1 k2 k3)
  have HK7 := Lib.hid k7
  have HK8 := Lib.hid k8
  have HK9 := Lib.hid k9
  have HK10 := Lib.hid k10
  have HT := Lib.hid ht
  have i1 : (11 : Int) ≤ ((c : Nat) : Int) := by omega
  have i2 : c ≠ 7 := by omega
  clear hc k0 k1 k2 k3 k7 k8 k9 k10 ht
  have e0 : 2147483648 + d - 2147483648 = d := by omega
  have e1 : 60 + h - 60 = h := by omega
  have e2 : 60 + m - 60 = m := by omega
  have e3 : 60 + s - 60 = s := by omega
  have e4 : 2147483648 + n - 2147483648 = n := by omega
  go_enter Tryd.func50, Tryd.ntmps50
  go_wp2_with fail
  refine C1.out.mono ?_
  rintro e w1 ⟨rfl, hk⟩
  have HK1 := Lib.hid hk
  have l4 := (hk.below.cell (p := ⟨b, q + 4, none⟩) hb).trans k4
  have l5 := (hk.below.cell (p := ⟨b, q + 5, none⟩) hb).trans k5
  have l6 := (hk.below.cell (p := ⟨b, q + 6, none⟩) hb).trans k6
  have l7 := (hk.below.cell (p := ⟨b, q + 7, none⟩) hb).trans HK7.out
  have HT1 := Lib.hid (HT.out.kp hk)
  have hb1 : b < w1.heap.size := hk.lt hb
  have C2 := Lib.hid (fun w2 (hk2 : Kp w1 w2) => getV32 b (q + 7) 4 (c - 7) (2147483648 + n) (by omega) (by omega) w2 (by omega) ((hk2.below.cell (p := ⟨b, q + 7, none⟩) hb1).trans l7) ((hk2.below.cell (p := ⟨b, q + 8, none⟩) hb1).trans ((hk.below.cell (p := ⟨b, q + 8, none⟩) hb).trans HK8.out)) ((hk2.below.cell (p := ⟨b, q + 9, none⟩) hb1).trans ((hk.below.cell (p := ⟨b, q + 9, none⟩) hb).trans HK9.out)) ((hk2.below.cell (p := ⟨b, q + 10, none⟩) hb1).trans ((hk.below.cell (p := ⟨b, q + 10, none⟩) hb).trans HK10.out)))
  clear hk C1 k4 k5 k6 HT
  go_wp2_with fail
  go_region_held3 (fun w' => w'.cell? ⟨b, q + 7, none⟩ = some (.int .u8 ((2147483648 + n) / 16777216 % 256))) (first | with_reducible exact l7 | with_reducible exact l7' | go_keep) (first | (go_at_call 67; refine (C2.out _ (by exact (Kp.refl w1).drew)).mono ?_; rintro e w2 ⟨rfl, hk⟩; have l7' := (hk.below.cell (p := ⟨b, q + 7, none⟩) hb1).trans l7; have HK2 := Lib.hid (HK1.out.drew.trans hk); have HT2 := Lib.hid (HT1.out.kp ((Kp.refl w1).drew.trans hk)); clear hk))
  clear l7 l7' l4 l5 l6 C2 HT1
  have HK := HK2
  have HT := HT2
  clear HK2 HT2
  go_wp2_with (go_at_call 68; refine (zzPadded_int _ _ (by omega) (by omega) (by omega) (by omega) _ HT.out).mono ?_; rintro e w3 ⟨rfl, hk⟩; have HKN := Lib.hid (HK.out.trans hk); have HTN := Lib.hid (HT.out.kp hk); clear hk HK HT; have HK := HKN; have HT := HTN; clear HKN HTN)
  go_ret
  exact ⟨rfl, HK.out⟩

set_option maxRecDepth 100000 in
set_option maxHeartbeats 4000000 in
theorem convert_minus (d h m s n y o : Int) (hr : Iv.Right ⟨true, d, h, m, s, n, y, o⟩) (b q c : Nat) (hc11 : 11 ≤ c) (w : World) (ht : Tab w) (hc : ∀ i, i < 11 → w.cell? ⟨b, q + i, none⟩ = some (.int .u8 ((ivL (2147483648 - d) (60 - h) (60 - m) (60 - s) (2147483648 - n)).getD i 0))) :
    Calls Tryd.prog 50 #[.slice (some ⟨b, q, none⟩) 11 c] w fun e w' => e = .returned (.string (ivText ⟨#[45]⟩ d h m s (n / 1000))) ∧ Kp w w' := by
  obtain ⟨⟨d0, d1⟩, ⟨h0, h1⟩, ⟨m0, m1⟩, ⟨s0, s1⟩, ⟨n0, n1⟩, hz⟩ := hr
  dsimp only at d0 d1 h0 h1 m0 m1 s0 s1 n0 n1 hz
  have hz0 := hz rfl
  clear hz
  have z1 := padS_size d.toNat 2 (by omega) (by decide)
  have z2 := padS_size h.toNat 2 (by omega) (by decide)
  have z3 := padS_size m.toNat 2 (by omega) (by decide)
  have z4 := padS_size s.toNat 2 (by omega) (by decide)
  have z5 := padS_size (n / 1000).toNat 6 (by omega) (by decide)
  have q0 : 0 ≤ n / 1000 := by omega
  have q1 : n / 1000 ≤ 1000000 := by omega
  have k0 : w.cell? ⟨b, q, none⟩ = some (.int .u8 ((2147483648 - d) / 16777216 % 256)) := hc 0 (by omega)
  have k1 : w.cell? ⟨b, q + 1, none⟩ = some (.int .u8 ((2147483648 - d) / 65536 % 256)) := hc 1 (by omega)
  have k2 : w.cell? ⟨b, q + 2, none⟩ = some (.int .u8 ((2147483648 - d) / 256 % 256)) := hc 2 (by omega)
  have k3 : w.cell? ⟨b, q + 3, none⟩ = some (.int .u8 ((2147483648 - d) % 256)) := hc 3 (by omega)
  have k4 : w.cell? ⟨b, q + 4, none⟩ = some (.int .u8 (60 - h)) := hc 4 (by omega)
  have k5 : w.cell? ⟨b, q + 5, none⟩ = some (.int .u8 (60 - m)) := hc 5 (by omega)
  have k6 : w.cell? ⟨b, q + 6, none⟩ = some (.int .u8 (60 - s)) := hc 6 (by omega)
  have k7 : w.cell? ⟨b, q + 7, none⟩ = some (.int .u8 ((2147483648 - n) / 16777216 % 256)) := hc 7 (by omega)
  have k8 : w.cell? ⟨b, q + 8, none⟩ = some (.int .u8 ((2147483648 - n) / 65536 % 256)) := hc 8 (by omega)
  have k9 : w.cell? ⟨b, q + 9, none⟩ = some (.int .u8 ((2147483648 - n) / 256 % 256)) := hc 9 (by omega)
  have k10 : w.cell? ⟨b, q + 10, none⟩ = some (.int .u8 ((2147483648 - n) % 256)) := hc 10 (by omega)
  have hb := heap_lt_of_cell k0
  have C1 := Lib.hid (getV32 b q 11 c (2147483648 - d) (by omega) (by omega) w (by omega) k0 k1 k2 k3)
  have HK7 := Lib.hid k7
  have HK8 := Lib.hid k8
  have HK9 := Lib.hid k9
  have HK10 := Lib.hid k10
  have HT := Lib.hid ht
  have i1 : (11 : Int) ≤ ((c : Nat) : Int) := by omega
  have i2 : c ≠ 7 := by omega
  clear hc k0 k1 k2 k3 k7 k8 k9 k10 ht
  have e0 : 2147483648 - d - 2147483648 = -d := by omega
  have e1 : 60 - (60 - h) = h := by omega
  have e2 : 60 - (60 - m) = m := by omega
  have e3 : 60 - (60 - s) = s := by omega
  have e4 : 2147483648 - n - 2147483648 = -n := by omega
  go_enter Tryd.func50, Tryd.ntmps50
  go_wp2_with fail
  refine C1.out.mono ?_
  rintro e w1 ⟨rfl, hk⟩
  have HK1 := Lib.hid hk
  have l4 := (hk.below.cell (p := ⟨b, q + 4, none⟩) hb).trans k4
  have l5 := (hk.below.cell (p := ⟨b, q + 5, none⟩) hb).trans k5
  have l6 := (hk.below.cell (p := ⟨b, q + 6, none⟩) hb).trans k6
  have l7 := (hk.below.cell (p := ⟨b, q + 7, none⟩) hb).trans HK7.out
  have HT1 := Lib.hid (HT.out.kp hk)
  have hb1 : b < w1.heap.size := hk.lt hb
  have C2 := Lib.hid (fun w2 (hk2 : Kp w1 w2) => getV32 b (q + 7) 4 (c - 7) (2147483648 - n) (by omega) (by omega) w2 (by omega) ((hk2.below.cell (p := ⟨b, q + 7, none⟩) hb1).trans l7) ((hk2.below.cell (p := ⟨b, q + 8, none⟩) hb1).trans ((hk.below.cell (p := ⟨b, q + 8, none⟩) hb).trans HK8.out)) ((hk2.below.cell (p := ⟨b, q + 9, none⟩) hb1).trans ((hk.below.cell (p := ⟨b, q + 9, none⟩) hb).trans HK9.out)) ((hk2.below.cell (p := ⟨b, q + 10, none⟩) hb1).trans ((hk.below.cell (p := ⟨b, q + 10, none⟩) hb).trans HK10.out)))
  clear hk C1 k4 k5 k6 HT
  go_wp2_with fail
  go_region_held3 (fun w' => w'.cell? ⟨b, q + 7, none⟩ = some (.int .u8 ((2147483648 - n) / 16777216 % 256))) (first | with_reducible exact l7 | with_reducible exact l7' | go_keep) (first | (go_at_call 67; refine (C2.out _ (by exact (Kp.refl w1).drew)).mono ?_; rintro e w2 ⟨rfl, hk⟩; have l7' := (hk.below.cell (p := ⟨b, q + 7, none⟩) hb1).trans l7; have HK2 := Lib.hid (HK1.out.drew.trans hk); have HT2 := Lib.hid (HT1.out.kp ((Kp.refl w1).drew.trans hk)); clear hk))
  clear l7 l7' l4 l5 l6 C2 HT1
  have HK := HK2
  have HT := HT2
  clear HK2 HT2
  go_wp2_with (go_at_call 68; refine (zzPadded_int _ _ (by omega) (by omega) (by omega) (by omega) _ HT.out).mono ?_; rintro e w3 ⟨rfl, hk⟩; have HKN := Lib.hid (HK.out.trans hk); have HTN := Lib.hid (HT.out.kp hk); clear hk HK HT; have HK := HKN; have HT := HTN; clear HKN HTN)
  go_ret
  exact ⟨rfl, HK.out⟩
end Go.Proofs.YtaohgebiedkdaaaDoor
