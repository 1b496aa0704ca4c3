/-
  FnSessionSizes: a message is as long as its parts.
-/
import Derived.Test.YtgjfejalinkohaaDoorSes27
import Derived.Test.YtgjfejalinkohaaDoorOpenP
namespace Go.Proofs.YtgjfejalinkohaaDoor
open Go Go.RowKit

set_option maxRecDepth 100000 in
set_option maxHeartbeats 8000000 in
theorem fnSizes_few (a : Option Addr) (n c : Nat) (P : Nat → LPart) (big : Bool) (w : World) (h : PartsIn w a n P) (hn : n ≤ 20) (hf : allFit 1000 P n = true) (hf2 : allFit 2147483647 P n = true) :
    Calls Tryd.prog 8 #[.slice a n c, .bool big] w fun e w' => e = .returned (.bool true) ∧ Below w.heap.size w w' := by
  have i0 : (0 : Int) ≤ (n : Int) := by omega
  have i1 : (n : Int) ≤ 20 := by omega
  have HP := Lib.hid h
  have HN := Lib.hid hn
  have HF := Lib.hid hf
  have Z1 := Lib.hid (zzFits11_few a n c P w h (by omega))
  rw [hf2] at Z1
  have Z2 := Lib.hid (fun w1 (hk : Kp w w1) => sessionFits_any a n c P w1 (h.kp hk) hn)
  rw [hf] at Z2
  have Z3 := Lib.hid (fun w1 (hk : Kp w w1) => sessionPuts_any a n c P w1 (h.kp hk) hn hf)
  clear h hn hf hf2
  go_enter Tryd.func8, Tryd.ntmps8
  go_wp2_with fail
  refine Z1.out.mono ?_
  rintro e w1 ⟨rfl, hb1⟩
  have K1 := Lib.hid (show Kp w w1 from hb1)
  clear hb1 Z1
  go_wp2_with fail
  refine (Z2.out w1 K1.out).mono ?_
  rintro e w2 ⟨rfl, hb2⟩
  have K2 := Lib.hid (K1.out.trans hb2)
  clear hb2 Z2
  go_wp2_with fail
  go_loopg [5, 21] n (fun G sm st wr => ∃ k : Nat, G = n - k ∧ k ≤ n ∧ st = .int .i64 (k : Int) ∧ sm = .int .i64 ((sumL big P k : Nat) : Int) ∧ sumL big P k ≤ 30000000 * k ∧ Kp w wr)
  case atStart => exact ⟨0, rfl, Nat.zero_le _, rfl, rfl, Nat.le_refl _, K2.out⟩
  case round =>
    obtain ⟨k, rfl, hk, rfl, rfl, hsm, hkp⟩ := hrel
    have HK := Lib.hid hkp
    have HKN := Lib.hid hk
    have j0 : (0 : Int) ≤ (k : Int) := by omega
    have j1 : (k : Int) ≤ (n : Int) := by omega
    by_cases hlt : k < n
    · have j2 : (k : Int) < (n : Int) := by omega
      have HNX := Lib.hid (show sumL big P (k + 1) = sumL big P k + (partW big 64 (P k)).length from rfl)
      have HSM := Lib.hid hsm
      obtain ⟨b, o, rfl, hc, hin1, hin2, hok⟩ := HP.out.kp hkp k hlt
      have HFT := Lib.hid (allFit_at 1000 P n HF.out k hlt)
      have HLT := Lib.hid hlt
      generalize hS : sumL big P k = S at HNX hsm HSM
      have j3 : (0 : Int) ≤ (S : Int) := by omega
      have j4 : (S : Int) ≤ 600000000 := by have := HN.out; omega
      clear hS hlt hkp hk hsm
      generalize P k = s at hc hin1 hin2 hok HFT HNX
      have HOK := Lib.hid hok
      have a0 : (0 : Int) ≤ (s.kd : Int) := by omega
      have a1 : (s.kd : Int) < 256 := by have := hok.kd; omega
      have a4 : (0 : Int) ≤ (s.k1 : Int) := by omega
      have a5 : (s.k1 : Int) ≤ 1000 := by have := (LPart.fits_le HFT.out).1; omega
      have d0 : wr.cell? ⟨b, o + k * 8, none⟩ = some (.int .u8 (s.kd : Int)) := hc 0 _ rfl
      have d1 : wr.cell? ⟨b, o + k * 8 + 1, none⟩ = some (.int .u8 (s.sz : Int)) := hc 1 _ rfl
      have d2 : wr.cell? ⟨b, o + k * 8 + 2, none⟩ = some (.int .u64 (s.num : Int)) := hc 2 _ rfl
      have d3 : wr.cell? ⟨b, o + k * 8 + 3, none⟩ = some (.bool s.big) := hc 3 _ rfl
      have d4 : wr.cell? ⟨b, o + k * 8 + 4, none⟩ = some (.bool s.comp) := hc 4 _ rfl
      have d5 : wr.cell? ⟨b, o + k * 8 + 5, none⟩ = some (.int .u8 (s.flag : Int)) := hc 5 _ rfl
      have d6 : wr.cell? ⟨b, o + k * 8 + 6, none⟩ = some (.slice s.q1 s.k1 s.c1) := hc 6 _ rfl
      have d7 : wr.cell? ⟨b, o + k * 8 + 7, none⟩ = some (.slice s.q2 s.k2 s.c2) := hc 7 _ rfl
      have HI1 := Lib.hid hin1
      have HI2 := Lib.hid hin2
      obtain ⟨sz, hsz⟩ : ∃ sz, sz = partSize s.sz := ⟨_, rfl⟩
      obtain ⟨pn, hpn⟩ : ∃ pn, pn = partNum s.kd s.sz s.num := ⟨_, rfl⟩
      have HSS := Lib.hid (fun w => sessionSize_any s.kd s.sz s.num s.big s.comp (s.flag : Int) s.q1 s.q2 s.k1 s.c1 s.k2 s.c2 w hok.kd hok.sz hok.num)
      rw [← hsz, ← hpn] at HSS
      have b0 : (0 : Int) ≤ (sz : Int) := by omega
      have b1 : (sz : Int) ≤ 8 := by have := partSize_or s.sz; omega
      have b2 : (0 : Int) ≤ (pn : Int) := by omega
      have b3 : (pn : Int) ≤ 18446744073709551615 := by have := partNum_max s.kd s.sz s.num; omega
      have HSZ := Lib.hid hsz
      have HPN := Lib.hid hpn
      clear hc hok hin1 hin2 hsz hpn
      go_wp2_with fail
      generalize hX : wr.alloc (.cells #[.int .u8 (s.kd : Int), .int .u8 (s.sz : Int), .int .u64 (s.num : Int), .bool s.big, .bool s.comp, .int .u8 (s.flag : Int), .slice s.q1 s.k1 s.c1, .slice s.q2 s.k2 s.c2] 50) = X
      obtain ⟨tb, htb⟩ : ∃ tb, tb = wr.heap.size := ⟨_, rfl⟩
      have HB := Lib.hid (show Blk X tb 50 #[.int .u8 (s.kd : Int), .int .u8 (s.sz : Int), .int .u64 (s.num : Int), .bool s.big, .bool s.comp, .int .u8 (s.flag : Int), .slice s.q1 s.k1 s.c1, .slice s.q2 s.k2 s.c2] from by rw [htb, ← hX]; exact Blk.new wr _ _)
      have HKX := Lib.hid (show Kp wr X from hX ▸ (Kp.refl wr).alloc _)
      have eX : X.heap.size = tb + 1 := by rw [htb, ← hX]; simp
      have HTB := Lib.hid (show wr.heap.size ≤ tb from by omega)
      rw [← htb]
      clear hX htb d0 d1 d2 d3 d4 d5 d6 d7
      generalize hY : X.alloc (.cells #[.int .u8 (s.kd : Int), .int .u8 (s.sz : Int), .int .u64 (s.num : Int), .bool s.big, .bool s.comp, .int .u8 (s.flag : Int), .slice s.q1 s.k1 s.c1, .slice s.q2 s.k2 s.c2] 50) = Y
      have OP := Lib.hid (onePuts_any Y (tb + 1) s (by rw [← hY, ← eX]; exact Blk.new X _ _) (bin_kp HI1.out (HKX.out.trans (hY ▸ (Kp.refl X).alloc _))) (bin_kp HI2.out (HKX.out.trans (hY ▸ (Kp.refl X).alloc _))) HOK.out HFT.out)
      have hkY : Kp X Y := hY ▸ (Kp.refl X).alloc _
      have HKY := Lib.hid hkY
      clear hY eX hkY
      refine OP.out.mono ?_
      rintro e w3 ⟨a3, c3, t3, rfl, hpi, hpo, hk3⟩
      have OL := Lib.hid (oneLen_any w3 a3 c3 big s t3 hpi hpo HOK.out HFT.out)
      have PL := Lib.hid (partW_len big hpo HOK.out HFT.out)
      have HB3 := Lib.hid (HB.out.kp (HKY.out.trans hk3))
      have K3 := Lib.hid ((HKX.out.trans HKY.out).trans hk3)
      clear hpi hpo hk3 OP
      go_wp2_with fail
      refine OL.out.mono ?_
      rintro e w4 ⟨q4, l, d4, rfl, hl, hk4⟩
      have g0 : (0 : Int) ≤ (l : Int) := by omega
      have g1 : (l : Int) ≤ 30000000 := by have := PL.out; omega
      have HL := Lib.hid hl
      have hb4 := HB3.out.kp hk4
      have HB4 := Lib.hid hb4
      have K4 := Lib.hid (K3.out.trans hk4)
      have x0 : w4.cell? ⟨tb, 0, none⟩ = some (.int .u8 (s.kd : Int)) := hb4.cell 0; have x1 : w4.cell? ⟨tb, 1, none⟩ = some (.int .u8 (s.sz : Int)) := hb4.cell 1; have x2 : w4.cell? ⟨tb, 2, none⟩ = some (.int .u64 (s.num : Int)) := hb4.cell 2; have x3 : w4.cell? ⟨tb, 3, none⟩ = some (.bool s.big) := hb4.cell 3; have x4 : w4.cell? ⟨tb, 4, none⟩ = some (.bool s.comp) := hb4.cell 4; have x5 : w4.cell? ⟨tb, 5, none⟩ = some (.int .u8 (s.flag : Int)) := hb4.cell 5; have x6 : w4.cell? ⟨tb, 6, none⟩ = some (.slice s.q1 s.k1 s.c1) := hb4.cell 6; have x7 : w4.cell? ⟨tb, 7, none⟩ = some (.slice s.q2 s.k2 s.c2) := hb4.cell 7
      clear hl hk4 hb4 OL
      go_wp2_with fail
      refine (HSS.out _).mono ?_
      rintro e w5 ⟨rfl, hk5⟩
      have hb5 := HB4.out.kp hk5
      have HB5 := Lib.hid hb5
      have K5 := Lib.hid (K4.out.trans (show Kp w4 w5 from hk5))
      clear x0 x1 x2 x3 x4 x5 x6 x7
      have x0 : w5.cell? ⟨tb, 0, none⟩ = some (.int .u8 (s.kd : Int)) := hb5.cell 0; have x1 : w5.cell? ⟨tb, 1, none⟩ = some (.int .u8 (s.sz : Int)) := hb5.cell 1; have x2 : w5.cell? ⟨tb, 2, none⟩ = some (.int .u64 (s.num : Int)) := hb5.cell 2; have x3 : w5.cell? ⟨tb, 3, none⟩ = some (.bool s.big) := hb5.cell 3; have x4 : w5.cell? ⟨tb, 4, none⟩ = some (.bool s.comp) := hb5.cell 4; have x5 : w5.cell? ⟨tb, 5, none⟩ = some (.int .u8 (s.flag : Int)) := hb5.cell 5; have x6 : w5.cell? ⟨tb, 6, none⟩ = some (.slice s.q1 s.k1 s.c1) := hb5.cell 6; have x7 : w5.cell? ⟨tb, 7, none⟩ = some (.slice s.q2 s.k2 s.c2) := hb5.cell 7
      clear hk5 hb5 HSS
      go_wp2_with fail
      generalize hY : w5.alloc (.cells #[.int .u8 (s.kd : Int), .int .u8 (s.sz : Int), .int .u64 (s.num : Int), .bool s.big, .bool s.comp, .int .u8 (s.flag : Int), .slice s.q1 s.k1 s.c1, .slice s.q2 s.k2 s.c2] 50) = Y5
      have OP := Lib.hid (onePuts_any Y5 w5.heap.size s (by rw [← hY]; exact Blk.new w5 _ _) (bin_kp HI1.out (K5.out.trans (hY ▸ (Kp.refl w5).alloc _))) (bin_kp HI2.out (K5.out.trans (hY ▸ (Kp.refl w5).alloc _))) HOK.out HFT.out)
      have hkY : Kp w5 Y5 := hY ▸ (Kp.refl w5).alloc _
      have HKY5 := Lib.hid hkY
      clear hY hkY x0 x1 x2 x3 x4 x5 x6 x7
      refine OP.out.mono ?_
      rintro e w6 ⟨a6, c6, t6, rfl, hpi, hpo, hk6⟩
      have OL := Lib.hid (oneLen_any w6 a6 c6 big s t6 hpi hpo HOK.out HFT.out)
      have HB6 := Lib.hid (HB5.out.kp (HKY5.out.trans hk6))
      have K6 := Lib.hid (K5.out.trans (HKY5.out.trans hk6))
      clear hpi hpo hk6 OP
      go_wp2_with fail
      refine OL.out.mono ?_
      rintro e w7 ⟨q7, l7, d7, rfl, hl7, hk7⟩
      obtain rfl : l = l7 := by rw [hl7]; exact HL.out
      have HB7 := Lib.hid (HB6.out.kp hk7)
      have HW7 := Lib.hid (HK.out.trans (K6.out.trans hk7))
      have HREL := Lib.hid (show sumL big P (k + 1) = S + l from by rw [HNX.out, HL.out])
      have HBD := Lib.hid (show S + l ≤ 30000000 * (k + 1) from by have := HSM.out; have := PL.out; have := HL.out; omega)
      clear hl7 hk7 OL
      obtain h6 | h6 | h6 | h6 | h6 | h6 : s.kd % 6 = 0 ∨ s.kd % 6 = 1 ∨ s.kd % 6 = 2 ∨ s.kd % 6 = 3 ∨ s.kd % 6 = 4 ∨ s.kd % 6 = 5 := by omega
      · have e6 : (s.kd : Int) % 6 = 0 := by omega
        have f0 : w7.cell? ⟨tb, 0, none⟩ = some (.int .u8 (s.kd : Int)) := HB7.out.cell 0
        have f6 : w7.cell? ⟨tb, 6, none⟩ = some (.slice s.q1 s.k1 s.c1) := HB7.out.cell 6
        obtain rfl : l = s.k1 := by rw [HL.out, ← HOK.out.l1]; simp [partW, h6]
        clear h6
        go_wp2_with fail
        go_roundg (n - (k + 1))
        case measure => have := HLT.out; omega
        case rel => exact ⟨k + 1, rfl, HLT.out, by go_num, congrArg (Value.int .i64) (by rw [HREL.out]; omega), by rw [HREL.out]; exact HBD.out, HW7.out⟩
      · have e6 : (s.kd : Int) % 6 = 1 := by omega
        have f0 : w7.cell? ⟨tb, 0, none⟩ = some (.int .u8 (s.kd : Int)) := HB7.out.cell 0
        have f6 : w7.cell? ⟨tb, 6, none⟩ = some (.slice s.q1 s.k1 s.c1) := HB7.out.cell 6
        have m1 : (s.k1 : Int) ≤ (l : Int) := by have := partW_ge big 64 (by omega) s (.inl h6); rw [HOK.out.l1, ← HL.out] at this; omega
        clear h6
        go_wp2_with fail
        go_roundg (n - (k + 1))
        case measure => have := HLT.out; omega
        case rel => exact ⟨k + 1, rfl, HLT.out, by go_num, congrArg (Value.int .i64) (by rw [HREL.out]; omega), by rw [HREL.out]; exact HBD.out, HW7.out⟩
      · have e6 : (s.kd : Int) % 6 = 2 := by omega
        have f0 : w7.cell? ⟨tb, 0, none⟩ = some (.int .u8 (s.kd : Int)) := HB7.out.cell 0
        obtain ⟨cm, hcm⟩ : ∃ cm, s.comp = cm := ⟨_, rfl⟩
        have f4 : w7.cell? ⟨tb, 4, none⟩ = some (.bool cm) := hcm ▸ HB7.out.cell 4
        cases cm
        · obtain rfl : l = sz := by rw [HL.out, HSZ.out, ← numW_plain (partSize s.sz) s.big (partNum s.kd s.sz s.num)]; simp [partW, h6, hcm]
          clear h6 hcm
          go_wp2_with fail
          go_roundg (n - (k + 1))
          case measure => have := HLT.out; omega
          case rel => exact ⟨k + 1, rfl, HLT.out, by go_num, congrArg (Value.int .i64) (by rw [HREL.out]; omega), by rw [HREL.out]; exact HBD.out, HW7.out⟩
        · have hln : l = nby pn + 1 := by rw [HL.out, HPN.out, ← numW_comp (partSize s.sz) s.big _ (partNum_max s.kd s.sz s.num)]; simp [partW, h6, hcm]
          have HLN := Lib.hid hln
          clear h6 hcm hln
          go_wp2_with fail
          go_loopg [9, 11] pn (fun G vv ww wx2 => ∃ u g : Nat, u = G ∧ vv = .int .u64 (u : Int) ∧ ww = .int .i64 (g : Int) ∧ g + nby u = l ∧ u ≤ 18446744073709551615 ∧ w7 = wx2)
          case atStart => exact ⟨pn, 1, rfl, rfl, rfl, by have := HLN.out; omega, by omega, rfl⟩
          case round =>
            obtain ⟨u, g, rfl, rfl, rfl, hg, hu, rfl⟩ := hrel
            have u0 : (0 : Int) ≤ (u : Int) := by omega
            have u1 : (u : Int) ≤ 18446744073709551615 := by omega
            have u2 : (0 : Int) ≤ (g : Int) := by omega
            have u3 : (g : Int) ≤ (l : Int) := by omega
            by_cases h0 : 0 < u
            · have u4 : (0 : Int) < (u : Int) := by omega
              have u6 : (g : Int) < (l : Int) := by have := nby_pos u h0; omega
              have HG := Lib.hid hg
              have H0 := Lib.hid h0
              have HU := Lib.hid hu
              clear hg h0 hu
              go_wp2_with fail
              go_roundg (u / 256)
              case measure => have := H0.out; omega
              case rel => exact ⟨u / 256, g + 1, rfl, by first | rfl | go_num, by go_num, by have := nby_pos u H0.out; have := HG.out; omega, by have := HU.out; omega, rfl⟩
            · obtain rfl : u = 0 := by omega
              obtain rfl : l = g := by rw [nby_zero] at hg; omega
              clear hg h0 hu
              go_wp2_with fail
              go_roundg (n - (k + 1))
              case measure => have := HLT.out; omega
              case rel => exact ⟨k + 1, rfl, HLT.out, by go_num, congrArg (Value.int .i64) (by rw [HREL.out]; omega), by rw [HREL.out]; exact HBD.out, HW7.out⟩
      · have e6 : (s.kd : Int) % 6 = 3 := by omega
        have f0 : w7.cell? ⟨tb, 0, none⟩ = some (.int .u8 (s.kd : Int)) := HB7.out.cell 0
        obtain ⟨cm, hcm⟩ : ∃ cm, s.comp = cm := ⟨_, rfl⟩
        have f4 : w7.cell? ⟨tb, 4, none⟩ = some (.bool cm) := hcm ▸ HB7.out.cell 4
        cases cm
        · obtain rfl : l = sz := by rw [HL.out, HSZ.out, ← numW_plain (partSize s.sz) s.big (partNum s.kd s.sz s.num)]; simp [partW, h6, hcm]
          clear h6 hcm
          go_wp2_with fail
          go_roundg (n - (k + 1))
          case measure => have := HLT.out; omega
          case rel => exact ⟨k + 1, rfl, HLT.out, by go_num, congrArg (Value.int .i64) (by rw [HREL.out]; omega), by rw [HREL.out]; exact HBD.out, HW7.out⟩
        · by_cases h1 : 1 < sz
          · have m1 : (1 : Int) < (sz : Int) := by omega
            have hln : l = nby pn + 1 := by rw [HL.out, HPN.out, ← numW_comp (partSize s.sz) s.big _ (partNum_max s.kd s.sz s.num)]; simp [partW, h6, hcm, ← HSZ.out, h1]
            have HLN := Lib.hid hln
            clear h6 hcm hln h1
            go_wp2_with fail
            go_loopg [9, 11] pn (fun G vv ww wx2 => ∃ u g : Nat, u = G ∧ vv = .int .u64 (u : Int) ∧ ww = .int .i64 (g : Int) ∧ g + nby u = l ∧ u ≤ 18446744073709551615 ∧ w7 = wx2)
            case atStart => exact ⟨pn, 1, rfl, rfl, rfl, by have := HLN.out; omega, by omega, rfl⟩
            case round =>
              obtain ⟨u, g, rfl, rfl, rfl, hg, hu, rfl⟩ := hrel
              have u0 : (0 : Int) ≤ (u : Int) := by omega
              have u1 : (u : Int) ≤ 18446744073709551615 := by omega
              have u2 : (0 : Int) ≤ (g : Int) := by omega
              have u3 : (g : Int) ≤ (l : Int) := by omega
              by_cases h0 : 0 < u
              · have u4 : (0 : Int) < (u : Int) := by omega
                have u6 : (g : Int) < (l : Int) := by have := nby_pos u h0; omega
                have HG := Lib.hid hg
                have H0 := Lib.hid h0
                have HU := Lib.hid hu
                clear hg h0 hu
                go_wp2_with fail
                go_roundg (u / 256)
                case measure => have := H0.out; omega
                case rel => exact ⟨u / 256, g + 1, rfl, by first | rfl | go_num, by go_num, by have := nby_pos u H0.out; have := HG.out; omega, by have := HU.out; omega, rfl⟩
              · obtain rfl : u = 0 := by omega
                obtain rfl : l = g := by rw [nby_zero] at hg; omega
                clear hg h0 hu
                go_wp2_with fail
                go_roundg (n - (k + 1))
                case measure => have := HLT.out; omega
                case rel => exact ⟨k + 1, rfl, HLT.out, by go_num, congrArg (Value.int .i64) (by rw [HREL.out]; omega), by rw [HREL.out]; exact HBD.out, HW7.out⟩
          · have m1 : (sz : Int) ≤ 1 := by omega
            have m2 : decide ((1 : Int) < (sz : Int)) = false := by simp; omega
            obtain rfl : l = sz := by rw [HL.out, HSZ.out, ← numW_plain (partSize s.sz) s.big (partNum s.kd s.sz s.num)]; simp [partW, h6, hcm, ← HSZ.out, h1]
            clear h6 hcm h1
            go_wp2_with fail
            go_roundg (n - (k + 1))
            case measure => have := HLT.out; omega
            case rel => exact ⟨k + 1, rfl, HLT.out, by go_num, congrArg (Value.int .i64) (by rw [HREL.out]; omega), by rw [HREL.out]; exact HBD.out, HW7.out⟩
      · have e6 : (s.kd : Int) % 6 = 4 := by omega
        have f0 : w7.cell? ⟨tb, 0, none⟩ = some (.int .u8 (s.kd : Int)) := HB7.out.cell 0
        have f6 : w7.cell? ⟨tb, 6, none⟩ = some (.slice s.q1 s.k1 s.c1) := HB7.out.cell 6
        have m1 : (s.k1 : Int) ≤ (l : Int) := by have := partW_ge big 64 (by omega) s (.inr (.inl h6)); rw [HOK.out.l1, ← HL.out] at this; omega
        clear h6
        go_wp2_with fail
        go_roundg (n - (k + 1))
        case measure => have := HLT.out; omega
        case rel => exact ⟨k + 1, rfl, HLT.out, by go_num, congrArg (Value.int .i64) (by rw [HREL.out]; omega), by rw [HREL.out]; exact HBD.out, HW7.out⟩
      · have e6 : (s.kd : Int) % 6 = 5 := by omega
        have f0 : w7.cell? ⟨tb, 0, none⟩ = some (.int .u8 (s.kd : Int)) := HB7.out.cell 0
        have f6 : w7.cell? ⟨tb, 6, none⟩ = some (.slice s.q1 s.k1 s.c1) := HB7.out.cell 6
        have m1 : (s.k1 : Int) ≤ (l : Int) := by have := partW_ge big 64 (by omega) s (.inr (.inr h6)); rw [HOK.out.l1, ← HL.out] at this; omega
        clear h6
        go_wp2_with fail
        go_roundg (n - (k + 1))
        case measure => have := HLT.out; omega
        case rel => exact ⟨k + 1, rfl, HLT.out, by go_num, congrArg (Value.int .i64) (by rw [HREL.out]; omega), by rw [HREL.out]; exact HBD.out, HW7.out⟩
    · obtain rfl : k = n := by omega
      have j3 : (0 : Int) ≤ ((sumL big P k : Nat) : Int) := by omega
      have j4 : ((sumL big P k : Nat) : Int) ≤ 600000000 := by have := HN.out; omega
      clear hlt hkp hk hsm
      go_wp2_with fail
      refine (Z3.out wr HK.out).mono ?_
      rintro e w3 ⟨v, R, rfl, hcoll, hput, hb3⟩
      have K3 := Lib.hid (HK.out.trans hb3)
      obtain ⟨a1, c1, rfl, hputs⟩ := hcoll.puts
      have hok := fun r (hr : r < k) => put_ok (hput r hr) (HP.out.ok r hr) (allFit_at 1000 P k HF.out r hr)
      have SPT := Lib.hid (sessionPut_any a1 k c1 R big 64 w3 hputs hok (by have := HN.out; omega) (by omega) (by omega) (fun _ => by omega))
      have HSUM := Lib.hid (putL_sum (big := big) k hput)
      clear hcoll hputs hput hok hb3 Z3
      go_wp2_with fail
      refine SPT.out.mono ?_
      rintro e w4 ⟨q2, l2, d2, rfl, hl2, hown2, hb4⟩
      obtain rfl : l2 = sumL big P k := by rw [← hl2]; exact HSUM.out
      have K4 := Lib.hid (K3.out.trans (show Kp w3 w4 from hb4))
      clear hl2 hown2 hb4 SPT
      go_wp2_with fail
      refine (sessionLive_any _).mono ?_
      rintro e w5 ⟨rfl, hb5⟩
      have HB5 := Lib.hid hb5
      clear hb5
      go_wp2_with fail
      go_ret
      exact ⟨rfl, K4.out.call HB5.out⟩

set_option maxRecDepth 100000 in
set_option maxHeartbeats 4000000 in
theorem fnSizes_any (a : Option Addr) (n c : Nat) (P : Nat → LPart) (big : Bool) (w : World) (h : PartsIn w a n P) (hnc : n ≤ c) (hcm : c ≤ maxLen) :
    Calls Tryd.prog 8 #[.slice a n c, .bool big] w fun e w' => e = .returned (.bool true) ∧ Below w.heap.size w w' := by
  by_cases hn : n ≤ 2147483647
  · have Z1 := Lib.hid (zzFits11_few a n c P w h hn)
    cases hf2 : allFit 2147483647 P n
    · rw [hf2] at Z1
      clear h hnc hcm hf2
      go_enter Tryd.func8, Tryd.ntmps8
      go_wp2_with fail
      refine Z1.out.mono ?_
      rintro e w1 ⟨rfl, hb1⟩
      have K1 := Lib.hid (show Kp w w1 from hb1)
      clear hb1 Z1
      go_wp2_with fail
      go_ret
      exact ⟨rfl, K1.out⟩
    · by_cases h20 : n ≤ 20
      · cases hf : allFit 1000 P n
        · have Z2 := Lib.hid (fun w1 (hk : Kp w w1) => sessionFits_any a n c P w1 (h.kp hk) h20)
          rw [hf] at Z2
          rw [hf2] at Z1
          clear h hnc hcm hf2 hf
          go_enter Tryd.func8, Tryd.ntmps8
          go_wp2_with fail
          refine Z1.out.mono ?_
          rintro e w1 ⟨rfl, hb1⟩
          have K1 := Lib.hid (show Kp w w1 from hb1)
          clear hb1 Z1
          go_wp2_with fail
          refine (Z2.out w1 K1.out).mono ?_
          rintro e w2 ⟨rfl, hb2⟩
          have K2 := Lib.hid (K1.out.trans hb2)
          clear hb2 Z2
          go_wp2_with fail
          refine (sessionLive_any _).mono ?_
          rintro e w5 ⟨rfl, hb5⟩
          have HB5 := Lib.hid hb5
          clear hb5
          go_wp2_with fail
          go_ret
          exact ⟨rfl, K2.out.call HB5.out⟩
        · exact fnSizes_few a n c P big w h h20 hf hf2
      · have Z2 := Lib.hid (fun w1 => sessionFits_no a n c w1 (by omega) hn)
        rw [hf2] at Z1
        clear h hnc hcm hf2 h20
        go_enter Tryd.func8, Tryd.ntmps8
        go_wp2_with fail
        refine Z1.out.mono ?_
        rintro e w1 ⟨rfl, hb1⟩
        have K1 := Lib.hid (show Kp w w1 from hb1)
        clear hb1 Z1
        go_wp2_with fail
        refine (Z2.out w1).mono ?_
        rintro e w2 ⟨rfl, hb2⟩
        have K2 := Lib.hid (K1.out.trans hb2)
        clear hb2 Z2
        go_wp2_with fail
        refine (sessionLive_any _).mono ?_
        rintro e w5 ⟨rfl, hb5⟩
        have HB5 := Lib.hid hb5
        clear hb5
        go_wp2_with fail
        go_ret
        exact ⟨rfl, K2.out.call HB5.out⟩
  · have Z1 := Lib.hid (zzFits11_big a n c w (by omega) (by omega))
    clear h hnc hcm
    go_enter Tryd.func8, Tryd.ntmps8
    go_wp2_with fail
    refine Z1.out.mono ?_
    rintro e w1 ⟨rfl, hb1⟩
    have K1 := Lib.hid (show Kp w w1 from hb1)
    clear hb1 Z1
    go_wp2_with fail
    go_ret
    exact ⟨rfl, K1.out⟩
end Go.Proofs.YtgjfejalinkohaaDoor
