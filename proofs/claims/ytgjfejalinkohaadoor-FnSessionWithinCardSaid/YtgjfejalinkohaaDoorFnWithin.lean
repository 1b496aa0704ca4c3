/-
  FnSessionWithin: a message may be a CLR of another one.
-/
import Derived.Test.YtgjfejalinkohaaDoorSes28
import Derived.Test.YtgjfejalinkohaaDoorOpenP
namespace Go.Proofs.YtgjfejalinkohaaDoor
open Go Go.RowKit

set_option maxRecDepth 100000 in
set_option maxHeartbeats 8000000 in
theorem fnWithin_few (a1 a2 : Option Addr) (n1 c1 n2 c2 : Nat) (P1 P2 : Nat → LPart) (big : Bool) (w : World) (h1 : PartsIn w a1 n1 P1) (hn1 : n1 ≤ 20) (hf1 : allFit 1000 P1 n1 = true) (hff1 : allFit 2147483647 P1 n1 = true) (h2 : PartsIn w a2 n2 P2) (hn2 : n2 ≤ 20) (hf2 : allFit 1000 P2 n2 = true) (hff2 : allFit 2147483647 P2 n2 = true) :
    Calls Tryd.prog 9 #[.slice a1 n1 c1, .slice a2 n2 c2, .bool big] w fun e w' => e = .returned (.bool true) ∧ Below w.heap.size w w' := by
  have i0 : (0 : Int) ≤ (n1 : Int) := by omega
  have i1 : (n1 : Int) ≤ 20 := by omega
  have i2 : (0 : Int) ≤ (n2 : Int) := by omega
  have i3 : (n2 : Int) ≤ 20 := by omega
  have HP1 := Lib.hid h1
  have HP2 := Lib.hid h2
  have HN := Lib.hid (And.intro hn1 hn2)
  have HF1 := Lib.hid hf1
  have HF2 := Lib.hid hf2
  have Y1 := Lib.hid (fun w1 (hk : Kp w w1) => zzFits11_few a1 n1 c1 P1 w1 (h1.kp hk) (by omega))
  rw [hff1] at Y1
  have Y2 := Lib.hid (fun w1 (hk : Kp w w1) => zzFits11_few a2 n2 c2 P2 w1 (h2.kp hk) (by omega))
  rw [hff2] at Y2
  have Z1 := Lib.hid (fun w1 (hk : Kp w w1) => sessionFits_any a1 n1 c1 P1 w1 (h1.kp hk) hn1)
  rw [hf1] at Z1
  have Z2 := Lib.hid (fun w1 (hk : Kp w w1) => sessionFits_any a2 n2 c2 P2 w1 (h2.kp hk) hn2)
  rw [hf2] at Z2
  have PU1 := Lib.hid (fun w1 (hk : Kp w w1) => sessionPuts_any a1 n1 c1 P1 w1 (h1.kp hk) hn1 hf1)
  have PU2 := Lib.hid (fun w1 (hk : Kp w w1) => sessionPuts_any a2 n2 c2 P2 w1 (h2.kp hk) hn2 hf2)
  have GE1 := Lib.hid (fun w1 (hk : Kp w w1) => sessionGets_any a1 n1 c1 P1 w1 (h1.kp hk) hn1)
  have GE2 := Lib.hid (fun w1 (hk : Kp w w1) => sessionGets_any a2 n2 c2 P2 w1 (h2.kp hk) hn2)
  have GO1 := Lib.hid (fun w1 (hk : Kp w w1) => sessionGot_any a1 n1 c1 P1 w1 (h1.kp hk) hn1)
  have GO2 := Lib.hid (fun w1 (hk : Kp w w1) => sessionGot_any a2 n2 c2 P2 w1 (h2.kp hk) hn2)
  clear h1 hn1 hf1 hff1 h2 hn2 hf2 hff2
  go_enter Tryd.func9, Tryd.ntmps9
  go_wp2_with fail
  refine (Y1.out w (Kp.refl w)).mono ?_
  rintro e w1 ⟨rfl, hb⟩
  have K1 := Lib.hid (show Kp w w1 from hb)
  clear hb Y1
  go_wp2_with fail
  refine (Y2.out w1 K1.out).mono ?_
  rintro e w2 ⟨rfl, hb⟩
  have K2 := Lib.hid (K1.out.trans hb)
  clear hb Y2
  go_wp2_with fail
  refine (Z1.out w2 K2.out).mono ?_
  rintro e w3 ⟨rfl, hb⟩
  have K3 := Lib.hid (K2.out.trans hb)
  clear hb Z1
  go_wp2_with fail
  refine (Z2.out w3 K3.out).mono ?_
  rintro e w4 ⟨rfl, hb⟩
  have K4 := Lib.hid (K3.out.trans hb)
  clear hb Z2
  go_wp2_with fail
  refine (PU1.out w4 K4.out).mono ?_
  rintro e w5 ⟨v, R, rfl, hcoll, hput, hb⟩
  have K5 := Lib.hid (K4.out.trans hb)
  obtain ⟨ap, cp, rfl, hputs⟩ := hcoll.puts
  have hok := fun r (hr : r < n1) => put_ok (hput r hr) (HP1.out.ok r hr) (allFit_at 1000 P1 n1 HF1.out r hr)
  have SP := Lib.hid (sessionPut_any ap n1 cp R big 64 w5 hputs hok (by have := HN.out; omega) (by omega) (by omega) (fun _ => by omega))
  have HRUN := Lib.hid (parts_run big 64 (by omega) (by omega) (fun _ => by omega) n1 P1 R [] hput HP1.out.ok HF1.out)
  have HBY := Lib.hid (parts_bys big 64 hput HP1.out.ok)
  have HALL := Lib.hid (show restL big 64 R (n1 - 0) 0 ++ [] = putL big 64 R n1 from by rw [Nat.sub_zero, rest_all, List.append_nil])
  obtain ⟨IN, hIN⟩ : ∃ IN, IN = putL big 64 R n1 := ⟨_, rfl⟩
  rw [← hIN] at SP HBY HALL
  clear hcoll hputs hput hok hb PU1 hIN
  go_wp2_with fail
  refine SP.out.mono ?_
  rintro e w6 ⟨q2, l2, d2, rfl, hl2, hown2, hb⟩
  have HL2 := Lib.hid hl2
  have HI6 := Lib.hid (bin_of_own hown2)
  have K6 := Lib.hid (K5.out.trans (show Kp w5 w6 from hb))
  have i4 : (0 : Int) ≤ (l2 : Int) := by omega
  have i5 : (l2 : Int) ≤ 9223372036854775807 := by have := own_cap hown2; obtain ⟨_, _, he, _, hc⟩ := own_slice hown2; injection he with _ _ e3; subst e3; unfold maxLen at hc; omega
  clear hl2 hown2 hb SP
  by_cases hlen : l2 ≤ 3000
  · have i6 : (l2 : Int) ≤ 3000 := by omega
    have HLEN := Lib.hid hlen
    have CL := Lib.hid (clone_any w6 q2 l2 d2 IN HI6.out HL2.out (by omega))
    clear hlen
    go_wp2_with fail
    refine CL.out.mono ?_
    rintro e w7 ⟨q3, e3, rfl, hown3, hb⟩
    have HI7 := Lib.hid (bin_of_own hown3)
    have hk67 : Kp w6 w7 := hb
    have HJ7 := Lib.hid (bin_kp HI6.out hk67)
    have K7 := Lib.hid (K6.out.trans hk67)
    clear hown3 hb hk67 CL
    go_wp2_with fail
    generalize hW : w7.alloc (.cells #[.int .i64 1, .slice q3 l2 e3, .slice none 0 0, .int .i64 0, .int .u64 0, .int .u8 0, .int .u8 0, .bool false, .bool false] 31) = W8
    have hk8 : Kp w7 W8 := hW ▸ (Kp.refl w7).alloc _
    have HB8 := Lib.hid (show Blk W8 w7.heap.size 31 #[.int .i64 1, .slice q3 l2 e3, .slice none 0 0, .int .i64 0, .int .u64 0, .int .u8 0, .int .u8 0, .bool false, .bool false] from hW ▸ Blk.new w7 _ _)
    have HK8 := Lib.hid hk8
    clear hW hk8
    refine (PU2.out W8 (K7.out.trans HK8.out)).mono ?_
    rintro e w9 ⟨v, R2, rfl, hcoll, hput2, hb⟩
    have HPO2 := Lib.hid hput2
    have hk9 : Kp w7 w9 := HK8.out.trans hb
    obtain ⟨v', w10, hr, hown, hk10⟩ := front_app Tryd.underlying26 infoPut rfl (by decide) (by decide) w9 w7.heap.size ((⟨1, q3, l2, e3, IN, none, 0, 0, [], 0, 0, 0, 0, false, false⟩ : PStep)).cells (HB8.out.kp hb) rfl _ v n2 _ hcoll.own (flatR_one PStep.one n2) (by have := HN.out; omega)
    obtain ⟨ap2, cp2, rfl, hputs2⟩ := hcoll.puts
    obtain ⟨ap3, cp3, rfl, hputs3⟩ := puts_ahead hown (bin_kp HI7.out (hk9.trans hk10)) (Lib.BytesIn.nil _ _ _) (fun r hr => by obtain ⟨_, _, _, _, x1, x2⟩ := hputs2 r hr; exact ⟨bin_kp x1 hk10, bin_kp x2 hk10⟩)
    have HR := Lib.hid (show (Builtin.append_ #[26, 26] 26 #[.slice (some ⟨w7.heap.size, 0, none⟩) 1 1, .slice ap2 n2 cp2]).run Tryd.prog w9 = .ok (.slice ap3 (n2 + 1) cp3) w10 from hr)
    have hk10' := hk9.trans hk10
    have K10 := Lib.hid (K7.out.trans hk10')
    have HJ10 := Lib.hid (bin_kp HJ7.out hk10')
    have okx : ((⟨1, q3, l2, e3, IN, none, 0, 0, [], 0, 0, 0, 0, false, false⟩ : PStep)).Ok := ok_clr _ _ _ _ _ (by omega) HL2.out (by have := HLEN.out; omega)
    have hok2 := fun r (hr : r < n2) => put_ok (hput2 r hr) (HP2.out.ok r hr) (allFit_at 1000 P2 n2 HF2.out r hr)
    have SP2 := Lib.hid (sessionPut_any ap3 (n2 + 1) cp3 (ahead (⟨1, q3, l2, e3, IN, none, 0, 0, [], 0, 0, 0, 0, false, false⟩ : PStep) R2) big 64 w10 hputs3 (ok_ahead okx hok2) (by have := HN.out; omega) (by omega) (by omega) (fun _ => by omega))
    have TOT := Lib.hid (show putL big 64 (ahead (⟨1, q3, l2, e3, IN, none, 0, 0, [], 0, 0, 0, 0, false, false⟩ : PStep) R2) (n2 + 1) = clrW big 64 IN ++ putL big 64 R2 n2 from putL_ahead big 64 (⟨1, q3, l2, e3, IN, none, 0, 0, [], 0, 0, 0, 0, false, false⟩ : PStep) R2 n2)
    have HLEN2 := Lib.hid (putL_len big 64 (by omega) (ahead (⟨1, q3, l2, e3, IN, none, 0, 0, [], 0, 0, 0, 0, false, false⟩ : PStep) R2) (n2 + 1) (ok_ahead okx hok2) (n2 + 1) (Nat.le_refl _))
    clear hcoll hput2 hb hk9 hr hown hk10 hputs2 hputs3 hk10' okx hok2 PU2
    go_wp2_with (at_builtin; refine Lib.wpList_append_run _ rfl _ _ _ _ rfl _ _ rfl rfl _ _ HR.out ?_)
    refine SP2.out.mono ?_
    rintro e w11 ⟨q4, l4, d4, rfl, hl4, hown4, hb⟩
    rw [TOT.out] at hl4 hown4
    have HL4 := Lib.hid hl4
    have HI11 := Lib.hid (bin_of_own hown4)
    have hk11 : Kp w10 w11 := hb
    have K11 := Lib.hid (K10.out.trans hk11)
    have HJ11 := Lib.hid (bin_kp HJ10.out hk11)
    clear hl4 hown4 hb hk11 SP2 HR
    go_wp2_with fail
    generalize hW : w11.alloc (.cells #[.int .i64 2, .int .i64 0, .bool false, .bool false] 33) = W12
    have hk12 : Kp w11 W12 := hW ▸ (Kp.refl w11).alloc _
    have HB12 := Lib.hid (show Blk W12 w11.heap.size 33 #[.int .i64 2, .int .i64 0, .bool false, .bool false] from hW ▸ Blk.new w11 _ _)
    have HK12 := Lib.hid hk12
    clear hW hk12
    refine (GE2.out W12 (K11.out.trans HK12.out)).mono ?_
    rintro e w13 ⟨v, rfl, hcoll, hb⟩
    have hk13 : Kp w11 w13 := HK12.out.trans hb
    obtain ⟨v', w14, hr, hown, hk14⟩ := front_app Tryd.underlying27 infoGet rfl (by decide) (by decide) w13 w11.heap.size ((⟨2, 0, false, false⟩ : GStep)).cells (HB12.out.kp hb) rfl _ v n2 _ hcoll.own (flatR_one GStep.one n2) (by have := HN.out; omega)
    obtain ⟨ag2, cg2, rfl, _⟩ := hcoll.gets
    obtain ⟨ag3, cg3, rfl, hgets3⟩ := gets_ahead hown
    have HR := Lib.hid (show (Builtin.append_ #[27, 27] 27 #[.slice (some ⟨w11.heap.size, 0, none⟩) 1 1, .slice ag2 n2 cg2]).run Tryd.prog w13 = .ok (.slice ag3 (n2 + 1) cg3) w14 from hr)
    have hk14' := hk13.trans hk14
    have K14 := Lib.hid (K11.out.trans hk14')
    have HJ14 := Lib.hid (bin_kp HJ11.out hk14')
    have SG := Lib.hid (sessionGet_any q4 l4 d4 (clrW big 64 IN ++ putL big 64 R2 n2) ag3 (n2 + 1) cg3 (ahead ⟨2, 0, false, false⟩ (fun r => getOf (P2 r))) (ahead (clrW big 64 IN ++ putL big 64 R2 n2) (fun r => restL big 64 R2 (n2 - r) r ++ [])) (ahead ⟨IN, [], 0, noText⟩ (fun r => wantV (P2 r))) big w14 (bin_kp HI11.out hk14') HL4.out
      ((bys_clr big 64 HBY.out).app (parts_bys big 64 HPO2.out HP2.out.ok)) (by have h1 := HL4.out; have := HLEN2.out; rw [TOT.out] at this; have := HN.out; omega) hgets3 (by have := HN.out; omega) rfl
      (run_ahead (.inr (.inr (.inl ⟨rfl, IN, (show RdClr big (clrW big 64 IN ++ putL big 64 R2 n2) IN (restL big 64 R2 (n2 - 0) 0 ++ []) from by rw [Nat.sub_zero, rest_all, List.append_nil]; exact rdClr_mk big 64 (by omega) (by omega) (fun _ => by omega) IN _), rfl⟩))) (parts_run big 64 (by omega) (by omega) (fun _ => by omega) n2 P2 R2 [] HPO2.out HP2.out.ok HF2.out)))
    clear hcoll hb hk13 hr hown hk14 hgets3 hk14' GE2
    go_wp2_with (at_builtin; refine Lib.wpList_append_run _ rfl _ _ _ _ rfl _ _ rfl rfl _ _ HR.out ?_)
    refine SG.out.mono ?_
    rintro e w15 ⟨v, q5, l5, d5, Q, rfl, hown, hgots, hl5, hin5, hb⟩
    obtain rfl : l5 = 0 := by rw [← hl5]; show (restL big 64 R2 (n2 - n2) n2 ++ []).length = 0; rw [Nat.sub_self]; rfl
    obtain ⟨g, cap, rfl, hcap, hcapm, hg, _, hcell⟩ := own_form hown (by omega)
    have hk15 : Kp w14 w15 := hb
    have K15 := Lib.hid (K14.out.trans hk15)
    have HJ15 := Lib.hid (bin_kp HJ14.out hk15)
    have hrow := fun r j u (hr : r < n2 + 1) (hu : (gotCells (Q r) ((ahead ⟨IN, [], 0, noText⟩ (fun r => wantV (P2 r))) r))[j]? = some u) => hcell _ u (got_at Q _ (n2 + 1) r j u hr hu)
    have HROW := Lib.hid (show ∀ r j u, r < n2 → (gotCells (Q (r + 1)) (wantV (P2 r)))[j]? = some u → w15.cell? ⟨g, 5 + r * 5 + j, none⟩ = some u from fun r j u hr hu => by
      have := hrow (r + 1) j u (by omega) hu
      rwa [show (r + 1) * 5 + j = 5 + r * 5 + j by omega] at this)
    have HGI := Lib.hid (show GotsIn w15 n2 (fun r => Q (r + 1)) (fun r => wantV (P2 r)) from fun r hr => hgots (r + 1) (by omega))
    obtain ⟨g1, g2, _, _⟩ := hgots 0 (by omega)
    have x1 := hrow 0 1 _ (by omega) rfl
    generalize Q 0 = pl at g1 g2 x1
    obtain ⟨qa, ka, ma, qb, kb, mb⟩ := pl
    replace g1 : IN.length = ka := g1
    replace g2 : Lib.BytesIn w15 qa ka IN := g2
    obtain rfl : l2 = ka := by rw [← g1]; exact HL2.out.symm
    replace x1 : w15.cell? ⟨g, 1, none⟩ = some (.slice qa l2 ma) := x1
    have HA15 := Lib.hid g2
    have HCM := Lib.hid hcapm
    clear hown hgots hl5 hin5 hb hcell hk15 hrow g1 g2 SG HR hcapm
    have j0 : (n2 : Int) + 1 ≤ (cap : Int) := by omega
    have EQ := Lib.hid (fun w1 (hk : Kp w15 w1) => bytes_equal_same w1 qa q2 l2 ma d2 IN HL2.out (bin_kp HA15.out hk) (bin_kp HJ15.out hk))
    have ew : IntKind.i64.wrap ((n2 : Int) + 1) = (n2 : Int) + 1 := IntWalk.i64_in _ (by omega)
    have cp1 : (cap : Int) ≤ 9223372036854775807 := by have := HCM.out; unfold maxLen at this; omega
    have j1 : (1 : Int) ≤ (n2 : Int) + 1 := by omega
    have j2 : (0 : Int) ≤ (n2 : Int) + 1 := by omega
    have j3 : (1 : Int) ≤ (cap : Int) := by omega
    have j4 : n2 + 1 ≤ cap := by omega
    have j5 : 1 ≤ n2 + 1 := by omega
    by_cases hc1 : cap = 1
    · have hc2 : (cap = 1) = True := by simp [hc1]
      have HN0 := Lib.hid (show n2 = 0 by omega)
      have GA := Lib.hid (show GotAt w15 (some ⟨g, 0, none⟩) n2 (fun r => Q (r + 1)) (fun r => wantV (P2 r)) from fun r hr => absurd hr (by have := HN0.out; omega))
      clear hc1
      go_wp2_with fail
      go_region_held3 (fun w' => w'.cell? ⟨g, 1, none⟩ = some (.slice qa l2 ma)) (go_keep)
        (first
          | (go_at_call 18; refine (EQ.out _ (by first | exact Kp.refl _ | exact (Kp.refl _).drew)).mono ?_; rintro e wx ⟨rfl, rfl⟩)
          | (go_at_call 28; refine (GO2.out _ (by first | exact K15.out | exact K15.out.drew)).mono ?_; rintro e w16 ⟨v, rfl, hown, hb⟩; obtain ⟨a16, c16, rfl, _, _⟩ := own_slice hown; have K1516 := Lib.hid (show Kp w15 w16 from (by first | exact hb | exact (Kp.refl w15).drew.call hb)); have GW := Lib.hid (gotAt_own hown); have y1 := below_some K1516.out x1; clear hown hb x1)
          | (go_at_call 27; refine (eqGot_any _ a16 n2 _ c16 (fun r => Q (r + 1)) _ _ w16 (GA.out.kp K1516.out) GW.out (HGI.out.kp K1516.out) (want_in (HP2.out.kp (K15.out.trans K1516.out))) (by have := HN.out; omega)).mono ?_; rintro e w17 ⟨rfl, hb⟩; have K1617 := Lib.hid (show Kp w16 w17 from hb); have z1 := below_some hb y1; clear hb y1))
      all_goals
        have K17 := Lib.hid (K15.out.trans (K1516.out.trans K1617.out))
        have CL := Lib.hid (clone_any w17 qa l2 ma IN (bin_kp HA15.out (K1516.out.trans K1617.out)) HL2.out (by have := HLEN.out; omega))
        go_wp2_with fail
        refine CL.out.mono ?_
        rintro e w18 ⟨q6, d6, rfl, hown, hb⟩
        have HI18 := Lib.hid (bin_of_own hown)
        have K18 := Lib.hid (K17.out.trans hb)
        clear hown hb CL z1
        go_wp2_with fail
        refine (GE1.out w18 K18.out).mono ?_
        rintro e w19 ⟨v, rfl, hcoll, hb⟩
        obtain ⟨ag4, cg4, rfl, hgets⟩ := hcoll.gets
        have K19 := Lib.hid (K18.out.trans hb)
        have SG2 := Lib.hid (sessionGet_any q6 l2 d6 IN ag4 n1 cg4 (fun r => getOf (P1 r)) (fun r => restL big 64 R (n1 - r) r ++ []) (fun r => wantV (P1 r)) big w19 (bin_kp HI18.out hb) HL2.out HBY.out (by have := HLEN.out; omega) hgets (by have := HN.out; omega) HALL.out HRUN.out)
        clear hcoll hgets hb GE1
        go_wp2_with fail
        refine SG2.out.mono ?_
        rintro e w20 ⟨v, q7, l7, d7, Q2, rfl, hown, hgots, hl7, hin7, hb⟩
        obtain rfl : l7 = 0 := by rw [← hl7]; show (restL big 64 R (n1 - n1) n1 ++ []).length = 0; rw [Nat.sub_self]; rfl
        obtain ⟨a20, c20, rfl, _, _⟩ := own_slice hown
        have HGA := Lib.hid (gotAt_own hown)
        have HGI2 := Lib.hid hgots
        have K20 := Lib.hid (K19.out.trans (show Kp w19 w20 from hb))
        clear hown hgots hl7 hin7 hb SG2
        go_wp2_with fail
        refine (GO1.out w20 K20.out).mono ?_
        rintro e w21 ⟨v, rfl, hown, hb⟩
        obtain ⟨a21, c21, rfl, _, _⟩ := own_slice hown
        have K21 := Lib.hid (K20.out.trans hb)
        have EQ2 := Lib.hid (eqGot_any a20 a21 n1 c20 c21 Q2 _ _ w21 (HGA.out.kp hb) (gotAt_own hown) (HGI2.out.kp hb) (want_in (HP1.out.kp K21.out)) (by have := HN.out; omega))
        clear hown hb GO1
        go_wp2_with fail
        refine EQ2.out.mono ?_
        rintro e w22 ⟨rfl, hb⟩
        have K22 := Lib.hid (K21.out.trans hb)
        clear hb EQ2
        go_wp2_with fail
        refine (sessionLive_any _).mono ?_
        rintro e w5 ⟨rfl, hb5⟩
        have HB5 := Lib.hid hb5
        clear hb5
        go_wp2_with fail
        go_ret
        exact ⟨rfl, K22.out.call HB5.out⟩
    · have hc2 : (cap = 1) = False := by simp [hc1]
      have cp2 : (1 : Int) < (cap : Int) := by omega
      have GA := Lib.hid (show GotAt w15 (some ⟨g, 5, none⟩) n2 (fun r => Q (r + 1)) (fun r => wantV (P2 r)) from fun r hr => ⟨g, 5, rfl, fun j u hu => HROW.out r j u hr hu⟩)
      clear hc1
      go_wp2_with fail
      go_region_held3 (fun w' => w'.cell? ⟨g, 1, none⟩ = some (.slice qa l2 ma)) (go_keep)
        (first
          | (go_at_call 18; refine (EQ.out _ (by first | exact Kp.refl _ | exact (Kp.refl _).drew)).mono ?_; rintro e wx ⟨rfl, rfl⟩)
          | (go_at_call 28; refine (GO2.out _ (by first | exact K15.out | exact K15.out.drew)).mono ?_; rintro e w16 ⟨v, rfl, hown, hb⟩; obtain ⟨a16, c16, rfl, _, _⟩ := own_slice hown; have K1516 := Lib.hid (show Kp w15 w16 from (by first | exact hb | exact (Kp.refl w15).drew.call hb)); have GW := Lib.hid (gotAt_own hown); have y1 := below_some K1516.out x1; clear hown hb x1)
          | (go_at_call 27; refine (eqGot_any _ a16 n2 _ c16 (fun r => Q (r + 1)) _ _ w16 (GA.out.kp K1516.out) GW.out (HGI.out.kp K1516.out) (want_in (HP2.out.kp (K15.out.trans K1516.out))) (by have := HN.out; omega)).mono ?_; rintro e w17 ⟨rfl, hb⟩; have K1617 := Lib.hid (show Kp w16 w17 from hb); have z1 := below_some hb y1; clear hb y1))
      all_goals
        have K17 := Lib.hid (K15.out.trans (K1516.out.trans K1617.out))
        have CL := Lib.hid (clone_any w17 qa l2 ma IN (bin_kp HA15.out (K1516.out.trans K1617.out)) HL2.out (by have := HLEN.out; omega))
        go_wp2_with fail
        refine CL.out.mono ?_
        rintro e w18 ⟨q6, d6, rfl, hown, hb⟩
        have HI18 := Lib.hid (bin_of_own hown)
        have K18 := Lib.hid (K17.out.trans hb)
        clear hown hb CL z1
        go_wp2_with fail
        refine (GE1.out w18 K18.out).mono ?_
        rintro e w19 ⟨v, rfl, hcoll, hb⟩
        obtain ⟨ag4, cg4, rfl, hgets⟩ := hcoll.gets
        have K19 := Lib.hid (K18.out.trans hb)
        have SG2 := Lib.hid (sessionGet_any q6 l2 d6 IN ag4 n1 cg4 (fun r => getOf (P1 r)) (fun r => restL big 64 R (n1 - r) r ++ []) (fun r => wantV (P1 r)) big w19 (bin_kp HI18.out hb) HL2.out HBY.out (by have := HLEN.out; omega) hgets (by have := HN.out; omega) HALL.out HRUN.out)
        clear hcoll hgets hb GE1
        go_wp2_with fail
        refine SG2.out.mono ?_
        rintro e w20 ⟨v, q7, l7, d7, Q2, rfl, hown, hgots, hl7, hin7, hb⟩
        obtain rfl : l7 = 0 := by rw [← hl7]; show (restL big 64 R (n1 - n1) n1 ++ []).length = 0; rw [Nat.sub_self]; rfl
        obtain ⟨a20, c20, rfl, _, _⟩ := own_slice hown
        have HGA := Lib.hid (gotAt_own hown)
        have HGI2 := Lib.hid hgots
        have K20 := Lib.hid (K19.out.trans (show Kp w19 w20 from hb))
        clear hown hgots hl7 hin7 hb SG2
        go_wp2_with fail
        refine (GO1.out w20 K20.out).mono ?_
        rintro e w21 ⟨v, rfl, hown, hb⟩
        obtain ⟨a21, c21, rfl, _, _⟩ := own_slice hown
        have K21 := Lib.hid (K20.out.trans hb)
        have EQ2 := Lib.hid (eqGot_any a20 a21 n1 c20 c21 Q2 _ _ w21 (HGA.out.kp hb) (gotAt_own hown) (HGI2.out.kp hb) (want_in (HP1.out.kp K21.out)) (by have := HN.out; omega))
        clear hown hb GO1
        go_wp2_with fail
        refine EQ2.out.mono ?_
        rintro e w22 ⟨rfl, hb⟩
        have K22 := Lib.hid (K21.out.trans hb)
        clear hb EQ2
        go_wp2_with fail
        refine (sessionLive_any _).mono ?_
        rintro e w5 ⟨rfl, hb5⟩
        have HB5 := Lib.hid hb5
        clear hb5
        go_wp2_with fail
        go_ret
        exact ⟨rfl, K22.out.call HB5.out⟩
  · have i6 : (3000 : Int) < (l2 : Int) := by omega
    clear hlen
    go_wp2_with fail
    refine (sessionLive_any _).mono ?_
    rintro e w5 ⟨rfl, hb5⟩
    have HB5 := Lib.hid hb5
    clear hb5
    go_wp2_with fail
    go_ret
    exact ⟨rfl, K6.out.call HB5.out⟩

/-- The first test of a law, whatever its answer. -/
theorem zz_some {w : World} {a : Option Addr} {n c : Nat} {P : Nat → LPart} (h : PartsIn w a n P) (hnc : n ≤ c) (hcm : c ≤ maxLen) : ∃ b, (∀ w1, Kp w w1 → Calls Tryd.prog 23 #[.slice a n c] w1 fun e w' => e = .returned (.bool b) ∧ Kp w1 w') ∧ (b = true → n ≤ 2147483647 ∧ allFit 2147483647 P n = true) := by
  by_cases hn : n ≤ 2147483647
  · exact ⟨_, fun w1 hk => zzFits11_few a n c P w1 (h.kp hk) hn, fun e => ⟨hn, e⟩⟩
  · exact ⟨false, fun w1 _ => zzFits11_big a n c w1 (by omega) (by omega), fun e => by cases e⟩
theorem fits_some {w : World} {a : Option Addr} {n c : Nat} {P : Nat → LPart} (h : PartsIn w a n P) (hn : n ≤ 2147483647) : ∃ b, (∀ w1, Kp w w1 → Calls Tryd.prog 24 #[.slice a n c] w1 fun e w' => e = .returned (.bool b) ∧ Kp w1 w') ∧ (b = true → n ≤ 20 ∧ allFit 1000 P n = true) := by
  by_cases h20 : n ≤ 20
  · exact ⟨_, fun w1 hk => sessionFits_any a n c P w1 (h.kp hk) h20, fun e => ⟨h20, e⟩⟩
  · exact ⟨false, fun w1 _ => sessionFits_no a n c w1 (by omega) hn, fun e => by cases e⟩

set_option maxRecDepth 100000 in
set_option maxHeartbeats 4000000 in
theorem fnWithin_any (a1 a2 : Option Addr) (n1 c1 n2 c2 : Nat) (P1 P2 : Nat → LPart) (big : Bool) (w : World) (h1 : PartsIn w a1 n1 P1) (hn1 : n1 ≤ c1) (hc1 : c1 ≤ maxLen) (h2 : PartsIn w a2 n2 P2) (hn2 : n2 ≤ c2) (hc2 : c2 ≤ maxLen) :
    Calls Tryd.prog 9 #[.slice a1 n1 c1, .slice a2 n2 c2, .bool big] w fun e w' => e = .returned (.bool true) ∧ Below w.heap.size w w' := by
  obtain ⟨b1, Y1, e1⟩ := zz_some h1 hn1 hc1
  obtain ⟨b2, Y2, e2⟩ := zz_some h2 hn2 hc2
  cases b1
  · have Y1 := Lib.hid Y1
    clear e1 Y2 e2 h1 hn1 hc1 h2 hn2 hc2
    go_enter Tryd.func9, Tryd.ntmps9
    go_wp2_with fail
    refine (Y1.out w (Kp.refl w)).mono ?_
    rintro e w1 ⟨rfl, hb⟩
    have K1 := Lib.hid (show Kp w w1 from (Kp.refl w).trans hb)
    clear hb Y1
    go_wp2_with fail
    go_ret
    exact ⟨rfl, K1.out⟩
  · cases b2
    · have Y1 := Lib.hid Y1
      have Y2 := Lib.hid Y2
      clear e1 e2 h1 hn1 hc1 h2 hn2 hc2
      go_enter Tryd.func9, Tryd.ntmps9
      go_wp2_with fail
      refine (Y1.out w (Kp.refl w)).mono ?_
      rintro e w1 ⟨rfl, hb⟩
      have K1 := Lib.hid (show Kp w w1 from (Kp.refl w).trans hb)
      clear hb Y1
      go_wp2_with fail
      refine (Y2.out w1 K1.out).mono ?_
      rintro e w2 ⟨rfl, hb⟩
      have K2 := Lib.hid (show Kp w w2 from K1.out.trans hb)
      clear hb Y2
      go_wp2_with fail
      go_ret
      exact ⟨rfl, K2.out⟩
    · obtain ⟨m1, f1⟩ := e1 rfl
      obtain ⟨m2, f2⟩ := e2 rfl
      obtain ⟨d1, Z1, g1⟩ := fits_some (c := c1) h1 m1
      obtain ⟨d2, Z2, g2⟩ := fits_some (c := c2) h2 m2
      cases d1
      · have Y1 := Lib.hid Y1
        have Y2 := Lib.hid Y2
        have Z1 := Lib.hid Z1
        clear e1 e2 g1 g2 Z2 m1 m2 f1 f2 h1 hn1 hc1 h2 hn2 hc2
        go_enter Tryd.func9, Tryd.ntmps9
        go_wp2_with fail
        refine (Y1.out w (Kp.refl w)).mono ?_
        rintro e w1 ⟨rfl, hb⟩
        have K1 := Lib.hid (show Kp w w1 from (Kp.refl w).trans hb)
        clear hb Y1
        go_wp2_with fail
        refine (Y2.out w1 K1.out).mono ?_
        rintro e w2 ⟨rfl, hb⟩
        have K2 := Lib.hid (show Kp w w2 from K1.out.trans hb)
        clear hb Y2
        go_wp2_with fail
        refine (Z1.out w2 K2.out).mono ?_
        rintro e w3 ⟨rfl, hb⟩
        have K3 := Lib.hid (show Kp w w3 from K2.out.trans hb)
        clear hb Z1
        go_wp2_with fail
        refine (sessionLive_any _).mono ?_
        rintro e w5 ⟨rfl, hb5⟩
        have HB5 := Lib.hid hb5
        clear hb5
        go_wp2_with fail
        go_ret
        exact ⟨rfl, K3.out.call HB5.out⟩
      · cases d2
        · have Y1 := Lib.hid Y1
          have Y2 := Lib.hid Y2
          have Z1 := Lib.hid Z1
          have Z2 := Lib.hid Z2
          clear e1 e2 g1 g2 m1 m2 f1 f2 h1 hn1 hc1 h2 hn2 hc2
          go_enter Tryd.func9, Tryd.ntmps9
          go_wp2_with fail
          refine (Y1.out w (Kp.refl w)).mono ?_
          rintro e w1 ⟨rfl, hb⟩
          have K1 := Lib.hid (show Kp w w1 from (Kp.refl w).trans hb)
          clear hb Y1
          go_wp2_with fail
          refine (Y2.out w1 K1.out).mono ?_
          rintro e w2 ⟨rfl, hb⟩
          have K2 := Lib.hid (show Kp w w2 from K1.out.trans hb)
          clear hb Y2
          go_wp2_with fail
          refine (Z1.out w2 K2.out).mono ?_
          rintro e w3 ⟨rfl, hb⟩
          have K3 := Lib.hid (show Kp w w3 from K2.out.trans hb)
          clear hb Z1
          go_wp2_with fail
          refine (Z2.out w3 K3.out).mono ?_
          rintro e w4 ⟨rfl, hb⟩
          have K4 := Lib.hid (show Kp w w4 from K3.out.trans hb)
          clear hb Z2
          go_wp2_with fail
          refine (sessionLive_any _).mono ?_
          rintro e w5 ⟨rfl, hb5⟩
          have HB5 := Lib.hid hb5
          clear hb5
          go_wp2_with fail
          go_ret
          exact ⟨rfl, K4.out.call HB5.out⟩
        · exact fnWithin_few a1 a2 n1 c1 n2 c2 P1 P2 big w h1 (g1 rfl).1 (g1 rfl).2 f1 h2 (g2 rfl).1 (g2 rfl).2 f2
end Go.Proofs.YtgjfejalinkohaaDoor
