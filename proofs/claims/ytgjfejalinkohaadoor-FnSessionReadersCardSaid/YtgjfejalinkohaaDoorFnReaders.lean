/-
  FnSessionReaders: the two readers of numbers give the same; so do the bytes one by one, and all at once.
-/
import Derived.Test.YtgjfejalinkohaaDoorSes31
import Derived.Test.YtgjfejalinkohaaDoorSes27
namespace Go.Proofs.YtgjfejalinkohaaDoor
open Go Go.RowKit

theorem ones_run {xs : List Int} {k : Nat} (h : k ≤ xs.length) : RunR false k (fun _ => ⟨0, 0, false, false⟩) (fun r => xs.drop r) (fun r => ⟨[], [], xs.getD r 0, noText⟩) := fun r hr =>
  .inl ⟨rfl, xs.getD r 0, by show xs.drop r = xs.getD r 0 :: xs.drop (r + 1); rw [List.drop_eq_getElem_cons (show r < xs.length by omega), List.getD_eq_getElem?_getD, List.getElem?_eq_getElem (show r < xs.length by omega), Option.getD_some], rfl⟩
set_option maxHeartbeats 2000000 in
theorem sameGot_none (w : World) :
    Calls Tryd.prog 19 #[.agg #[.bool false, .slice none 0 0, .slice none 0 0, .int .i64 0, .string { data := #[] }], .agg #[.bool false, .slice none 0 0, .slice none 0 0, .int .i64 0, .string { data := #[] }]] w fun e w' => e = .returned (.bool true) ∧ Kp w w' := by
  have H1 := Lib.hid (fun w1 => bytes_equal_same w1 none none 0 0 0 [] rfl (Lib.BytesIn.nil _ _ _) (Lib.BytesIn.nil _ _ _))
  go_enter Tryd.func19, Tryd.ntmps19
  go_wp2_with fail
  refine (H1.out _).mono ?_
  rintro e w1 ⟨rfl, rfl⟩
  go_wp2_with fail
  refine (H1.out _).mono ?_
  rintro e w1 ⟨rfl, rfl⟩
  go_wp2_with fail
  go_ret
  exact ⟨rfl, ((Kp.refl w).alloc _).alloc _⟩
/-- A number is read, or it is torn. -/
theorem rd_or_torn (sz : Nat) (comp big : Bool) (xs : List Int) (h0 : 0 < sz) (h8 : sz ≤ 8) (hn : 0 < xs.length) (hb : ∀ x ∈ xs, 0 ≤ x ∧ x < 256) (hl : comp = true → (xs.getD 0 0) % 128 ≤ 8) : (∃ x r, RdInt sz comp big xs x r) ∨ TornI sz comp xs := by
  unfold RdInt TornI
  cases comp
  · by_cases h : sz ≤ xs.length
    · exact .inl ⟨_, _, h, rfl, rfl⟩
    · exact .inr ⟨h0, h8, by omega⟩
  · cases xs with
    | nil => simp at hn
    | cons b t =>
      have hb' := hb b (by simp)
      have hl' := hl rfl
      simp at hl'
      by_cases h : (b % 128).toNat ≤ t.length
      · exact .inl ⟨_, _, b, t, rfl, by omega, h, rfl, rfl⟩
      · exact .inr ⟨b, t, rfl, by omega, by omega⟩

set_option maxRecDepth 100000 in
set_option maxHeartbeats 16000000 in
theorem fnReaders_read (bb oo n c s sz : Nat) (xs : List Int) (big comp : Bool) (w : World) (hi : Lib.BytesIn w (some ⟨bb, oo, none⟩) n xs) (hx : xs.length = n) (hb : ∀ x ∈ xs, 0 ≤ x ∧ x < 256) (hn0 : 0 < n) (hn : n ≤ 1000) (hnc : n ≤ c) (hcm : c ≤ maxLen) (hs : s < 256) (hsz : sz = partSize s) (hlong : comp = true → (xs.getD 0 0) % 128 ≤ 8) (x : Int) (rr : List Int) (hv : RdInt sz comp big xs x rr) :
    Calls Tryd.prog 4 #[.slice (some ⟨bb, oo, none⟩) n c, .int .u8 (s : Int), .bool big, .bool comp] w fun e w' => e = .returned (.bool true) ∧ Below w.heap.size w w' := by
  have i0 : (0 : Int) < (n : Int) := by omega
  have i1 : (n : Int) ≤ 1000 := by omega
  have i2 : (0 : Int) ≤ (s : Int) := by omega
  have i3 : (s : Int) < 256 := by omega
  have e0 : ((n : Int) == 0) = false := by simp; omega
  have i4 : (0 : Int) ≤ (sz : Int) := by omega
  have i5 : (sz : Int) ≤ 8 := by have := partSize_pos s; omega
  have HI := Lib.hid hi
  have HX := Lib.hid hx
  have HBY := Lib.hid hb
  have HN := Lib.hid (And.intro hn0 hn)
  have HNC := Lib.hid hnc
  have HCM := Lib.hid hcm
  have HPS := Lib.hid hsz
  have HSZ := Lib.hid (show 0 < sz ∧ sz ≤ 8 from by rw [hsz]; exact partSize_pos s)
  have HLG := Lib.hid hlong
  have HV := Lib.hid hv
  obtain ⟨b0, hb0⟩ : ∃ b0, b0 = xs.getD 0 0 := ⟨_, rfl⟩
  have hb0m : 0 ≤ b0 ∧ b0 < 256 := by
    rw [hb0, List.getD_eq_getElem?_getD, List.getElem?_eq_getElem (by omega)]
    exact hb _ (List.getElem_mem _)
  have l0 : 0 ≤ b0 := hb0m.1
  have l1 : b0 < 256 := hb0m.2
  have HA0 := Lib.hid (and127b b0 l0 l1)
  have HB0 := Lib.hid hb0
  obtain ⟨k, hk⟩ : ∃ k, k = min n 40 := ⟨_, rfl⟩
  have HK4 := Lib.hid (show k ≤ n ∧ k ≤ 40 from by omega)
  have HMIN := Lib.hid (show min (n : Int) 40 = (k : Int) from by omega)
  clear hi hx hb hn0 hn hnc hcm hsz hlong hv hb0 hb0m hk
  go_enter Tryd.func4, Tryd.ntmps4
  go_upto_region 5 with (fail)
  go_cut [9] (fun s9 wx => s9 = .int .i64 (sz : Int) ∧ Kp w wx)
  case first =>
    obtain h4 | h4 | h4 | h4 : s % 4 = 0 ∨ s % 4 = 1 ∨ s % 4 = 2 ∨ s % 4 = 3 := by omega
    all_goals
      have HS4 := Lib.hid (show partSize s = _ from by simp only [partSize, h4]; rfl)
    · have e4 : (s : Int) % 4 = 0 := by omega
      clear h4
      go_wp2_with fail
      go_meet
      exact ⟨by rw [HPS.out, HS4.out]; rfl, (Kp.refl w).alloc _⟩
    · have e4 : (s : Int) % 4 = 1 := by omega
      clear h4
      go_wp2_with fail
      go_meet
      exact ⟨by rw [HPS.out, HS4.out]; rfl, (Kp.refl w).alloc _⟩
    · have e4 : (s : Int) % 4 = 2 := by omega
      clear h4
      go_wp2_with fail
      go_meet
      exact ⟨by rw [HPS.out, HS4.out]; rfl, (Kp.refl w).alloc _⟩
    · have e4 : (s : Int) % 4 = 3 := by omega
      clear h4
      go_wp2_with fail
      go_meet
      exact ⟨by rw [HPS.out, HS4.out]; rfl, (Kp.refl w).alloc _⟩
  case rest =>
    obtain ⟨rfl, hkc⟩ := hcut
    have KD := Lib.hid hkc
    clear hkc
    go_upto_region 6 with (fail)
    go_cut [46] (fun s46 wx => s46 = .bool false ∧ Kp w wx)
    case first =>
      cases comp
      · go_wp2_with fail
        go_meet
        exact ⟨rfl, KD.out⟩
      · have m0 : b0 % 128 ≤ 8 := by rw [HB0.out]; exact HLG.out rfl
        have m1 : (0 : Int) ≤ b0 % 128 := by omega
        have m2 := HA0.out
        have c0 : wc.cell? ⟨bb, oo, none⟩ = some (.int .u8 b0) := by
          obtain ⟨b', o', he, hc⟩ := bin_kp HI.out KD.out (by have := HN.out; omega)
          injection he with he
          injection he with h1 h2
          subst h1 h2
          rw [HB0.out]; exact hc 0 (by have := HN.out; omega)
        go_wp2_with fail
        go_meet
        exact ⟨by simp; omega, KD.out⟩
    case rest =>
      obtain ⟨rfl, hkc⟩ := hcut
      have KC := Lib.hid hkc
      have em := HMIN.out
      clear hkc
      have CL1 := Lib.hid (clone_any wc (some ⟨bb, oo, none⟩) n c xs (bin_kp HI.out KC.out) HX.out (by have := HN.out; omega))
      go_wp2_with fail
      refine CL1.out.mono ?_
      rintro e wa1 ⟨qi1, di1, rfl, hown, hb⟩
      have HIN1 := Lib.hid (bin_of_own hown)
      have KA1 := Lib.hid (KC.out.trans (show Kp wc wa1 from hb))
      have KS1 := Lib.hid (show Kp wc wa1 from hb)
      clear hown hb CL1
      go_wp2_with fail
      generalize hW : wa1.alloc (.cells #[.int .i64 4, .int .i64 (sz : Int), .bool big, .bool comp] 33) = WB1
      have hB : Blk WB1 wa1.heap.size 33 #[.int .i64 4, .int .i64 (sz : Int), .bool big, .bool comp] := hW ▸ Blk.new wa1 _ _
      have hkB : Kp wa1 WB1 := hW ▸ (Kp.refl wa1).alloc _
      have HKB1 := Lib.hid hkB
      have GG1 := Lib.hid (get1 WB1 wa1.heap.size ⟨4, sz, big, comp⟩ qi1 n di1 xs false ⟨[], [], x, noText⟩ rr hB (bin_kp HIN1.out hkB) HX.out HBY.out (by have := HN.out; omega) (.inr (.inr (.inr (.inr (.inl ⟨.inl rfl, fun _ => HSZ.out, x, HV.out, rfl⟩))))))
      clear hW hB hkB
      refine GG1.out.mono ?_
      rintro e wb1 ⟨g1, cap1, qa1, ka, ma1, qb1, kb, mb1, ql1, ll, dl1, rfl, hc1, hc2, hg1, hg2, c0, c1, c2, c3, c4, hka, hina, hkb, hinb, hl, hin, hb4⟩
      obtain rfl : ka = 0 := hka.symm
      obtain rfl : kb = 0 := hkb.symm
      have KB1 := Lib.hid (KA1.out.trans (HKB1.out.trans hb4))
      have KT1 := Lib.hid (KS1.out.trans (HKB1.out.trans hb4))
      have cp1 : (1 : Int) ≤ (cap1 : Int) := by omega
      have cq1 : (cap1 : Int) ≤ 9223372036854775807 := by unfold maxLen at hc2; omega
      obtain ⟨m, hm⟩ : ∃ m, m = ll := ⟨_, rfl⟩
      have HRL := Lib.hid (show rr.length = m from by rw [hm]; exact hl)
      obtain rfl : m = ll := hm
      have HLF1 := Lib.hid hin
      have x10 := c0
      have x11 := c1
      have x12 := c2
      have x13 := c3
      have x14 := c4
      clear hc1 hc2 hg1 hg2 c0 c1 c2 c3 c4 hka hina hkb hinb hl hin hb4 GG1
      have XX1 := Lib.hid (And.intro x10 (And.intro x11 (And.intro x12 (And.intro x13 x14))))
      clear x10 x11 x12 x13 x14
      have CL2 := Lib.hid (clone_any wb1 (some ⟨bb, oo, none⟩) n c xs (bin_kp HI.out KB1.out) HX.out (by have := HN.out; omega))
      go_wp2_with fail
      refine CL2.out.mono ?_
      rintro e wa2 ⟨qi2, di2, rfl, hown, hb⟩
      have HIN2 := Lib.hid (bin_of_own hown)
      have KA2 := Lib.hid (KB1.out.trans (show Kp wb1 wa2 from hb))
      have KS2 := Lib.hid (show Kp wb1 wa2 from hb)
      clear hown hb CL2
      go_wp2_with fail
      generalize hW : wa2.alloc (.cells #[.int .i64 5, .int .i64 (sz : Int), .bool big, .bool comp] 33) = WB2
      have hB : Blk WB2 wa2.heap.size 33 #[.int .i64 5, .int .i64 (sz : Int), .bool big, .bool comp] := hW ▸ Blk.new wa2 _ _
      have hkB : Kp wa2 WB2 := hW ▸ (Kp.refl wa2).alloc _
      have HKB2 := Lib.hid hkB
      have GG2 := Lib.hid (get1 WB2 wa2.heap.size ⟨5, sz, big, comp⟩ qi2 n di2 xs false ⟨[], [], x, noText⟩ rr hB (bin_kp HIN2.out hkB) HX.out HBY.out (by have := HN.out; omega) (.inr (.inr (.inr (.inr (.inl ⟨.inr rfl, fun _ => HSZ.out, x, HV.out, rfl⟩))))))
      clear hW hB hkB
      refine GG2.out.mono ?_
      rintro e wb2 ⟨g2, cap2, qa2, ka, ma2, qb2, kb, mb2, ql2, ll, dl2, rfl, hc1, hc2, hg1, hg2, c0, c1, c2, c3, c4, hka, hina, hkb, hinb, hl, hin, hb4⟩
      obtain rfl : ka = 0 := hka.symm
      obtain rfl : kb = 0 := hkb.symm
      have KB2 := Lib.hid (KA2.out.trans (HKB2.out.trans hb4))
      have KT2 := Lib.hid (KS2.out.trans (HKB2.out.trans hb4))
      have cp2 : (1 : Int) ≤ (cap2 : Int) := by omega
      have cq2 : (cap2 : Int) ≤ 9223372036854775807 := by unfold maxLen at hc2; omega
      obtain rfl : m = ll := by rw [← hl]; exact HRL.out.symm
      have HLF2 := Lib.hid hin
      have x20 := c0
      have x21 := c1
      have x22 := c2
      have x23 := c3
      have x24 := c4
      clear hc1 hc2 hg1 hg2 c0 c1 c2 c3 c4 hka hina hkb hinb hl hin hb4 GG2
      have x10 : wb2.cell? ⟨g1, 0, none⟩ = some (.bool true) := below_some KT2.out XX1.out.1
      have x11 : wb2.cell? ⟨g1, 1, none⟩ = some (.slice qa1 0 ma1) := below_some KT2.out XX1.out.2.1
      have x12 : wb2.cell? ⟨g1, 2, none⟩ = some (.slice qb1 0 mb1) := below_some KT2.out XX1.out.2.2.1
      have x13 : wb2.cell? ⟨g1, 3, none⟩ = some (.int .i64 x) := below_some KT2.out XX1.out.2.2.2.1
      have x14 : wb2.cell? ⟨g1, 4, none⟩ = some (.string noText) := below_some KT2.out XX1.out.2.2.2.2
      have SMG := Lib.hid (fun w1 => sameGot_same qa1 qa2 qb1 qb2 0 ma1 ma2 0 mb1 mb2 [] [] x noText w1 (Lib.BytesIn.nil _ _ _) (Lib.BytesIn.nil _ _ _) rfl (Lib.BytesIn.nil _ _ _) (Lib.BytesIn.nil _ _ _) rfl)
      have BEA := Lib.hid (fun w1 (hk : Kp wb2 w1) => bytes_equal_same w1 ql1 ql2 m dl1 dl2 rr HRL.out (bin_kp HLF1.out (KT2.out.trans hk)) (bin_kp HLF2.out hk))
      go_wp2_with fail
      go_cut [99] (fun s99 wx => s99 = .bool false ∧ Kp w wx)
      case first =>
        go_region_held3 (fun w' => w'.cell? ⟨g1, 0, none⟩ = some (.bool true) ∧ w'.cell? ⟨g1, 1, none⟩ = some (.slice qa1 0 ma1) ∧ w'.cell? ⟨g1, 2, none⟩ = some (.slice qb1 0 mb1) ∧ w'.cell? ⟨g1, 3, none⟩ = some (.int .i64 x) ∧ w'.cell? ⟨g1, 4, none⟩ = some (.string noText) ∧ w'.cell? ⟨g2, 0, none⟩ = some (.bool true) ∧ w'.cell? ⟨g2, 1, none⟩ = some (.slice qa2 0 ma2) ∧ w'.cell? ⟨g2, 2, none⟩ = some (.slice qb2 0 mb2) ∧ w'.cell? ⟨g2, 3, none⟩ = some (.int .i64 x) ∧ w'.cell? ⟨g2, 4, none⟩ = some (.string noText)) (first | (refine ⟨?_, ?_, ?_, ?_, ?_, ?_, ?_, ?_, ?_, ?_⟩ <;> with_reducible assumption) | go_keep)
          (first
            | (go_at_call 19; refine (SMG.out _).mono ?_; rintro e ws ⟨rfl, hbs⟩; have K23 := Lib.hid (show Kp wb2 ws from (by first | exact hbs | exact (Kp.refl wb2).drew.call hbs)); have y10 := below_some K23.out x10; have y11 := below_some K23.out x11; have y12 := below_some K23.out x12; have y13 := below_some K23.out x13; have y14 := below_some K23.out x14; have y20 := below_some K23.out x20; have y21 := below_some K23.out x21; have y22 := below_some K23.out x22; have y23 := below_some K23.out x23; have y24 := below_some K23.out x24; clear hbs x10 x11 x12 x13 x14 x20 x21 x22 x23 x24)
            | (go_at_call 18; refine (BEA.out _ K23.out).mono ?_; rintro e wx ⟨rfl, rfl⟩))
        all_goals
          go_wp2_with fail
          go_meet
          exact ⟨rfl, KB2.out.trans K23.out⟩
      case rest =>
        obtain ⟨rfl, hkc⟩ := hcut
        have K10 := Lib.hid hkc
        clear hkc x10 x11 x12 x13 x14 x20 x21 x22 x23 x24
        have K10s : w.heap.size ≤ wc.heap.size := K10.out.size
        have HK10s := Lib.hid K10s
        clear K10s
        go_wp2_with fail
        go_loopg [104, 15] k (fun G st v wr => ∃ (j : Nat) (v0 : Value), G = k - j ∧ j ≤ k ∧ st = .int .i64 (j : Int) ∧ v0 = v ∧ GColl wc.heap.size wr j v0 (fun _ => ⟨0, 0, false, false⟩) ∧ Kp wc wr)
        case atStart => exact ⟨0, _, rfl, Nat.zero_le _, rfl, rfl, Coll.start _, Kp.refl _⟩
        case round =>
          obtain ⟨j, v, rfl, hj, rfl, rfl, hcl, hkp⟩ := hrel
          have HCLJ := Lib.hid hcl
          have HKJ := Lib.hid hkp
          have HJ := Lib.hid hj
          have j0 : (0 : Int) ≤ (j : Int) := by omega
          have j1 : (j : Int) ≤ (k : Int) := by omega
          clear hcl hkp hj
          by_cases hlt : j < k
          · have j2 : (j : Int) < (k : Int) := by omega
            have HLT := Lib.hid hlt
            clear hlt
            obtain ⟨v', w5, hr, hcc, hkk⟩ := one_get _ wr j v _ HCLJ.out HKJ.out.size ⟨0, 0, false, false⟩ (by have := HLT.out; have := HK4.out; omega)
            have HR := Lib.hid (show (Builtin.append_ #[27, 27] 27 #[v, .slice (some ⟨wr.heap.size, 0, none⟩) 1 1]).run Tryd.prog (wr.alloc (.cells #[.int .i64 0, .int .i64 0, .bool false, .bool false] 33)) = .ok v' w5 from hr)
            have HCC := Lib.hid (show GColl _ w5 (j + 1) v' (fun _ => ⟨0, 0, false, false⟩) from by
              have e : (fun r => if r = j then (⟨0, 0, false, false⟩ : GStep) else ⟨0, 0, false, false⟩) = fun _ => ⟨0, 0, false, false⟩ := by funext r; split <;> rfl
              rw [e] at hcc
              exact hcc)
            have HKE := Lib.hid (hkk _ HKJ.out (Nat.le_refl _))
            clear hr hcc hkk
            go_wp2_with (at_builtin; refine Lib.wpList_append_run _ rfl _ _ _ _ rfl _ _ rfl rfl _ _ HR.out ?_)
            go_roundg (k - (j + 1))
            case measure => have := HLT.out; omega
            case rel => exact ⟨j + 1, v', rfl, HLT.out, by go_num, rfl, HCC.out, HKE.out⟩
          · obtain rfl : j = k := by have := HJ.out; omega
            clear hlt
            obtain ⟨ag, cg, rfl, hgets⟩ := HCLJ.out.gets
            have HGE := Lib.hid hgets
            have K11 := Lib.hid (K10.out.trans HKJ.out)
            have CL3 := Lib.hid (clone_any wr (some ⟨bb, oo, none⟩) n c xs (bin_kp HI.out K11.out) HX.out (by have := HN.out; omega))
            clear hgets
            go_wp2_with fail
            refine CL3.out.mono ?_
            rintro e w12 ⟨q3, d3, rfl, hown, hb⟩
            have K12 := Lib.hid (K11.out.trans (show Kp wr w12 from hb))
            have SG3 := Lib.hid (sessionGet_any q3 n d3 xs ag j cg (fun _ => ⟨0, 0, false, false⟩) (fun r => xs.drop r) (fun r => ⟨[], [], xs.getD r 0, noText⟩) false w12 (bin_of_own hown) HX.out HBY.out (by have := HN.out; omega) (HGE.out.kp hb) (by have := HK4.out; omega) rfl (ones_run (by rw [HX.out]; have := HK4.out; omega)))
            clear hown hb CL3
            go_wp2_with fail
            refine SG3.out.mono ?_
            rintro e w13 ⟨v, q5, l5, d5, Q, rfl, hown, hgots, hl5, hin5, hb⟩
            obtain ⟨a5, c5, rfl, hc51, hc52⟩ := own_slice hown
            have HGA := Lib.hid (gotAt_own hown)
            obtain rfl : l5 = n - j := by rw [← hl5]; simp [HX.out]
            have HI5 := Lib.hid hin5
            have K13 := Lib.hid (K12.out.trans (show Kp w12 w13 from hb))
            have HGO := Lib.hid hgots
            have s0 : (j : Int) ≤ (c5 : Int) := by omega
            have s1 : (c5 : Int) ≤ 9223372036854775807 := by unfold maxLen at hc52; omega
            have BE3 := Lib.hid (fun a (w1 : World) (hk : Kp w13 w1) (ha : Lib.BytesIn w1 a (n - j) (xs.drop j)) => bytes_equal_same w1 q5 a (n - j) d5 (c - j) (xs.drop j) (by simp [HX.out]) (bin_kp HI5.out hk) ha)
            clear hown hgots hl5 hin5 hb hc51 hc52 SG3
            have t0 : ((j : Nat) : Int).toNat = j := by omega
            have HAD := Lib.hid (show ∀ w1, Kp w w1 → Lib.BytesIn w1 (some ⟨bb, oo + j, none⟩) (n - j) (xs.drop j) from fun w1 hk hl => by
              obtain ⟨b', o', he, hc⟩ := bin_kp HI.out hk (by omega)
              injection he with he
              injection he with h1 h2
              subst h1 h2
              exact ⟨bb, oo + j, rfl, fun i hi => by rw [Nat.add_assoc, hc (j + i) (by omega)]; simp [List.getD_eq_getElem?_getD]⟩)
            go_upto_region 19 with (fail)
            go_cut [129] (fun s129 wx => s129 = .bool false ∧ w13 = wx)
            case first =>
              have u0 : (0 : Int) ≤ (c : Int) := by omega
              have u1 : (j : Int) ≤ (n : Int) := by have := HK4.out; omega
              have u2 : (n : Int) ≤ (c : Int) := by have := HNC.out; omega
              have u3 : (c : Int) ≤ 9223372036854775807 := by have := HCM.out; unfold maxLen at this; omega
              by_cases hcj : c = j
              · have ej : (c = j) = True := by simp [hcj]
                have HCJ := Lib.hid hcj
                have BE4 := Lib.hid (BE3.out (some ⟨bb, oo, none⟩) w13 (Kp.refl _) (fun hl => absurd hl (by have := HCJ.out; have := HNC.out; omega)))
                clear hcj
                go_wp2_with fail
                refine BE4.out.mono ?_
                rintro e wx ⟨rfl, rfl⟩
                go_wp2_with fail
                go_meet
                exact ⟨rfl, rfl⟩
              · have ej : (c = j) = False := by simp [hcj]
                have BE4 := Lib.hid (BE3.out (some ⟨bb, oo + j, none⟩) w13 (Kp.refl _) (HAD.out w13 K13.out))
                clear hcj
                go_wp2_with fail
                refine BE4.out.mono ?_
                rintro e wx ⟨rfl, rfl⟩
                go_wp2_with fail
                go_meet
                exact ⟨rfl, rfl⟩
            case rest =>
              obtain ⟨rfl, rfl⟩ := hcut
              go_wp2_with fail
              go_loopg [132] j (fun G st wr => ∃ i : Nat, G = j - i ∧ i ≤ j ∧ st = .int .i64 (i : Int) ∧ Kp w13 wr)
              case atStart => exact ⟨0, rfl, Nat.zero_le _, rfl, Kp.refl _⟩
              case round =>
                obtain ⟨i, rfl, hi, rfl, hkp⟩ := hrel
                have HKI := Lib.hid hkp
                have HII := Lib.hid hi
                have v0 : (0 : Int) ≤ (i : Int) := by omega
                have v1 : (i : Int) ≤ (j : Int) := by omega
                clear hkp hi
                by_cases hlt : i < j
                · have v2 : (i : Int) < (j : Int) := by omega
                  have v3 : (j : Int) ≤ (n : Int) := by have := HK4.out; omega
                  have v4 : (i : Int) < (n : Int) := by omega
                  obtain ⟨b5, o5, rfl, hc5⟩ := HGA.out i hlt
                  have HLT := Lib.hid hlt
                  obtain ⟨z1, z2, z3, z4⟩ := HGO.out i hlt
                  generalize Q i = pl at hc5 z1 z2 z3 z4
                  obtain ⟨qa, ka, ma, qb, kb, mb⟩ := pl
                  obtain rfl : ka = 0 := z1.symm
                  obtain rfl : kb = 0 := z3.symm
                  obtain ⟨xi, hxi⟩ : ∃ xi, xi = xs.getD i 0 := ⟨_, rfl⟩
                  have hxm : 0 ≤ xi ∧ xi < 256 := by
                    rw [hxi, List.getD_eq_getElem?_getD, List.getElem?_eq_getElem (by rw [HX.out]; have := HK4.out; omega)]
                    exact HBY.out _ (List.getElem_mem _)
                  have w0' : 0 ≤ xi := hxm.1
                  have w1' : xi < 256 := hxm.2
                  have ew : IntKind.i64.wrap xi = xi := IntWalk.i64_in _ (by omega)
                  have d0 : wr.cell? ⟨b5, o5 + i * 5, none⟩ = some (.bool true) := below_some HKI.out (hc5 0 _ rfl)
                  have d1 : wr.cell? ⟨b5, o5 + i * 5 + 1, none⟩ = some (.slice qa 0 ma) := below_some HKI.out (hc5 1 _ rfl)
                  have d2 : wr.cell? ⟨b5, o5 + i * 5 + 2, none⟩ = some (.slice qb 0 mb) := below_some HKI.out (hc5 2 _ rfl)
                  have d3 : wr.cell? ⟨b5, o5 + i * 5 + 3, none⟩ = some (.int .i64 xi) := hxi ▸ below_some HKI.out (hc5 3 _ rfl)
                  have d4 : wr.cell? ⟨b5, o5 + i * 5 + 4, none⟩ = some (.string noText) := below_some HKI.out (hc5 4 _ rfl)
                  have d5 : wr.cell? ⟨bb, oo + i, none⟩ = some (.int .u8 xi) := by
                    obtain ⟨b', o', he, hc⟩ := bin_kp HI.out (K13.out.trans HKI.out) (by have := HK4.out; omega)
                    injection he with he
                    injection he with h1 h2
                    subst h1 h2
                    rw [hxi]; exact hc i (by have := HK4.out; omega)
                  have lt5 : bb < wr.heap.size := heap_lt_of_cell d5
                  clear hc5 z1 z2 z3 z4 hxi hxm hlt
                  go_wp2_with fail
                  go_quiet (fail)
                  go_wp2_with fail
                  go_roundg (j - (i + 1))
                  case measure => have := HLT.out; omega
                  case rel => exact ⟨i + 1, rfl, HLT.out, by go_num, HKI.out.trans (((Kp.refl wr).alloc _).drewN _)⟩
                · obtain rfl : i = j := by have := HII.out; omega
                  clear hlt
                  have K14 := Lib.hid (K13.out.trans HKI.out)
                  have CL4 := Lib.hid (clone_any wr (some ⟨bb, oo, none⟩) n c xs (bin_kp HI.out K14.out) HX.out (by have := HN.out; omega))
                  go_wp2_with fail
                  refine CL4.out.mono ?_
                  rintro e w15 ⟨q6, d6, rfl, hown, hb⟩
                  have HI6 := Lib.hid (bin_of_own hown)
                  have K15 := Lib.hid (K14.out.trans (show Kp wr w15 from hb))
                  have K1315 := Lib.hid (HKI.out.trans (show Kp wr w15 from hb))
                  clear hown hb CL4
                  go_wp2_with fail
                  generalize hW : w15.alloc (.cells #[.int .i64 1, .int .i64 (i : Int), .bool false, .bool false] 33) = W16
                  have hB : Blk W16 w15.heap.size 33 #[.int .i64 1, .int .i64 (i : Int), .bool false, .bool false] := hW ▸ Blk.new w15 _ _
                  have hkB : Kp w15 W16 := hW ▸ (Kp.refl w15).alloc _
                  have KB16 := Lib.hid hkB
                  have GG3 := Lib.hid (get1 W16 w15.heap.size ⟨1, i, false, false⟩ q6 n d6 xs false ⟨xs.take i, [], 0, noText⟩ (xs.drop i) hB (bin_kp HI6.out hkB) HX.out HBY.out (by have := HN.out; omega) (.inr (.inl ⟨rfl, (show i ≤ xs.length from by rw [HX.out]; have := HK4.out; omega), rfl, rfl⟩)))
                  clear hW hB hkB
                  refine GG3.out.mono ?_
                  rintro e w17 ⟨g3, cap3, qa3, ka, ma3, qb3, kb, mb3, ql3, ll, dl3, rfl, hc1, hc2, hg1, hg2, c0, c1, c2, c3, c4, hka, hina, hkb, hinb, hl, hin, hb4⟩
                  obtain rfl : ka = i := by rw [← hka]; show (xs.take i).length = i; simp [HX.out]; have := HK4.out; omega
                  obtain rfl : ll = n - ka := by rw [← hl]; simp [HX.out]
                  have HA3 := Lib.hid (show Lib.BytesIn w17 qa3 ka (xs.take ka) from hina)
                  have HL3 := Lib.hid hin
                  have hk17 := KB16.out.trans hb4
                  have K17 := Lib.hid (K15.out.trans hk17)
                  have K1317 := Lib.hid (K1315.out.trans hk17)
                  have x0 := c0
                  have x1 := c1
                  have cp3 : (1 : Int) ≤ (cap3 : Int) := by omega
                  have cq3 : (cap3 : Int) ≤ 9223372036854775807 := by unfold maxLen at hc2; omega
                  have v3 : (ka : Int) ≤ (n : Int) := by have := HK4.out; omega
                  have v5 : (n : Int) ≤ (c : Int) := by have := HNC.out; omega
                  have v6 : (ka : Int) ≤ (c : Int) := by omega
                  have v7 : (c : Int) ≤ 9223372036854775807 := by have := HCM.out; unfold maxLen at this; omega
                  have BE5 := Lib.hid (fun w1 (hk : Kp w17 w1) => bytes_equal_same w1 qa3 (some ⟨bb, oo, none⟩) ka ma3 c (xs.take ka) (by simp [HX.out]; have := HK4.out; omega) (bin_kp HA3.out hk) (bin_take (bin_kp HI.out (K17.out.trans hk)) (by have := HK4.out; omega)))
                  have BE6 := Lib.hid (fun w1 (hk : Kp w17 w1) => bytes_equal_same w1 ql3 q5 (n - ka) dl3 d5 (xs.drop ka) (by simp [HX.out]) (bin_kp HL3.out hk) (bin_kp HI5.out (K1317.out.trans hk)))
                  clear hc1 hc2 hg1 hg2 c0 c1 c2 c3 c4 hka hina hkb hinb hl hin hb4 hk17 GG3
                  go_wp2_with fail
                  go_region_held3 (fun w' => w'.cell? ⟨g3, 0, none⟩ = some (.bool true) ∧ w'.cell? ⟨g3, 1, none⟩ = some (.slice qa3 ka ma3)) (first | (refine ⟨?_, ?_⟩ <;> with_reducible assumption) | go_keep)
                    (first
                      | (go_at_call 18; refine (BE5.out _ (by first | exact Kp.refl _ | exact (Kp.refl _).drew)).mono ?_; rintro e wx ⟨rfl, rfl⟩)
                      | (go_at_call 18; refine (BE6.out _ (by first | exact Kp.refl _ | exact (Kp.refl _).drew)).mono ?_; rintro e wx ⟨rfl, rfl⟩)
                      | (go_at_call 14; refine (sessionLive_any _).mono ?_; rintro e wl ⟨rfl, hbl⟩; have KL := Lib.hid (show Kp w17 wl from (by first | exact hbl | exact (Kp.refl w17).drew.call hbl)); have y0 := below_some KL.out x0; have y1 := below_some KL.out x1; clear hbl x0 x1))
                  all_goals
                    go_wp2_with fail
                    go_ret
                    exact ⟨rfl, K17.out.trans KL.out⟩

set_option maxRecDepth 100000 in
set_option maxHeartbeats 16000000 in
theorem fnReaders_torn (bb oo n c s sz : Nat) (xs : List Int) (big comp : Bool) (w : World) (hi : Lib.BytesIn w (some ⟨bb, oo, none⟩) n xs) (hx : xs.length = n) (hb : ∀ x ∈ xs, 0 ≤ x ∧ x < 256) (hn0 : 0 < n) (hn : n ≤ 1000) (hnc : n ≤ c) (hcm : c ≤ maxLen) (hs : s < 256) (hsz : sz = partSize s) (hlong : comp = true → (xs.getD 0 0) % 128 ≤ 8) (tp : TypeId) (ad : Addr) (he : EndAt w tp ad) (hv : TornI sz comp xs) :
    Calls Tryd.prog 4 #[.slice (some ⟨bb, oo, none⟩) n c, .int .u8 (s : Int), .bool big, .bool comp] w fun e w' => e = .returned (.bool true) ∧ Below w.heap.size w w' := by
  have i0 : (0 : Int) < (n : Int) := by omega
  have i1 : (n : Int) ≤ 1000 := by omega
  have i2 : (0 : Int) ≤ (s : Int) := by omega
  have i3 : (s : Int) < 256 := by omega
  have e0 : ((n : Int) == 0) = false := by simp; omega
  have i4 : (0 : Int) ≤ (sz : Int) := by omega
  have i5 : (sz : Int) ≤ 8 := by have := partSize_pos s; omega
  have HI := Lib.hid hi
  have HX := Lib.hid hx
  have HBY := Lib.hid hb
  have HN := Lib.hid (And.intro hn0 hn)
  have HNC := Lib.hid hnc
  have HCM := Lib.hid hcm
  have HPS := Lib.hid hsz
  have HSZ := Lib.hid (show 0 < sz ∧ sz ≤ 8 from by rw [hsz]; exact partSize_pos s)
  have HLG := Lib.hid hlong
  have HV := Lib.hid hv
  have HE := Lib.hid he
  obtain ⟨b0, hb0⟩ : ∃ b0, b0 = xs.getD 0 0 := ⟨_, rfl⟩
  have hb0m : 0 ≤ b0 ∧ b0 < 256 := by
    rw [hb0, List.getD_eq_getElem?_getD, List.getElem?_eq_getElem (by omega)]
    exact hb _ (List.getElem_mem _)
  have l0 : 0 ≤ b0 := hb0m.1
  have l1 : b0 < 256 := hb0m.2
  have HA0 := Lib.hid (and127b b0 l0 l1)
  have HB0 := Lib.hid hb0
  obtain ⟨k, hk⟩ : ∃ k, k = min n 40 := ⟨_, rfl⟩
  have HK4 := Lib.hid (show k ≤ n ∧ k ≤ 40 from by omega)
  have HMIN := Lib.hid (show min (n : Int) 40 = (k : Int) from by omega)
  clear hi hx hb hn0 hn hnc hcm hsz hlong hv hb0 hb0m hk he
  go_enter Tryd.func4, Tryd.ntmps4
  go_upto_region 5 with (fail)
  go_cut [9] (fun s9 wx => s9 = .int .i64 (sz : Int) ∧ Kp w wx)
  case first =>
    obtain h4 | h4 | h4 | h4 : s % 4 = 0 ∨ s % 4 = 1 ∨ s % 4 = 2 ∨ s % 4 = 3 := by omega
    all_goals
      have HS4 := Lib.hid (show partSize s = _ from by simp only [partSize, h4]; rfl)
    · have e4 : (s : Int) % 4 = 0 := by omega
      clear h4
      go_wp2_with fail
      go_meet
      exact ⟨by rw [HPS.out, HS4.out]; rfl, (Kp.refl w).alloc _⟩
    · have e4 : (s : Int) % 4 = 1 := by omega
      clear h4
      go_wp2_with fail
      go_meet
      exact ⟨by rw [HPS.out, HS4.out]; rfl, (Kp.refl w).alloc _⟩
    · have e4 : (s : Int) % 4 = 2 := by omega
      clear h4
      go_wp2_with fail
      go_meet
      exact ⟨by rw [HPS.out, HS4.out]; rfl, (Kp.refl w).alloc _⟩
    · have e4 : (s : Int) % 4 = 3 := by omega
      clear h4
      go_wp2_with fail
      go_meet
      exact ⟨by rw [HPS.out, HS4.out]; rfl, (Kp.refl w).alloc _⟩
  case rest =>
    obtain ⟨rfl, hkc⟩ := hcut
    have KD := Lib.hid hkc
    clear hkc
    go_upto_region 6 with (fail)
    go_cut [46] (fun s46 wx => s46 = .bool false ∧ Kp w wx)
    case first =>
      cases comp
      · go_wp2_with fail
        go_meet
        exact ⟨rfl, KD.out⟩
      · have m0 : b0 % 128 ≤ 8 := by rw [HB0.out]; exact HLG.out rfl
        have m1 : (0 : Int) ≤ b0 % 128 := by omega
        have m2 := HA0.out
        have c0 : wc.cell? ⟨bb, oo, none⟩ = some (.int .u8 b0) := by
          obtain ⟨b', o', he, hc⟩ := bin_kp HI.out KD.out (by have := HN.out; omega)
          injection he with he
          injection he with h1 h2
          subst h1 h2
          rw [HB0.out]; exact hc 0 (by have := HN.out; omega)
        go_wp2_with fail
        go_meet
        exact ⟨by simp; omega, KD.out⟩
    case rest =>
      obtain ⟨rfl, hkc⟩ := hcut
      have KC := Lib.hid hkc
      have em := HMIN.out
      clear hkc
      have CL1 := Lib.hid (clone_any wc (some ⟨bb, oo, none⟩) n c xs (bin_kp HI.out KC.out) HX.out (by have := HN.out; omega))
      go_wp2_with fail
      refine CL1.out.mono ?_
      rintro e wa1 ⟨qi1, di1, rfl, hown, hb⟩
      have HIN1 := Lib.hid (bin_of_own hown)
      have KA1 := Lib.hid (KC.out.trans (show Kp wc wa1 from hb))
      have KS1 := Lib.hid (show Kp wc wa1 from hb)
      clear hown hb CL1
      go_wp2_with fail
      generalize hW : wa1.alloc (.cells #[.int .i64 4, .int .i64 (sz : Int), .bool big, .bool comp] 33) = WB1
      have hB : Blk WB1 wa1.heap.size 33 #[.int .i64 4, .int .i64 (sz : Int), .bool big, .bool comp] := hW ▸ Blk.new wa1 _ _
      have hkB : Kp wa1 WB1 := hW ▸ (Kp.refl wa1).alloc _
      have HKB1 := Lib.hid hkB
      have GG1 := Lib.hid (sessionGet_torn qi1 n di1 xs (some ⟨wa1.heap.size, 0, none⟩) 1 ⟨4, sz, big, comp⟩ false WB1 tp ad (bin_kp HIN1.out hkB) HX.out HBY.out (by have := HN.out; omega) (gets_one hB) (.inl rfl) HV.out (HE.out.kp (KA1.out.trans hkB)))
      clear hW hB hkB
      refine GG1.out.mono ?_
      rintro e wb1 ⟨g1, cap1, ql1, ll1, dl1, rfl, hc1, hc2, hcc, hb4⟩
      have KB1 := Lib.hid (KA1.out.trans (HKB1.out.trans hb4))
      have KT1 := Lib.hid (KS1.out.trans (HKB1.out.trans hb4))
      have cp1 : (1 : Int) ≤ (cap1 : Int) := by omega
      have cq1 : (cap1 : Int) ≤ 9223372036854775807 := by unfold maxLen at hc2; omega
      have x10 : wb1.cell? ⟨g1, 0, none⟩ = some (.bool false) := hcc 0 _ rfl
      have x11 : wb1.cell? ⟨g1, 1, none⟩ = some (.slice none 0 0) := hcc 1 _ rfl
      have x12 : wb1.cell? ⟨g1, 2, none⟩ = some (.slice none 0 0) := hcc 2 _ rfl
      have x13 : wb1.cell? ⟨g1, 3, none⟩ = some (.int .i64 0) := hcc 3 _ rfl
      have x14 : wb1.cell? ⟨g1, 4, none⟩ = some (.string { data := #[] }) := hcc 4 _ rfl
      clear hc1 hc2 hcc hb4 GG1
      have XX1 := Lib.hid (And.intro x10 (And.intro x11 (And.intro x12 (And.intro x13 x14))))
      clear x10 x11 x12 x13 x14
      have CL2 := Lib.hid (clone_any wb1 (some ⟨bb, oo, none⟩) n c xs (bin_kp HI.out KB1.out) HX.out (by have := HN.out; omega))
      go_wp2_with fail
      refine CL2.out.mono ?_
      rintro e wa2 ⟨qi2, di2, rfl, hown, hb⟩
      have HIN2 := Lib.hid (bin_of_own hown)
      have KA2 := Lib.hid (KB1.out.trans (show Kp wb1 wa2 from hb))
      have KS2 := Lib.hid (show Kp wb1 wa2 from hb)
      clear hown hb CL2
      go_wp2_with fail
      generalize hW : wa2.alloc (.cells #[.int .i64 5, .int .i64 (sz : Int), .bool big, .bool comp] 33) = WB2
      have hB : Blk WB2 wa2.heap.size 33 #[.int .i64 5, .int .i64 (sz : Int), .bool big, .bool comp] := hW ▸ Blk.new wa2 _ _
      have hkB : Kp wa2 WB2 := hW ▸ (Kp.refl wa2).alloc _
      have HKB2 := Lib.hid hkB
      have GG2 := Lib.hid (sessionGet_torn qi2 n di2 xs (some ⟨wa2.heap.size, 0, none⟩) 1 ⟨5, sz, big, comp⟩ false WB2 tp ad (bin_kp HIN2.out hkB) HX.out HBY.out (by have := HN.out; omega) (gets_one hB) (.inr rfl) HV.out (HE.out.kp (KA2.out.trans hkB)))
      clear hW hB hkB
      refine GG2.out.mono ?_
      rintro e wb2 ⟨g2, cap2, ql2, ll2, dl2, rfl, hc1, hc2, hcc, hb4⟩
      have KB2 := Lib.hid (KA2.out.trans (HKB2.out.trans hb4))
      have KT2 := Lib.hid (KS2.out.trans (HKB2.out.trans hb4))
      have cp2 : (1 : Int) ≤ (cap2 : Int) := by omega
      have cq2 : (cap2 : Int) ≤ 9223372036854775807 := by unfold maxLen at hc2; omega
      have x20 : wb2.cell? ⟨g2, 0, none⟩ = some (.bool false) := hcc 0 _ rfl
      have x21 : wb2.cell? ⟨g2, 1, none⟩ = some (.slice none 0 0) := hcc 1 _ rfl
      have x22 : wb2.cell? ⟨g2, 2, none⟩ = some (.slice none 0 0) := hcc 2 _ rfl
      have x23 : wb2.cell? ⟨g2, 3, none⟩ = some (.int .i64 0) := hcc 3 _ rfl
      have x24 : wb2.cell? ⟨g2, 4, none⟩ = some (.string { data := #[] }) := hcc 4 _ rfl
      clear hc1 hc2 hcc hb4 GG2
      have x10 : wb2.cell? ⟨g1, 0, none⟩ = some (.bool false) := below_some KT2.out XX1.out.1
      have x11 : wb2.cell? ⟨g1, 1, none⟩ = some (.slice none 0 0) := below_some KT2.out XX1.out.2.1
      have x12 : wb2.cell? ⟨g1, 2, none⟩ = some (.slice none 0 0) := below_some KT2.out XX1.out.2.2.1
      have x13 : wb2.cell? ⟨g1, 3, none⟩ = some (.int .i64 0) := below_some KT2.out XX1.out.2.2.2.1
      have x14 : wb2.cell? ⟨g1, 4, none⟩ = some (.string { data := #[] }) := below_some KT2.out XX1.out.2.2.2.2
      have SMG := Lib.hid (fun w1 => sameGot_none w1)
      go_wp2_with fail
      go_cut [99] (fun s99 wx => s99 = .bool false ∧ Kp w wx)
      case first =>
        refine wp_region_noPanic ?_
        refine wp_region_held_drew (S := fun w' => w'.cell? ⟨g1, 0, none⟩ = some (.bool false) ∧ w'.cell? ⟨g1, 1, none⟩ = some (.slice none 0 0) ∧ w'.cell? ⟨g1, 2, none⟩ = some (.slice none 0 0) ∧ w'.cell? ⟨g1, 3, none⟩ = some (.int .i64 0) ∧ w'.cell? ⟨g1, 4, none⟩ = some (.string { data := #[] }) ∧ w'.cell? ⟨g2, 0, none⟩ = some (.bool false) ∧ w'.cell? ⟨g2, 1, none⟩ = some (.slice none 0 0) ∧ w'.cell? ⟨g2, 2, none⟩ = some (.slice none 0 0) ∧ w'.cell? ⟨g2, 3, none⟩ = some (.int .i64 0) ∧ w'.cell? ⟨g2, 4, none⟩ = some (.string { data := #[] })) (by kernel_rfl) ⟨x10, x11, x12, x13, x14, x20, x21, x22, x23, x24⟩ (fun hHeld => ?_)
        refine wpAnyH_take (i := 0) (v := ?_) (by simp only [List.getElem?_toArray, List.getElem?_cons_zero] <;> rfl) (by kernel_rfl) (by kernel_rfl) (by kernel_rfl) (fun _ _ _ h => h) (.inl ⟨by rfl, ?_⟩) (by assumption) ?_
        rotate_left 1
        · intro wz hSw; (try dsimp only at hSw); go_simp; (try with_reducible rfl)
        try simp only [Act.put, List.setIfInBounds_toArray, List.set_cons_zero, List.set_cons_succ]
        refine wpAnyH_take (i := 1) (v := ?_) (by simp only [List.getElem?_toArray, List.getElem?_cons_zero, List.getElem?_cons_succ] <;> rfl) (by kernel_rfl) (by kernel_rfl) (by kernel_rfl) (fun _ _ _ h => h) (.inl ⟨by rfl, ?_⟩) (by assumption) ?_
        rotate_left 1
        · intro wz hSw; (try dsimp only at hSw); go_simp; (try with_reducible rfl)
        try simp only [Act.put, List.setIfInBounds_toArray, List.set_cons_zero, List.set_cons_succ]
        refine wpAnyH_take (i := 2) (v := ?_) (by simp only [List.getElem?_toArray, List.getElem?_cons_zero, List.getElem?_cons_succ] <;> rfl) (by kernel_rfl) (by kernel_rfl) (by kernel_rfl) (fun _ _ _ h => h) (.inl ⟨by rfl, ?_⟩) (by assumption) ?_
        rotate_left 1
        · intro wz hSw; (try dsimp only at hSw); go_simp; (try with_reducible rfl)
        try simp only [Act.put, List.setIfInBounds_toArray, List.set_cons_zero, List.set_cons_succ]
        refine wpAnyH_take (i := 3) (v := ?_) (by simp only [List.getElem?_toArray, List.getElem?_cons_zero, List.getElem?_cons_succ] <;> rfl) (by kernel_rfl) (by kernel_rfl) (by kernel_rfl) (fun _ _ _ h => h) (.inl ⟨by rfl, ?_⟩) (by assumption) ?_
        rotate_left 1
        · intro wz hSw; (try dsimp only at hSw); go_simp; (try with_reducible rfl)
        try simp only [Act.put, List.setIfInBounds_toArray, List.set_cons_zero, List.set_cons_succ]
        refine wpAnyH_take (i := 4) (v := ?_) (by simp only [List.getElem?_toArray, List.getElem?_cons_zero, List.getElem?_cons_succ] <;> rfl) (by kernel_rfl) (by kernel_rfl) (by kernel_rfl) (fun _ _ _ h => h) (.inl ⟨by rfl, ?_⟩) (by assumption) ?_
        rotate_left 1
        · intro wz hSw; (try dsimp only at hSw); go_simp; (try with_reducible rfl)
        try simp only [Act.put, List.setIfInBounds_toArray, List.set_cons_zero, List.set_cons_succ]
        refine wpAnyH_take (i := 5) (v := ?_) (by simp only [List.getElem?_toArray, List.getElem?_cons_zero, List.getElem?_cons_succ] <;> rfl) (by kernel_rfl) (by kernel_rfl) (by kernel_rfl) (fun _ _ _ h => h) (.inl ⟨by rfl, ?_⟩) (by assumption) ?_
        rotate_left 1
        · intro wz hSw; (try dsimp only at hSw); go_simp; (try with_reducible rfl)
        try simp only [Act.put, List.setIfInBounds_toArray, List.set_cons_zero, List.set_cons_succ]
        refine wpAnyH_take (i := 6) (v := ?_) (by simp only [List.getElem?_toArray, List.getElem?_cons_zero, List.getElem?_cons_succ] <;> rfl) (by kernel_rfl) (by kernel_rfl) (by kernel_rfl) (fun _ _ _ h => h) (.inl ⟨by rfl, ?_⟩) (by assumption) ?_
        rotate_left 1
        · intro wz hSw; (try dsimp only at hSw); go_simp; (try with_reducible rfl)
        try simp only [Act.put, List.setIfInBounds_toArray, List.set_cons_zero, List.set_cons_succ]
        refine wpAnyH_take (i := 7) (v := ?_) (by simp only [List.getElem?_toArray, List.getElem?_cons_zero, List.getElem?_cons_succ] <;> rfl) (by kernel_rfl) (by kernel_rfl) (by kernel_rfl) (fun _ _ _ h => h) (.inl ⟨by rfl, ?_⟩) (by assumption) ?_
        rotate_left 1
        · intro wz hSw; (try dsimp only at hSw); go_simp; (try with_reducible rfl)
        try simp only [Act.put, List.setIfInBounds_toArray, List.set_cons_zero, List.set_cons_succ]
        refine wpAnyH_take (i := 8) (v := ?_) (by simp only [List.getElem?_toArray, List.getElem?_cons_zero, List.getElem?_cons_succ] <;> rfl) (by kernel_rfl) (by kernel_rfl) (by kernel_rfl) (fun _ _ _ h => h) (.inl ⟨by rfl, ?_⟩) (by assumption) ?_
        rotate_left 1
        · intro wz hSw; (try dsimp only at hSw); go_simp; (try with_reducible rfl)
        try simp only [Act.put, List.setIfInBounds_toArray, List.set_cons_zero, List.set_cons_succ]
        refine wpAnyH_take (i := 9) (v := ?_) (by simp only [List.getElem?_toArray, List.getElem?_cons_zero, List.getElem?_cons_succ] <;> rfl) (by kernel_rfl) (by kernel_rfl) (by kernel_rfl) (fun _ _ _ h => h) (.inl ⟨by rfl, ?_⟩) (by assumption) ?_
        rotate_left 1
        · intro wz hSw; (try dsimp only at hSw); go_simp; (try with_reducible rfl)
        try simp only [Act.put, List.setIfInBounds_toArray, List.set_cons_zero, List.set_cons_succ]
        refine wpAnyH_take (i := 10) (v := ?_) (by simp only [List.getElem?_toArray, List.getElem?_cons_zero, List.getElem?_cons_succ] <;> rfl) (by kernel_rfl) (by kernel_rfl) (by kernel_rfl) (fun _ _ _ h => h) (.inl ⟨by rfl, ?_⟩) (by assumption) ?_
        rotate_left 1
        · intro wz hSw; (try dsimp only at hSw); go_simp; (try with_reducible rfl)
        try simp only [Act.put, List.setIfInBounds_toArray, List.set_cons_zero, List.set_cons_succ]
        refine wpAnyH_take (i := 11) (v := ?_) (by simp only [List.getElem?_toArray, List.getElem?_cons_zero, List.getElem?_cons_succ] <;> rfl) (by kernel_rfl) (by kernel_rfl) (by kernel_rfl) (fun _ _ _ h => h) (.inl ⟨by rfl, ?_⟩) (by assumption) ?_
        rotate_left 1
        · intro wz hSw; (try dsimp only at hSw); go_simp; (try with_reducible rfl)
        try simp only [Act.put, List.setIfInBounds_toArray, List.set_cons_zero, List.set_cons_succ]
        refine wpAnyH_take (i := 12) (v := ?_) (by simp only [List.getElem?_toArray, List.getElem?_cons_zero, List.getElem?_cons_succ] <;> rfl) (by kernel_rfl) (by kernel_rfl) (by kernel_rfl) (fun _ _ _ h => h) (.inl ⟨by rfl, ?_⟩) (by assumption) ?_
        rotate_left 1
        · intro wz hSw; (try dsimp only at hSw); go_simp; (try with_reducible rfl)
        try simp only [Act.put, List.setIfInBounds_toArray, List.set_cons_zero, List.set_cons_succ]
        refine wpAnyH_take (i := 13) (v := ?_) (by simp only [List.getElem?_toArray, List.getElem?_cons_zero, List.getElem?_cons_succ] <;> rfl) (by kernel_rfl) (by kernel_rfl) (by kernel_rfl) (fun _ _ _ h => h) (.inl ⟨by rfl, ?_⟩) (by assumption) ?_
        rotate_left 1
        · intro wz hSw; (try dsimp only at hSw); go_simp; (try with_reducible rfl)
        try simp only [Act.put, List.setIfInBounds_toArray, List.set_cons_zero, List.set_cons_succ]
        refine wpAnyH_take (i := 14) (v := ?_) (by simp only [List.getElem?_toArray, List.getElem?_cons_zero, List.getElem?_cons_succ] <;> rfl) (by kernel_rfl) (by kernel_rfl) (by kernel_rfl) (fun _ _ _ h => h) (.inl ⟨by rfl, ?_⟩) (by assumption) ?_
        rotate_left 1
        · intro wz hSw; (try dsimp only at hSw); go_simp; (try with_reducible rfl)
        try simp only [Act.put, List.setIfInBounds_toArray, List.set_cons_zero, List.set_cons_succ]
        refine wpAnyH_ready (rs := [15]) (by kernel_rfl) (by simp) ?_
        refine AllReadyH.cons (by simp only [List.getElem?_toArray, List.getElem?_cons_zero, List.getElem?_cons_succ] <;> rfl) (fun K hK => ?_) AllReadyH.nil
        go_simp
        refine (SMG.out _).mono ?_
        rintro e ws ⟨rfl, hbs⟩
        have K23 := Lib.hid (show Kp wb2 ws from (by first | exact hbs | exact (Kp.refl wb2).drew.call hbs))
        have y10 := below_some K23.out x10; have y11 := below_some K23.out x11; have y12 := below_some K23.out x12; have y13 := below_some K23.out x13; have y14 := below_some K23.out x14; have y20 := below_some K23.out x20; have y21 := below_some K23.out x21; have y22 := below_some K23.out x22; have y23 := below_some K23.out x23; have y24 := below_some K23.out x24
        clear hbs hHeld x10 x11 x12 x13 x14 x20 x21 x22 x23 x24
        go_wp2_with fail
        refine hK.out _ _ ⟨y10, y11, y12, y13, y14, y20, y21, y22, y23, y24⟩ (fun hHeld => ?_)
        clear hK K
        try simp only [Act.put, List.setIfInBounds_toArray, List.set_cons_zero, List.set_cons_succ]
        refine wpAnyH_take (i := 16) (v := ?_) (by simp only [List.getElem?_toArray, List.getElem?_cons_zero, List.getElem?_cons_succ] <;> rfl) (by kernel_rfl) (by kernel_rfl) (by kernel_rfl) (fun _ _ _ h => h) (.inl ⟨by rfl, ?_⟩) (by assumption) ?_
        rotate_left 1
        · intro wz hSw; (try dsimp only at hSw); go_simp; (try with_reducible rfl)
        try simp only [Act.put, List.setIfInBounds_toArray, List.set_cons_zero, List.set_cons_succ]
        refine wpAnyH_take (i := 17) (v := ?_) (by simp only [List.getElem?_toArray, List.getElem?_cons_zero, List.getElem?_cons_succ] <;> rfl) (by kernel_rfl) (by kernel_rfl) (by kernel_rfl) (fun _ _ _ h => h) (.inl ⟨by rfl, ?_⟩) (by assumption) ?_
        rotate_left 1
        · intro wz hSw; (try dsimp only at hSw); go_simp; (try with_reducible rfl)
        try simp only [Act.put, List.setIfInBounds_toArray, List.set_cons_zero, List.set_cons_succ]
        refine wpAnyH_take (i := 18) (v := ?_) (by simp only [List.getElem?_toArray, List.getElem?_cons_zero, List.getElem?_cons_succ] <;> rfl) (by kernel_rfl) (by kernel_rfl) (by kernel_rfl) (fun _ _ _ h => h) (.inl ⟨by rfl, ?_⟩) (by assumption) ?_
        rotate_left 1
        · intro wz hSw; (try dsimp only at hSw); go_simp; (try with_reducible rfl)
        try simp only [Act.put, List.setIfInBounds_toArray, List.set_cons_zero, List.set_cons_succ]
        refine wpAnyH_take (i := 19) (v := ?_) (by simp only [List.getElem?_toArray, List.getElem?_cons_zero, List.getElem?_cons_succ] <;> rfl) (by kernel_rfl) (by kernel_rfl) (by kernel_rfl) (fun _ _ _ h => h) (.inl ⟨by rfl, ?_⟩) (by assumption) ?_
        rotate_left 1
        · intro wz hSw; (try dsimp only at hSw); go_simp; (try with_reducible rfl)
        try simp only [Act.put, List.setIfInBounds_toArray, List.set_cons_zero, List.set_cons_succ]
        refine wpAnyH_take (i := 20) (v := ?_) (by simp only [List.getElem?_toArray, List.getElem?_cons_zero, List.getElem?_cons_succ] <;> rfl) (by kernel_rfl) (by kernel_rfl) (by kernel_rfl) (fun _ _ _ h => h) (.inl ⟨by rfl, ?_⟩) (by assumption) ?_
        rotate_left 1
        · intro wz hSw; (try dsimp only at hSw); go_simp; (try with_reducible rfl)
        try simp only [Act.put, List.setIfInBounds_toArray, List.set_cons_zero, List.set_cons_succ]
        refine wpAnyH_take (i := 21) (v := ?_) (by simp only [List.getElem?_toArray, List.getElem?_cons_zero, List.getElem?_cons_succ] <;> rfl) (by kernel_rfl) (by kernel_rfl) (by kernel_rfl) (fun _ _ _ h => h) (.inl ⟨by rfl, ?_⟩) (by assumption) ?_
        rotate_left 1
        · intro wz hSw; (try dsimp only at hSw); go_simp; (try with_reducible rfl)
        try simp only [Act.put, List.setIfInBounds_toArray, List.set_cons_zero, List.set_cons_succ]
        refine wpAnyH_take (i := 22) (v := ?_) (by simp only [List.getElem?_toArray, List.getElem?_cons_zero, List.getElem?_cons_succ] <;> rfl) (by kernel_rfl) (by kernel_rfl) (by kernel_rfl) (fun _ _ _ h => h) (.inl ⟨by rfl, ?_⟩) (by assumption) ?_
        rotate_left 1
        · intro wz hSw; (try dsimp only at hSw); go_simp; (try with_reducible rfl)
        try simp only [Act.put, List.setIfInBounds_toArray, List.set_cons_zero, List.set_cons_succ]
        refine wpAnyH_take (i := 23) (v := ?_) (by simp only [List.getElem?_toArray, List.getElem?_cons_zero, List.getElem?_cons_succ] <;> rfl) (by kernel_rfl) (by kernel_rfl) (by kernel_rfl) (fun _ _ _ h => h) (.inl ⟨by rfl, ?_⟩) (by assumption) ?_
        rotate_left 1
        · intro wz hSw; (try dsimp only at hSw); go_simp; (try with_reducible rfl)
        try simp only [Act.put, List.setIfInBounds_toArray, List.set_cons_zero, List.set_cons_succ]
        refine wpAnyH_take (i := 24) (v := undef) (by simp only [List.getElem?_toArray, List.getElem?_cons_zero, List.getElem?_cons_succ] <;> rfl) (by kernel_rfl) (by kernel_rfl) (by kernel_rfl) (fun _ _ _ h => h) (.inr ⟨by rfl, rfl⟩) (by assumption) ?_
        try simp only [Act.put, List.setIfInBounds_toArray, List.set_cons_zero, List.set_cons_succ]
        refine wpAnyH_take (i := 25) (v := undef) (by simp only [List.getElem?_toArray, List.getElem?_cons_zero, List.getElem?_cons_succ] <;> rfl) (by kernel_rfl) (by kernel_rfl) (by kernel_rfl) (fun _ _ _ h => h) (.inr ⟨by rfl, rfl⟩) (by assumption) ?_
        try simp only [Act.put, List.setIfInBounds_toArray, List.set_cons_zero, List.set_cons_succ]
        refine wpAnyH_take (i := 26) (v := undef) (by simp only [List.getElem?_toArray, List.getElem?_cons_zero, List.getElem?_cons_succ] <;> rfl) (by kernel_rfl) (by kernel_rfl) (by kernel_rfl) (fun _ _ _ h => h) (.inr ⟨by rfl, rfl⟩) (by assumption) ?_
        try simp only [Act.put, List.setIfInBounds_toArray, List.set_cons_zero, List.set_cons_succ]
        refine wpAnyH_take (i := 27) (v := undef) (by simp only [List.getElem?_toArray, List.getElem?_cons_zero, List.getElem?_cons_succ] <;> rfl) (by kernel_rfl) (by kernel_rfl) (by kernel_rfl) (fun _ _ _ h => h) (.inr ⟨by rfl, rfl⟩) (by assumption) ?_
        try simp only [Act.put, List.setIfInBounds_toArray, List.set_cons_zero, List.set_cons_succ]
        refine wpAnyH_take (i := 28) (v := ?_) (by simp only [List.getElem?_toArray, List.getElem?_cons_zero, List.getElem?_cons_succ] <;> rfl) (by kernel_rfl) (by kernel_rfl) (by kernel_rfl) (fun _ _ _ h => h) (.inl ⟨by rfl, ?_⟩) (by assumption) ?_
        rotate_left 1
        · intro wz hSw; (try dsimp only at hSw); go_simp; (try with_reducible rfl)
        try simp only [Act.put, List.setIfInBounds_toArray, List.set_cons_zero, List.set_cons_succ]
        refine wpAnyH_take (i := 29) (v := ?_) (by simp only [List.getElem?_toArray, List.getElem?_cons_zero, List.getElem?_cons_succ] <;> rfl) (by kernel_rfl) (by kernel_rfl) (by kernel_rfl) (fun _ _ _ h => h) (.inl ⟨by rfl, ?_⟩) (by assumption) ?_
        rotate_left 1
        · intro wz hSw; (try dsimp only at hSw); go_simp; (try with_reducible rfl)
        try simp only [Act.put, List.setIfInBounds_toArray, List.set_cons_zero, List.set_cons_succ]
        refine wpAnyH_done (by kernel_rfl) ?_ _
        refine NoPanic.normal ?_
        all_goals
          go_wp2_with fail
          go_meet
          exact ⟨rfl, KB2.out.trans K23.out⟩
      case rest =>
        obtain ⟨rfl, hkc⟩ := hcut
        have K10 := Lib.hid hkc
        clear hkc x10 x11 x12 x13 x14 x20 x21 x22 x23 x24
        have K10s : w.heap.size ≤ wc.heap.size := K10.out.size
        have HK10s := Lib.hid K10s
        clear K10s
        go_wp2_with fail
        go_loopg [104, 15] k (fun G st v wr => ∃ (j : Nat) (v0 : Value), G = k - j ∧ j ≤ k ∧ st = .int .i64 (j : Int) ∧ v0 = v ∧ GColl wc.heap.size wr j v0 (fun _ => ⟨0, 0, false, false⟩) ∧ Kp wc wr)
        case atStart => exact ⟨0, _, rfl, Nat.zero_le _, rfl, rfl, Coll.start _, Kp.refl _⟩
        case round =>
          obtain ⟨j, v, rfl, hj, rfl, rfl, hcl, hkp⟩ := hrel
          have HCLJ := Lib.hid hcl
          have HKJ := Lib.hid hkp
          have HJ := Lib.hid hj
          have j0 : (0 : Int) ≤ (j : Int) := by omega
          have j1 : (j : Int) ≤ (k : Int) := by omega
          clear hcl hkp hj
          by_cases hlt : j < k
          · have j2 : (j : Int) < (k : Int) := by omega
            have HLT := Lib.hid hlt
            clear hlt
            obtain ⟨v', w5, hr, hcc, hkk⟩ := one_get _ wr j v _ HCLJ.out HKJ.out.size ⟨0, 0, false, false⟩ (by have := HLT.out; have := HK4.out; omega)
            have HR := Lib.hid (show (Builtin.append_ #[27, 27] 27 #[v, .slice (some ⟨wr.heap.size, 0, none⟩) 1 1]).run Tryd.prog (wr.alloc (.cells #[.int .i64 0, .int .i64 0, .bool false, .bool false] 33)) = .ok v' w5 from hr)
            have HCC := Lib.hid (show GColl _ w5 (j + 1) v' (fun _ => ⟨0, 0, false, false⟩) from by
              have e : (fun r => if r = j then (⟨0, 0, false, false⟩ : GStep) else ⟨0, 0, false, false⟩) = fun _ => ⟨0, 0, false, false⟩ := by funext r; split <;> rfl
              rw [e] at hcc
              exact hcc)
            have HKE := Lib.hid (hkk _ HKJ.out (Nat.le_refl _))
            clear hr hcc hkk
            go_wp2_with (at_builtin; refine Lib.wpList_append_run _ rfl _ _ _ _ rfl _ _ rfl rfl _ _ HR.out ?_)
            go_roundg (k - (j + 1))
            case measure => have := HLT.out; omega
            case rel => exact ⟨j + 1, v', rfl, HLT.out, by go_num, rfl, HCC.out, HKE.out⟩
          · obtain rfl : j = k := by have := HJ.out; omega
            clear hlt
            obtain ⟨ag, cg, rfl, hgets⟩ := HCLJ.out.gets
            have HGE := Lib.hid hgets
            have K11 := Lib.hid (K10.out.trans HKJ.out)
            have CL3 := Lib.hid (clone_any wr (some ⟨bb, oo, none⟩) n c xs (bin_kp HI.out K11.out) HX.out (by have := HN.out; omega))
            clear hgets
            go_wp2_with fail
            refine CL3.out.mono ?_
            rintro e w12 ⟨q3, d3, rfl, hown, hb⟩
            have K12 := Lib.hid (K11.out.trans (show Kp wr w12 from hb))
            have SG3 := Lib.hid (sessionGet_any q3 n d3 xs ag j cg (fun _ => ⟨0, 0, false, false⟩) (fun r => xs.drop r) (fun r => ⟨[], [], xs.getD r 0, noText⟩) false w12 (bin_of_own hown) HX.out HBY.out (by have := HN.out; omega) (HGE.out.kp hb) (by have := HK4.out; omega) rfl (ones_run (by rw [HX.out]; have := HK4.out; omega)))
            clear hown hb CL3
            go_wp2_with fail
            refine SG3.out.mono ?_
            rintro e w13 ⟨v, q5, l5, d5, Q, rfl, hown, hgots, hl5, hin5, hb⟩
            obtain ⟨a5, c5, rfl, hc51, hc52⟩ := own_slice hown
            have HGA := Lib.hid (gotAt_own hown)
            obtain rfl : l5 = n - j := by rw [← hl5]; simp [HX.out]
            have HI5 := Lib.hid hin5
            have K13 := Lib.hid (K12.out.trans (show Kp w12 w13 from hb))
            have HGO := Lib.hid hgots
            have s0 : (j : Int) ≤ (c5 : Int) := by omega
            have s1 : (c5 : Int) ≤ 9223372036854775807 := by unfold maxLen at hc52; omega
            have BE3 := Lib.hid (fun a (w1 : World) (hk : Kp w13 w1) (ha : Lib.BytesIn w1 a (n - j) (xs.drop j)) => bytes_equal_same w1 q5 a (n - j) d5 (c - j) (xs.drop j) (by simp [HX.out]) (bin_kp HI5.out hk) ha)
            clear hown hgots hl5 hin5 hb hc51 hc52 SG3
            have t0 : ((j : Nat) : Int).toNat = j := by omega
            have HAD := Lib.hid (show ∀ w1, Kp w w1 → Lib.BytesIn w1 (some ⟨bb, oo + j, none⟩) (n - j) (xs.drop j) from fun w1 hk hl => by
              obtain ⟨b', o', he, hc⟩ := bin_kp HI.out hk (by omega)
              injection he with he
              injection he with h1 h2
              subst h1 h2
              exact ⟨bb, oo + j, rfl, fun i hi => by rw [Nat.add_assoc, hc (j + i) (by omega)]; simp [List.getD_eq_getElem?_getD]⟩)
            go_upto_region 19 with (fail)
            go_cut [129] (fun s129 wx => s129 = .bool false ∧ w13 = wx)
            case first =>
              have u0 : (0 : Int) ≤ (c : Int) := by omega
              have u1 : (j : Int) ≤ (n : Int) := by have := HK4.out; omega
              have u2 : (n : Int) ≤ (c : Int) := by have := HNC.out; omega
              have u3 : (c : Int) ≤ 9223372036854775807 := by have := HCM.out; unfold maxLen at this; omega
              by_cases hcj : c = j
              · have ej : (c = j) = True := by simp [hcj]
                have HCJ := Lib.hid hcj
                have BE4 := Lib.hid (BE3.out (some ⟨bb, oo, none⟩) w13 (Kp.refl _) (fun hl => absurd hl (by have := HCJ.out; have := HNC.out; omega)))
                clear hcj
                go_wp2_with fail
                refine BE4.out.mono ?_
                rintro e wx ⟨rfl, rfl⟩
                go_wp2_with fail
                go_meet
                exact ⟨rfl, rfl⟩
              · have ej : (c = j) = False := by simp [hcj]
                have BE4 := Lib.hid (BE3.out (some ⟨bb, oo + j, none⟩) w13 (Kp.refl _) (HAD.out w13 K13.out))
                clear hcj
                go_wp2_with fail
                refine BE4.out.mono ?_
                rintro e wx ⟨rfl, rfl⟩
                go_wp2_with fail
                go_meet
                exact ⟨rfl, rfl⟩
            case rest =>
              obtain ⟨rfl, rfl⟩ := hcut
              go_wp2_with fail
              go_loopg [132] j (fun G st wr => ∃ i : Nat, G = j - i ∧ i ≤ j ∧ st = .int .i64 (i : Int) ∧ Kp w13 wr)
              case atStart => exact ⟨0, rfl, Nat.zero_le _, rfl, Kp.refl _⟩
              case round =>
                obtain ⟨i, rfl, hi, rfl, hkp⟩ := hrel
                have HKI := Lib.hid hkp
                have HII := Lib.hid hi
                have v0 : (0 : Int) ≤ (i : Int) := by omega
                have v1 : (i : Int) ≤ (j : Int) := by omega
                clear hkp hi
                by_cases hlt : i < j
                · have v2 : (i : Int) < (j : Int) := by omega
                  have v3 : (j : Int) ≤ (n : Int) := by have := HK4.out; omega
                  have v4 : (i : Int) < (n : Int) := by omega
                  obtain ⟨b5, o5, rfl, hc5⟩ := HGA.out i hlt
                  have HLT := Lib.hid hlt
                  obtain ⟨z1, z2, z3, z4⟩ := HGO.out i hlt
                  generalize Q i = pl at hc5 z1 z2 z3 z4
                  obtain ⟨qa, ka, ma, qb, kb, mb⟩ := pl
                  obtain rfl : ka = 0 := z1.symm
                  obtain rfl : kb = 0 := z3.symm
                  obtain ⟨xi, hxi⟩ : ∃ xi, xi = xs.getD i 0 := ⟨_, rfl⟩
                  have hxm : 0 ≤ xi ∧ xi < 256 := by
                    rw [hxi, List.getD_eq_getElem?_getD, List.getElem?_eq_getElem (by rw [HX.out]; have := HK4.out; omega)]
                    exact HBY.out _ (List.getElem_mem _)
                  have w0' : 0 ≤ xi := hxm.1
                  have w1' : xi < 256 := hxm.2
                  have ew : IntKind.i64.wrap xi = xi := IntWalk.i64_in _ (by omega)
                  have d0 : wr.cell? ⟨b5, o5 + i * 5, none⟩ = some (.bool true) := below_some HKI.out (hc5 0 _ rfl)
                  have d1 : wr.cell? ⟨b5, o5 + i * 5 + 1, none⟩ = some (.slice qa 0 ma) := below_some HKI.out (hc5 1 _ rfl)
                  have d2 : wr.cell? ⟨b5, o5 + i * 5 + 2, none⟩ = some (.slice qb 0 mb) := below_some HKI.out (hc5 2 _ rfl)
                  have d3 : wr.cell? ⟨b5, o5 + i * 5 + 3, none⟩ = some (.int .i64 xi) := hxi ▸ below_some HKI.out (hc5 3 _ rfl)
                  have d4 : wr.cell? ⟨b5, o5 + i * 5 + 4, none⟩ = some (.string noText) := below_some HKI.out (hc5 4 _ rfl)
                  have d5 : wr.cell? ⟨bb, oo + i, none⟩ = some (.int .u8 xi) := by
                    obtain ⟨b', o', he, hc⟩ := bin_kp HI.out (K13.out.trans HKI.out) (by have := HK4.out; omega)
                    injection he with he
                    injection he with h1 h2
                    subst h1 h2
                    rw [hxi]; exact hc i (by have := HK4.out; omega)
                  have lt5 : bb < wr.heap.size := heap_lt_of_cell d5
                  clear hc5 z1 z2 z3 z4 hxi hxm hlt
                  go_wp2_with fail
                  go_quiet (fail)
                  go_wp2_with fail
                  go_roundg (j - (i + 1))
                  case measure => have := HLT.out; omega
                  case rel => exact ⟨i + 1, rfl, HLT.out, by go_num, HKI.out.trans (((Kp.refl wr).alloc _).drewN _)⟩
                · obtain rfl : i = j := by have := HII.out; omega
                  clear hlt
                  have K14 := Lib.hid (K13.out.trans HKI.out)
                  have CL4 := Lib.hid (clone_any wr (some ⟨bb, oo, none⟩) n c xs (bin_kp HI.out K14.out) HX.out (by have := HN.out; omega))
                  go_wp2_with fail
                  refine CL4.out.mono ?_
                  rintro e w15 ⟨q6, d6, rfl, hown, hb⟩
                  have HI6 := Lib.hid (bin_of_own hown)
                  have K15 := Lib.hid (K14.out.trans (show Kp wr w15 from hb))
                  have K1315 := Lib.hid (HKI.out.trans (show Kp wr w15 from hb))
                  clear hown hb CL4
                  go_wp2_with fail
                  generalize hW : w15.alloc (.cells #[.int .i64 1, .int .i64 (i : Int), .bool false, .bool false] 33) = W16
                  have hB : Blk W16 w15.heap.size 33 #[.int .i64 1, .int .i64 (i : Int), .bool false, .bool false] := hW ▸ Blk.new w15 _ _
                  have hkB : Kp w15 W16 := hW ▸ (Kp.refl w15).alloc _
                  have KB16 := Lib.hid hkB
                  have GG3 := Lib.hid (get1 W16 w15.heap.size ⟨1, i, false, false⟩ q6 n d6 xs false ⟨xs.take i, [], 0, noText⟩ (xs.drop i) hB (bin_kp HI6.out hkB) HX.out HBY.out (by have := HN.out; omega) (.inr (.inl ⟨rfl, (show i ≤ xs.length from by rw [HX.out]; have := HK4.out; omega), rfl, rfl⟩)))
                  clear hW hB hkB
                  refine GG3.out.mono ?_
                  rintro e w17 ⟨g3, cap3, qa3, ka, ma3, qb3, kb, mb3, ql3, ll, dl3, rfl, hc1, hc2, hg1, hg2, c0, c1, c2, c3, c4, hka, hina, hkb, hinb, hl, hin, hb4⟩
                  obtain rfl : ka = i := by rw [← hka]; show (xs.take i).length = i; simp [HX.out]; have := HK4.out; omega
                  obtain rfl : ll = n - ka := by rw [← hl]; simp [HX.out]
                  have HA3 := Lib.hid (show Lib.BytesIn w17 qa3 ka (xs.take ka) from hina)
                  have HL3 := Lib.hid hin
                  have hk17 := KB16.out.trans hb4
                  have K17 := Lib.hid (K15.out.trans hk17)
                  have K1317 := Lib.hid (K1315.out.trans hk17)
                  have x0 := c0
                  have x1 := c1
                  have cp3 : (1 : Int) ≤ (cap3 : Int) := by omega
                  have cq3 : (cap3 : Int) ≤ 9223372036854775807 := by unfold maxLen at hc2; omega
                  have v3 : (ka : Int) ≤ (n : Int) := by have := HK4.out; omega
                  have v5 : (n : Int) ≤ (c : Int) := by have := HNC.out; omega
                  have v6 : (ka : Int) ≤ (c : Int) := by omega
                  have v7 : (c : Int) ≤ 9223372036854775807 := by have := HCM.out; unfold maxLen at this; omega
                  have BE5 := Lib.hid (fun w1 (hk : Kp w17 w1) => bytes_equal_same w1 qa3 (some ⟨bb, oo, none⟩) ka ma3 c (xs.take ka) (by simp [HX.out]; have := HK4.out; omega) (bin_kp HA3.out hk) (bin_take (bin_kp HI.out (K17.out.trans hk)) (by have := HK4.out; omega)))
                  have BE6 := Lib.hid (fun w1 (hk : Kp w17 w1) => bytes_equal_same w1 ql3 q5 (n - ka) dl3 d5 (xs.drop ka) (by simp [HX.out]) (bin_kp HL3.out hk) (bin_kp HI5.out (K1317.out.trans hk)))
                  clear hc1 hc2 hg1 hg2 c0 c1 c2 c3 c4 hka hina hkb hinb hl hin hb4 hk17 GG3
                  go_wp2_with fail
                  go_region_held3 (fun w' => w'.cell? ⟨g3, 0, none⟩ = some (.bool true) ∧ w'.cell? ⟨g3, 1, none⟩ = some (.slice qa3 ka ma3)) (first | (refine ⟨?_, ?_⟩ <;> with_reducible assumption) | go_keep)
                    (first
                      | (go_at_call 18; refine (BE5.out _ (by first | exact Kp.refl _ | exact (Kp.refl _).drew)).mono ?_; rintro e wx ⟨rfl, rfl⟩)
                      | (go_at_call 18; refine (BE6.out _ (by first | exact Kp.refl _ | exact (Kp.refl _).drew)).mono ?_; rintro e wx ⟨rfl, rfl⟩)
                      | (go_at_call 14; refine (sessionLive_any _).mono ?_; rintro e wl ⟨rfl, hbl⟩; have KL := Lib.hid (show Kp w17 wl from (by first | exact hbl | exact (Kp.refl w17).drew.call hbl)); have y0 := below_some KL.out x0; have y1 := below_some KL.out x1; clear hbl x0 x1))
                  all_goals
                    go_wp2_with fail
                    go_ret
                    exact ⟨rfl, K17.out.trans KL.out⟩

end Go.Proofs.YtgjfejalinkohaaDoor
