/-
  toBytes: the text of a number with digits behind the point.
-/
import Derived.Test.YtcdbnjhkjfimkaaDoorTx6
namespace Go.Proofs.YtcdbnjhkjfimkaaDoor
open Go Go.RowKit

/-- The last pair: without a nought at its end. -/
def lastT (p : Int) : List Int := if p % 10 = 0 then oneL (p / 10) else two p
theorem lastT_len (p : Int) : 1 ≤ (lastT p).length ∧ (lastT p).length ≤ 2 := by
  unfold lastT
  split
  · exact oneL_len _
  · simp [two]
/-- The text behind j further pairs, where the point stands behind the pair d. -/
def tbT (A : List Int) (pv : List Int) (d j : Nat) : List Int := A ++ twoL ((pv.drop 1).take (min j (d - 1))) ++ if d ≤ 1 + j then 46 :: twoL ((pv.drop d).take (j + 1 - d)) else []
theorem tb_one (A pv : List Int) : tbT A pv 1 0 = A ++ [46] := by simp [tbT, twoL]
theorem tb_two (A pv : List Int) (d : Nat) (h : 2 ≤ d) : tbT A pv d 0 = A := by
  unfold tbT
  rw [if_neg (by omega)]
  simp [twoL]
theorem drop_get (l : List Int) (k j : Nat) : (l.drop k).getD j 0 = l.getD (k + j) 0 := by
  rw [List.getD_eq_getElem?_getD, List.getElem?_drop, ← List.getD_eq_getElem?_getD]
theorem tb_lo (A pv : List Int) (d j : Nat) (h : 2 + j < d) (hK : 1 + j < pv.length) : tbT A pv d (j + 1) = tbT A pv d j ++ two (pv.getD (1 + j) 0) := by
  unfold tbT
  rw [if_neg (by omega), if_neg (by omega), Nat.min_eq_left (by omega), Nat.min_eq_left (by omega), take_snoc' _ j (by rw [List.length_drop]; omega), drop_get, twoL_snoc]
  simp
theorem tb_eq (A pv : List Int) (d j : Nat) (h : 2 + j = d) (hK : 1 + j < pv.length) : tbT A pv d (j + 1) = tbT A pv d j ++ two (pv.getD (1 + j) 0) ++ [46] := by
  unfold tbT
  rw [if_pos (by omega), if_neg (by omega), Nat.min_eq_left (by omega), Nat.min_eq_left (by omega), take_snoc' _ j (by rw [List.length_drop]; omega), drop_get, twoL_snoc, show j + 1 + 1 - d = 0 by omega]
  simp [twoL]
theorem tb_hi (A pv : List Int) (d j : Nat) (h : d ≤ 1 + j) (hd : 1 ≤ d) (hK : 1 + j < pv.length) : tbT A pv d (j + 1) = tbT A pv d j ++ two (pv.getD (1 + j) 0) := by
  unfold tbT
  rw [if_pos (by omega), if_pos (by omega), Nat.min_eq_right (by omega), Nat.min_eq_right (by omega), show j + 1 + 1 - d = (j + 1 - d) + 1 by omega, take_snoc' _ (j + 1 - d) (by rw [List.length_drop]; omega), drop_get, twoL_snoc, show d + (j + 1 - d) = 1 + j by omega]
  simp
theorem tb_len (A pv : List Int) (d j : Nat) (hd : 1 ≤ d) : (tbT A pv d j).length ≤ A.length + 2 * j + 1 := by
  unfold tbT
  rw [List.length_append, List.length_append, twoL_len, List.length_take]
  split
  · rw [List.length_cons, twoL_len, List.length_take]
    omega
  · simp; omega
theorem BufSt.app {g D : Nat} {A B : List Int} {wr w' : World} {v : Value} {e : Ending} (hl : A.length + B.length ≤ D) (hp : PutPost wr g g D D (A ++ B) (D - A.length - B.length) v e w') : BufSt g D (A ++ B) (.int .i64 ((A ++ B).length : Int)) w' := by
  obtain ⟨_, h2, _⟩ := hp
  refine ⟨rfl, by rw [List.length_append]; exact hl, ?_⟩
  rw [show D - (A ++ B).length = D - A.length - B.length by rw [List.length_append]; omega]
  exact h2
def innerT (neg : Bool) (pv : List Int) (d : Nat) : List Int := tbT ((if neg then [45] else []) ++ oneL (pv.getD 0 0)) pv d (pv.length - 2) ++ lastT (pv.getD (pv.length - 1) 0)
def smallT (neg : Bool) (pv : List Int) (q : Nat) : List Int := (if neg then [45] else []) ++ [48, 46] ++ List.replicate (2 * q) 48 ++ twoL (pv.take (pv.length - 1)) ++ lastT (pv.getD (pv.length - 1) 0)

set_option maxRecDepth 100000 in
set_option maxHeartbeats 4000000 in
theorem toBytes_in1_false (g n c K P : Nat) (pv : List Int) (w : World) (h : NumIs w g n false (P : Int) pv) (hp : Pairs pv) (hK : pv.length = K)  (hnc : n ≤ c) (d : Nat) (hd : d = P + 1) (hdK : d < K) (hd1 : d = 1) :
    Calls Tryd.prog 136 #[.slice (some ⟨g, 0, none⟩) n c] w (TxtPost (innerT false pv d) w) := by
  have hK1 : 1 ≤ K := by have := hp.2.1; omega
  have hK2 : K ≤ 20 := by have := hp.2.2.1; omega
  have hn : 2 ≤ n := by
    rw [h.1]
    unfold numB
    simp only [List.length_cons, List.length_append, List.length_map]
    omega
  have h0 : w.cell? ⟨g, 0, none⟩ = some (.int .u8 (193 + (P : Int))) := h.head
  have C1 := Lib.hid (isZero_no g n c _ w h0 (by omega) hn)
  have C2 := Lib.hid (isPosInf_no g n c _ w h0 (by omega) hn)
  have C3 := Lib.hid (isNegInf_no g n c _ w h0 hn)
  have C4 := Lib.hid (isValid_any g n c false (P : Int) pv w h hp (by omega) (by omega) hnc)
  have C5 := Lib.hid (fromLnx_any g n c false (P : Int) pv w h hp (by omega) (by omega) hnc)
  have C6 := Lib.hid (fun w1 (hk : Kp w w1) => isPositive_any g n c false (P : Int) pv w1 (h.kp hk) hp (by omega) (by omega))
  have HPR := Lib.hid hp
  have HK := Lib.hid hK
  have HT := Lib.hid (show innerT false pv d = tbT ((if false then [45] else []) ++ oneL (pv.getD 0 0)) pv d (K - 2) ++ lastT (pv.getD (K - 1) 0) from by unfold innerT; rw [hK])
  generalize innerT false pv d = T at HT ⊢
  obtain ⟨D, hD⟩ : ∃ D, D = 2 * (K + 1) := ⟨_, rfl⟩
  have HD := Lib.hid hD
  have dl : 2 * ((K : Int) + 1) = (D : Int) := by omega
  have hmk := run_make_bytes .i64 .i64 D D (Nat.le_refl _) (by omega)
  obtain ⟨kk, hkk⟩ : ∃ kk : Int, kk = (P : Int) - ((K : Int) - 1) := ⟨_, rfl⟩
  have q0 : (P : Int) - ((K : Int) - 1) = kk := hkk.symm
  have kneg : kk < 0 := by omega
  have klow : -20 ≤ kk := by omega
  have kd : (K : Int) + kk = (d : Int) := by omega
  have p0 : (0 : Int) ≤ (P : Int) := by omega
  have p1 : (P : Int) ≤ 60 := by omega
  have k1 : (1 : Int) ≤ (K : Int) := by omega
  have k2 : (K : Int) ≤ 20 := by omega
  have d0 : (3 : Int) ≤ (D : Int) := by omega
  have d1 : (D : Int) ≤ 123 := by omega
  have dd0 : (0 : Int) < (d : Int) := by omega
  have dd1 : (d : Int) < (K : Int) := by omega
  have HDK := Lib.hid hdK
  have HD1 := Lib.hid hd1
  have e1 : ((d : Int) == 1) = true := by simp; omega
  clear h hp hnc hn h0 hD hkk hK1 hK2 hd hdK hd1
  go_enter Tryd.func136, Tryd.ntmps136
  go_wp2_with fail
  refine C1.out.mono ?_
  rintro e w1 ⟨rfl, rfl⟩
  clear C1
  go_wp2_with fail
  refine C2.out.mono ?_
  rintro e w1 ⟨rfl, rfl⟩
  clear C2
  go_wp2_with fail
  refine C3.out.mono ?_
  rintro e w1 ⟨rfl, rfl⟩
  clear C3
  go_wp2_with fail
  refine C4.out.mono ?_
  rintro e w1 ⟨rfl, rfl⟩
  clear C4
  go_wp2_with fail
  refine C5.out.mono ?_
  rintro e W1 ⟨g1, rfl, hrow, hk1⟩
  clear C5
  have HK1 := Lib.hid hk1
  obtain ⟨m, hm⟩ : ∃ m, m = 1 + pv.length := ⟨_, rfl⟩
  rw [← hm] at hrow ⊢
  have hpw : powB (P : Int) = (P : Int) := by unfold powB; rw [if_pos (by omega)]
  rw [hpw] at hrow
  have HDAT := Lib.hid (fun i (hi : i < m) => own_cell hrow i hi)
  have c0 : W1.cell? ⟨g1, 0, none⟩ = some (.int .u8 ((P : Int))) := HDAT.out 0 (by omega)
  have m0 : (2 : Int) ≤ (m : Int) := by omega
  have m1 : (m : Int) - 1 = (K : Int) := by omega
  have HM := Lib.hid (show m = 1 + K from by omega)
  clear hk1 hrow hpw hm
  go_wp2_with fail
  generalize hX : W1.alloc (.cells (zeroA D) 5) = X
  obtain ⟨g2, hg2⟩ : ∃ g2, g2 = W1.heap.size := ⟨_, rfl⟩
  have HROW := Lib.hid (show RowAt X g2 g2 D D (fillL [] D) from by rw [hg2, ← hX]; exact own_start W1 D (by omega))
  have HKX := Lib.hid (show Kp W1 X from hX ▸ (Kp.refl W1).alloc _)
  have HG2 := Lib.hid (show W1.heap.size ≤ g2 from by rw [hg2]; exact Nat.le_refl _)
  rw [← hg2]
  clear hX hg2 c0
  refine (C6.out X (HK1.out.trans HKX.out)).mono ?_
  rintro e wx ⟨rfl, rfl⟩
  clear C6
  obtain ⟨p1, hp1⟩ : ∃ p1, p1 = pv.getD 0 0 := ⟨_, rfl⟩
  have HP1 := Lib.hid hp1
  have hpb := HPR.out.at 0 (by have := HPR.out.2.1; omega)
  rw [← hp1] at hpb
  have c1 : X.cell? ⟨g1, 1, none⟩ = some (.int .u8 p1) := below_some HKX.out (by rw [hp1]; exact HDAT.out 1 (by have := HM.out; omega))
  have ho := oneL_len p1
  have CO := Lib.hid (one_any g2 g2 D D (D - 0 - (oneL p1).length) ([] : List Int) p1 X (by
    have h1 := HROW.out
    rw [show D - 0 - (oneL p1).length + (oneL p1).length = D - 0 by have := HD.out; omega]
    exact h1) hpb.1 hpb.2 (by simp))
  clear hp1 hpb
  go_wp2_with fail
  obtain ⟨A, hA⟩ : ∃ A, A = ([] : List Int) ++ oneL p1 := ⟨_, rfl⟩
  have hAl : A.length = (oneL p1).length := by rw [hA]; simp
  have HPT := Lib.hid (show ∀ (s : Value) (wr : World), BufSt g2 D (tbT A pv d (K - 2) ++ lastT (pv.getD (K - 1) 0)) s wr → Kp W1 wr → ∀ L : Nat, (tbT A pv d (K - 2) ++ lastT (pv.getD (K - 1) 0)).length = L → TxtPost T w (.returned (.tuple #[.slice (some ⟨g2, 0, none⟩) L D, .nilIface])) wr from fun s wr hb hk L hL => by
    subst hL
    have ht : T = tbT A pv d (K - 2) ++ lastT (pv.getD (K - 1) 0) := by rw [HT.out, hA, HP1.out]; rfl
    subst ht
    exact ⟨g2, D, rfl, hb.text, hb.2.1, HK1.out.trans hk⟩)
  have HA := Lib.hid hA
  have HO := Lib.hid ho
  obtain ⟨a, ha⟩ : ∃ a, a = (oneL p1).length := ⟨_, rfl⟩
  have HAA := Lib.hid ha
  have a0 : (1 : Int) ≤ (a : Int) := by omega
  have a1 : (a : Int) ≤ 2 := by omega
  rw [← ha] at CO hAl
  have HAL := Lib.hid hAl
  clear hA hAl ho ha
  go_wp2_with fail
  refine CO.out.mono ?_
  rintro e wy ⟨rfl, hrow2, hgr⟩
  have hKY : Kp W1 wy := grown_kp HROW.out hgr HKX.out HG2.out
  have hBY : BufSt g2 D A (.int .i64 (A.length : Int)) wy := ⟨rfl, by have := HAL.out; have := HD.out; have := HO.out; have := HAA.out; omega, by
    rw [show D - A.length = D - 0 - a by have := HAL.out; have := HAA.out; omega, HA.out]
    exact hrow2⟩
  obtain ⟨z1, y1⟩ := hBY.cell a (by have := HD.out; omega)
  have y2 := hBY.frozen a
  obtain ⟨hb1, hg1⟩ := hBY.put (by have := HAL.out; have := HD.out; omega) 46
  have hk2 := hBY.kp hg1 hKY HG2.out
  rw [HAL.out] at hb1 hk2
  have HKY := Lib.hid hk2
  have hd1 : d = 1 := HD1.out
  have HBY := Lib.hid (show BufSt g2 D (tbT A pv d 0) (.int .i64 ((a : Int) + 1)) (wy.setCell ⟨g2, a, none⟩ (.int .u8 46)) from by rw [hd1, tb_one]; exact hb1)
  have al0 : (0 : Int) ≤ (a : Int) := by omega
  have al1 : (a : Int) < (D : Int) := by omega
  clear hrow2 hgr CO c1 hKY hBY hb1 hg1 hk2 hd1
  go_wp2_with fail
  go_loopg [11, 4] K (fun G s11 s4 wr => ∃ j : Nat, K - j = G ∧ j + 2 ≤ K ∧ s11 = .int .i64 (2 + (j : Int)) ∧ BufSt g2 D (tbT A pv d j) s4 wr ∧ Kp W1 wr)
  case atStart => exact ⟨0, rfl, by omega, rfl, HBY.out, HKY.out⟩
  case round =>
    obtain ⟨j, rfl, hj, rfl, hbs, hkw⟩ := hrel
    have HKW := Lib.hid hkw
    obtain ⟨Bt, hBt⟩ : ∃ Bt, Bt = tbT A pv d j := ⟨_, rfl⟩
    have hbl : Bt.length ≤ A.length + 2 * j + 1 := by rw [hBt]; exact tb_len A pv d j (by omega)
    have hal3 : A.length ≤ 3 := by have := HAL.out; omega
    rw [← hBt] at hbs
    obtain ⟨hs4, hbd, hbr⟩ := hbs
    subst hs4
    have HBT := Lib.hid hBt
    have l0 : (Bt.length : Int) ≤ (D : Int) := by omega
    by_cases hlt : j + 2 < K
    · have i0 : 2 + (j : Int) < (K : Int) := by omega
      have i1 : (2 + (j : Int)).toNat = 2 + j := by omega
      have i2 : 2 + (j : Int) < (m : Int) := by omega
      have hroom : Bt.length + 3 ≤ D := by have := HD.out; omega
      have l3 : (Bt.length : Int) + 3 ≤ (D : Int) := by omega
      have l2n : ((Bt.length : Int) + 2).toNat = Bt.length + 2 := by omega
      obtain ⟨x, hx⟩ : ∃ x, x = pv.getD (1 + j) 0 := ⟨_, rfl⟩
      have hxb := HPR.out.at (1 + j) (by rw [HK.out]; omega)
      rw [← hx] at hxb
      have cx : wr.cell? ⟨g1, 2 + j, none⟩ = some (.int .u8 x) := below_some hkw (by
        have h1 := HDAT.out (2 + j) (by have := HM.out; omega)
        rw [show 2 + j = (1 + j) + 1 by omega] at h1 ⊢
        rw [List.getD_cons_succ] at h1
        rw [hx]
        exact h1)
      have CT := Lib.hid (two_any g2 g2 D D (D - Bt.length - 2) Bt x wr (by rw [show D - Bt.length - 2 + 2 = D - Bt.length by omega]; exact hbr) hxb.1 hxb.2 (by have := HD.out; omega))
      have HRM := Lib.hid (show Bt.length + 2 ≤ D from by omega)
      have HRM3 := Lib.hid hroom
      have HLT := Lib.hid hlt
      have HBRR := Lib.hid hbr
      have hjK : 1 + j < pv.length := by rw [HK.out]; omega
      by_cases heq : 2 + j = d
      · have ed : ((d : Int) == 2 + (j : Int)) = true := by simp; omega
        have HTB := Lib.hid (show tbT A pv d (j + 1) = Bt ++ two x ++ [46] from by rw [tb_eq A pv d j heq hjK, ← hx, HBT.out])
        clear hlt hj hbd hbr hx hxb hroom hkw hBt hbl heq hjK hal3
        go_wp2_with fail
        refine CT.out.mono ?_
        rintro e wz hpp
        obtain ⟨rfl, hp2, hp3⟩ := id hpp
        have hB2 := BufSt.two (wr := wr) HRM.out hpp
        have hK2 : Kp W1 wz := grown_kp HBRR.out hp3 HKW.out HG2.out
        have h2l : (Bt ++ two x).length = Bt.length + 2 := by simp [two]
        obtain ⟨z1, y1⟩ := hB2.cell (Bt.length + 2) (by have := HRM3.out; omega)
        have y2 := hB2.frozen (Bt.length + 2)
        obtain ⟨hb3, hg3⟩ := hB2.put (by rw [h2l]; have := HRM3.out; omega) 46
        have hk3 := hB2.kp hg3 hK2 HG2.out
        rw [h2l] at hb3 hk3
        have HB3 := Lib.hid hb3
        have HK3 := Lib.hid hk3
        clear hpp hp2 hp3 cx CT hB2 hK2 h2l hb3 hg3 hk3
        go_wp2_with fail
        go_roundg (K - (j + 1))
        case measure => have := HLT.out; omega
        case rel => exact ⟨j + 1, rfl, by have := HLT.out; omega, int_eq (by omega), by rw [HTB.out]; exact ⟨int_eq (by have := HB3.out.1; injection this), HB3.out.2.1, HB3.out.2.2⟩, HK3.out⟩
      · have ed : ((d : Int) == 2 + (j : Int)) = false := by simp; omega
        have HTB := Lib.hid (show tbT A pv d (j + 1) = Bt ++ two x from by
          rcases Nat.lt_or_ge (2 + j) d with h | h
          · rw [tb_lo A pv d j h hjK, ← hx, HBT.out]
          · rw [tb_hi A pv d j (by omega) (by omega) hjK, ← hx, HBT.out])
        clear hlt hj hbd hbr hx hxb hroom hkw hBt hbl heq hjK hal3
        go_wp2_with fail
        refine CT.out.mono ?_
        rintro e wz hpp
        obtain ⟨rfl, hp2, hp3⟩ := id hpp
        have HB2 := Lib.hid (BufSt.two (wr := wr) HRM.out hpp)
        have HK2 := Lib.hid (show Kp W1 wz from grown_kp HBRR.out hp3 HKW.out HG2.out)
        clear hpp hp2 hp3 cx CT
        go_wp2_with fail
        go_roundg (K - (j + 1))
        case measure => have := HLT.out; omega
        case rel => exact ⟨j + 1, rfl, by have := HLT.out; omega, int_eq (by omega), by rw [HTB.out]; exact HB2.out, HK2.out⟩
    · have i0 : ¬ 2 + (j : Int) < (K : Int) := by omega
      have ejK : 2 + (j : Int) = (K : Int) := by omega
      have HJ := Lib.hid (show j = K - 2 from by omega)
      have HRM := Lib.hid (show Bt.length + 2 ≤ D from by have := HD.out; omega)
      have HBL := Lib.hid (show Bt.length ≤ 400 from by omega)
      have HBS := Lib.hid (show BufSt g2 D Bt (.int .i64 (Bt.length : Int)) wr from ⟨rfl, hbd, hbr⟩)
      have HFIN := Lib.hid (show tbT A pv d (K - 2) = Bt from by rw [HBT.out, HJ.out])
      rw [ejK]
      clear hlt hj hbd hbr hkw hBt hbl hal3 ejK i0
      have i0 : ¬ (K : Int) < (K : Int) := by omega
      obtain ⟨xl, hxl⟩ : ∃ xl, xl = pv.getD (K - 1) 0 := ⟨_, rfl⟩
      have hxb := HPR.out.at (K - 1) (by rw [HK.out]; omega)
      rw [← hxl] at hxb
      have cl : wr.cell? ⟨g1, K, none⟩ = some (.int .u8 xl) := below_some HKW.out (by
        have h1 := HDAT.out K (by have := HM.out; omega)
        obtain ⟨K0, hK0⟩ : ∃ K0, K = K0 + 1 := ⟨K - 1, by omega⟩
        rw [hK0, List.getD_cons_succ] at h1
        rw [hxl, hK0]
        exact h1)
      have xl0 : 0 ≤ xl := hxb.1
      have xl1 : xl ≤ 99 := hxb.2
      have km : (K : Int) < (m : Int) := by omega
      have HXL := Lib.hid hxl
      have hbr := HBS.out.2.2
      have hll := lastT_len xl
      by_cases h10 : xl % 10 = 0
      · have e10 : (xl % 10 == 0) = true := by simp; omega
        have hl : lastT xl = oneL (xl / 10) := by unfold lastT; rw [if_pos h10]
        rw [hl] at hll
        have CO2 := Lib.hid (one_any g2 g2 D D (D - Bt.length - (oneL (xl / 10)).length) Bt (xl / 10) wr (by rw [show D - Bt.length - (oneL (xl / 10)).length + (oneL (xl / 10)).length = D - Bt.length by have := HRM.out; omega]; exact hbr) (by omega) (by omega) (by have := HBL.out; have := HD.out; omega))
        have HAP := Lib.hid (fun (w' : World) (v : Value) (e : Ending) (hp : PutPost wr g2 g2 D D (Bt ++ oneL (xl / 10)) (D - Bt.length - (oneL (xl / 10)).length) v e w') => BufSt.app (by have := HRM.out; omega) hp)
        have HLT := Lib.hid hl
        have HBRR := Lib.hid hbr
        obtain ⟨a2, ha2⟩ : ∃ a2, a2 = (oneL (xl / 10)).length := ⟨_, rfl⟩
        have HA2 := Lib.hid ha2
        have a20 : (1 : Int) ≤ (a2 : Int) := by omega
        have a21 : (a2 : Int) ≤ 2 := by omega
        have xq0 : 0 ≤ xl / 10 := by omega
        rw [← ha2] at CO2 HAP
        have bb : (Bt.length : Int) + (a2 : Int) ≤ (D : Int) := by have := HRM.out; omega
        have ebl : (Bt.length : Int) + (a2 : Int) = ((Bt ++ oneL (xl / 10)).length : Int) := by rw [List.length_append, ← ha2]; omega
        obtain ⟨fl, hfl⟩ : ∃ fl, fl = (Bt ++ oneL (xl / 10)).length := ⟨_, rfl⟩
        rw [← hfl] at ebl
        have HFL := Lib.hid hfl
        have fl0 : (fl : Int) ≤ (D : Int) := by omega
        clear hxl hxb hbr hll h10 hl ha2 hfl
        go_wp2_with fail
        refine CO2.out.mono ?_
        rintro e wz hpp
        obtain ⟨rfl, hp2, hp3⟩ := id hpp
        have HB2 := Lib.hid (HAP.out _ _ _ hpp)
        have HK2 := Lib.hid (show Kp W1 wz from grown_kp HBRR.out hp3 HKW.out HG2.out)
        clear hpp hp2 hp3 cl CO2
        go_wp2_with fail
        go_ret2
        exact HPT.out _ wz (by rw [HFIN.out, ← HXL.out, HLT.out]; exact HB2.out) HK2.out _ (by rw [HFIN.out, ← HXL.out, HLT.out, HFL.out])
      · have e10 : (xl % 10 == 0) = false := by simp; omega
        have hl : lastT xl = two xl := by unfold lastT; rw [if_neg h10]
        rw [hl] at hll
        have CT2 := Lib.hid (two_any g2 g2 D D (D - Bt.length - 2) Bt xl wr (by rw [show D - Bt.length - 2 + 2 = D - Bt.length by have := HRM.out; omega]; exact hbr) xl0 xl1 (by have := HBL.out; have := HD.out; omega))
        have HLT := Lib.hid hl
        have HBRR := Lib.hid hbr
        have xq : 0 ≤ xl % 10 := by omega
        have b2 : (Bt.length : Int) + 2 ≤ (D : Int) := by have := HRM.out; omega
        obtain ⟨fl, hfl⟩ : ∃ fl, fl = (Bt ++ two xl).length := ⟨_, rfl⟩
        have ebl : (Bt.length : Int) + 2 = (fl : Int) := by rw [hfl, List.length_append]; simp [two]
        have HFL := Lib.hid hfl
        have fl0 : (fl : Int) ≤ (D : Int) := by omega
        clear hxl hxb hbr hll h10 hl hfl
        go_wp2_with fail
        refine CT2.out.mono ?_
        rintro e wz hpp
        obtain ⟨rfl, hp2, hp3⟩ := id hpp
        have HB2 := Lib.hid (BufSt.two (wr := wr) HRM.out hpp)
        have HK2 := Lib.hid (show Kp W1 wz from grown_kp HBRR.out hp3 HKW.out HG2.out)
        clear hpp hp2 hp3 cl CT2
        go_wp2_with fail
        go_ret2
        exact HPT.out _ wz (by rw [HFIN.out, ← HXL.out, HLT.out]; exact HB2.out) HK2.out _ (by rw [HFIN.out, ← HXL.out, HLT.out, HFL.out])
set_option maxRecDepth 100000 in
set_option maxHeartbeats 4000000 in
theorem toBytes_in2_false (g n c K P : Nat) (pv : List Int) (w : World) (h : NumIs w g n false (P : Int) pv) (hp : Pairs pv) (hK : pv.length = K)  (hnc : n ≤ c) (d : Nat) (hd : d = P + 1) (hdK : d < K) (hd1 : 2 ≤ d) :
    Calls Tryd.prog 136 #[.slice (some ⟨g, 0, none⟩) n c] w (TxtPost (innerT false pv d) w) := by
  have hK1 : 1 ≤ K := by have := hp.2.1; omega
  have hK2 : K ≤ 20 := by have := hp.2.2.1; omega
  have hn : 2 ≤ n := by
    rw [h.1]
    unfold numB
    simp only [List.length_cons, List.length_append, List.length_map]
    omega
  have h0 : w.cell? ⟨g, 0, none⟩ = some (.int .u8 (193 + (P : Int))) := h.head
  have C1 := Lib.hid (isZero_no g n c _ w h0 (by omega) hn)
  have C2 := Lib.hid (isPosInf_no g n c _ w h0 (by omega) hn)
  have C3 := Lib.hid (isNegInf_no g n c _ w h0 hn)
  have C4 := Lib.hid (isValid_any g n c false (P : Int) pv w h hp (by omega) (by omega) hnc)
  have C5 := Lib.hid (fromLnx_any g n c false (P : Int) pv w h hp (by omega) (by omega) hnc)
  have C6 := Lib.hid (fun w1 (hk : Kp w w1) => isPositive_any g n c false (P : Int) pv w1 (h.kp hk) hp (by omega) (by omega))
  have HPR := Lib.hid hp
  have HK := Lib.hid hK
  have HT := Lib.hid (show innerT false pv d = tbT ((if false then [45] else []) ++ oneL (pv.getD 0 0)) pv d (K - 2) ++ lastT (pv.getD (K - 1) 0) from by unfold innerT; rw [hK])
  generalize innerT false pv d = T at HT ⊢
  obtain ⟨D, hD⟩ : ∃ D, D = 2 * (K + 1) := ⟨_, rfl⟩
  have HD := Lib.hid hD
  have dl : 2 * ((K : Int) + 1) = (D : Int) := by omega
  have hmk := run_make_bytes .i64 .i64 D D (Nat.le_refl _) (by omega)
  obtain ⟨kk, hkk⟩ : ∃ kk : Int, kk = (P : Int) - ((K : Int) - 1) := ⟨_, rfl⟩
  have q0 : (P : Int) - ((K : Int) - 1) = kk := hkk.symm
  have kneg : kk < 0 := by omega
  have klow : -20 ≤ kk := by omega
  have kd : (K : Int) + kk = (d : Int) := by omega
  have p0 : (0 : Int) ≤ (P : Int) := by omega
  have p1 : (P : Int) ≤ 60 := by omega
  have k1 : (1 : Int) ≤ (K : Int) := by omega
  have k2 : (K : Int) ≤ 20 := by omega
  have d0 : (3 : Int) ≤ (D : Int) := by omega
  have d1 : (D : Int) ≤ 123 := by omega
  have dd0 : (0 : Int) < (d : Int) := by omega
  have dd1 : (d : Int) < (K : Int) := by omega
  have HDK := Lib.hid hdK
  have HD1 := Lib.hid hd1
  have e1 : ((d : Int) == 1) = false := by simp; omega
  clear h hp hnc hn h0 hD hkk hK1 hK2 hd hdK hd1
  go_enter Tryd.func136, Tryd.ntmps136
  go_wp2_with fail
  refine C1.out.mono ?_
  rintro e w1 ⟨rfl, rfl⟩
  clear C1
  go_wp2_with fail
  refine C2.out.mono ?_
  rintro e w1 ⟨rfl, rfl⟩
  clear C2
  go_wp2_with fail
  refine C3.out.mono ?_
  rintro e w1 ⟨rfl, rfl⟩
  clear C3
  go_wp2_with fail
  refine C4.out.mono ?_
  rintro e w1 ⟨rfl, rfl⟩
  clear C4
  go_wp2_with fail
  refine C5.out.mono ?_
  rintro e W1 ⟨g1, rfl, hrow, hk1⟩
  clear C5
  have HK1 := Lib.hid hk1
  obtain ⟨m, hm⟩ : ∃ m, m = 1 + pv.length := ⟨_, rfl⟩
  rw [← hm] at hrow ⊢
  have hpw : powB (P : Int) = (P : Int) := by unfold powB; rw [if_pos (by omega)]
  rw [hpw] at hrow
  have HDAT := Lib.hid (fun i (hi : i < m) => own_cell hrow i hi)
  have c0 : W1.cell? ⟨g1, 0, none⟩ = some (.int .u8 ((P : Int))) := HDAT.out 0 (by omega)
  have m0 : (2 : Int) ≤ (m : Int) := by omega
  have m1 : (m : Int) - 1 = (K : Int) := by omega
  have HM := Lib.hid (show m = 1 + K from by omega)
  clear hk1 hrow hpw hm
  go_wp2_with fail
  generalize hX : W1.alloc (.cells (zeroA D) 5) = X
  obtain ⟨g2, hg2⟩ : ∃ g2, g2 = W1.heap.size := ⟨_, rfl⟩
  have HROW := Lib.hid (show RowAt X g2 g2 D D (fillL [] D) from by rw [hg2, ← hX]; exact own_start W1 D (by omega))
  have HKX := Lib.hid (show Kp W1 X from hX ▸ (Kp.refl W1).alloc _)
  have HG2 := Lib.hid (show W1.heap.size ≤ g2 from by rw [hg2]; exact Nat.le_refl _)
  rw [← hg2]
  clear hX hg2 c0
  refine (C6.out X (HK1.out.trans HKX.out)).mono ?_
  rintro e wx ⟨rfl, rfl⟩
  clear C6
  obtain ⟨p1, hp1⟩ : ∃ p1, p1 = pv.getD 0 0 := ⟨_, rfl⟩
  have HP1 := Lib.hid hp1
  have hpb := HPR.out.at 0 (by have := HPR.out.2.1; omega)
  rw [← hp1] at hpb
  have c1 : X.cell? ⟨g1, 1, none⟩ = some (.int .u8 p1) := below_some HKX.out (by rw [hp1]; exact HDAT.out 1 (by have := HM.out; omega))
  have ho := oneL_len p1
  have CO := Lib.hid (one_any g2 g2 D D (D - 0 - (oneL p1).length) ([] : List Int) p1 X (by
    have h1 := HROW.out
    rw [show D - 0 - (oneL p1).length + (oneL p1).length = D - 0 by have := HD.out; omega]
    exact h1) hpb.1 hpb.2 (by simp))
  clear hp1 hpb
  go_wp2_with fail
  obtain ⟨A, hA⟩ : ∃ A, A = ([] : List Int) ++ oneL p1 := ⟨_, rfl⟩
  have hAl : A.length = (oneL p1).length := by rw [hA]; simp
  have HPT := Lib.hid (show ∀ (s : Value) (wr : World), BufSt g2 D (tbT A pv d (K - 2) ++ lastT (pv.getD (K - 1) 0)) s wr → Kp W1 wr → ∀ L : Nat, (tbT A pv d (K - 2) ++ lastT (pv.getD (K - 1) 0)).length = L → TxtPost T w (.returned (.tuple #[.slice (some ⟨g2, 0, none⟩) L D, .nilIface])) wr from fun s wr hb hk L hL => by
    subst hL
    have ht : T = tbT A pv d (K - 2) ++ lastT (pv.getD (K - 1) 0) := by rw [HT.out, hA, HP1.out]; rfl
    subst ht
    exact ⟨g2, D, rfl, hb.text, hb.2.1, HK1.out.trans hk⟩)
  have HA := Lib.hid hA
  have HO := Lib.hid ho
  obtain ⟨a, ha⟩ : ∃ a, a = (oneL p1).length := ⟨_, rfl⟩
  have HAA := Lib.hid ha
  have a0 : (1 : Int) ≤ (a : Int) := by omega
  have a1 : (a : Int) ≤ 2 := by omega
  rw [← ha] at CO hAl
  have HAL := Lib.hid hAl
  clear hA hAl ho ha
  go_wp2_with fail
  refine CO.out.mono ?_
  rintro e wy ⟨rfl, hrow2, hgr⟩
  have hKY : Kp W1 wy := grown_kp HROW.out hgr HKX.out HG2.out
  have hBY : BufSt g2 D A (.int .i64 (A.length : Int)) wy := ⟨rfl, by have := HAL.out; have := HD.out; have := HO.out; have := HAA.out; omega, by
    rw [show D - A.length = D - 0 - a by have := HAL.out; have := HAA.out; omega, HA.out]
    exact hrow2⟩
  have HKY := Lib.hid hKY
  have HBY := Lib.hid (show BufSt g2 D (tbT A pv d 0) (.int .i64 (a : Int)) wy from by rw [tb_two _ _ _ HD1.out, ← HAL.out]; exact hBY)
  clear hrow2 hgr CO c1 hKY hBY
  go_wp2_with fail
  go_loopg [11, 4] K (fun G s11 s4 wr => ∃ j : Nat, K - j = G ∧ j + 2 ≤ K ∧ s11 = .int .i64 (2 + (j : Int)) ∧ BufSt g2 D (tbT A pv d j) s4 wr ∧ Kp W1 wr)
  case atStart => exact ⟨0, rfl, by omega, rfl, HBY.out, HKY.out⟩
  case round =>
    obtain ⟨j, rfl, hj, rfl, hbs, hkw⟩ := hrel
    have HKW := Lib.hid hkw
    obtain ⟨Bt, hBt⟩ : ∃ Bt, Bt = tbT A pv d j := ⟨_, rfl⟩
    have hbl : Bt.length ≤ A.length + 2 * j + 1 := by rw [hBt]; exact tb_len A pv d j (by omega)
    have hal3 : A.length ≤ 3 := by have := HAL.out; omega
    rw [← hBt] at hbs
    obtain ⟨hs4, hbd, hbr⟩ := hbs
    subst hs4
    have HBT := Lib.hid hBt
    have l0 : (Bt.length : Int) ≤ (D : Int) := by omega
    by_cases hlt : j + 2 < K
    · have i0 : 2 + (j : Int) < (K : Int) := by omega
      have i1 : (2 + (j : Int)).toNat = 2 + j := by omega
      have i2 : 2 + (j : Int) < (m : Int) := by omega
      have hroom : Bt.length + 3 ≤ D := by have := HD.out; omega
      have l3 : (Bt.length : Int) + 3 ≤ (D : Int) := by omega
      have l2n : ((Bt.length : Int) + 2).toNat = Bt.length + 2 := by omega
      obtain ⟨x, hx⟩ : ∃ x, x = pv.getD (1 + j) 0 := ⟨_, rfl⟩
      have hxb := HPR.out.at (1 + j) (by rw [HK.out]; omega)
      rw [← hx] at hxb
      have cx : wr.cell? ⟨g1, 2 + j, none⟩ = some (.int .u8 x) := below_some hkw (by
        have h1 := HDAT.out (2 + j) (by have := HM.out; omega)
        rw [show 2 + j = (1 + j) + 1 by omega] at h1 ⊢
        rw [List.getD_cons_succ] at h1
        rw [hx]
        exact h1)
      have CT := Lib.hid (two_any g2 g2 D D (D - Bt.length - 2) Bt x wr (by rw [show D - Bt.length - 2 + 2 = D - Bt.length by omega]; exact hbr) hxb.1 hxb.2 (by have := HD.out; omega))
      have HRM := Lib.hid (show Bt.length + 2 ≤ D from by omega)
      have HRM3 := Lib.hid hroom
      have HLT := Lib.hid hlt
      have HBRR := Lib.hid hbr
      have hjK : 1 + j < pv.length := by rw [HK.out]; omega
      by_cases heq : 2 + j = d
      · have ed : ((d : Int) == 2 + (j : Int)) = true := by simp; omega
        have HTB := Lib.hid (show tbT A pv d (j + 1) = Bt ++ two x ++ [46] from by rw [tb_eq A pv d j heq hjK, ← hx, HBT.out])
        clear hlt hj hbd hbr hx hxb hroom hkw hBt hbl heq hjK hal3
        go_wp2_with fail
        refine CT.out.mono ?_
        rintro e wz hpp
        obtain ⟨rfl, hp2, hp3⟩ := id hpp
        have hB2 := BufSt.two (wr := wr) HRM.out hpp
        have hK2 : Kp W1 wz := grown_kp HBRR.out hp3 HKW.out HG2.out
        have h2l : (Bt ++ two x).length = Bt.length + 2 := by simp [two]
        obtain ⟨z1, y1⟩ := hB2.cell (Bt.length + 2) (by have := HRM3.out; omega)
        have y2 := hB2.frozen (Bt.length + 2)
        obtain ⟨hb3, hg3⟩ := hB2.put (by rw [h2l]; have := HRM3.out; omega) 46
        have hk3 := hB2.kp hg3 hK2 HG2.out
        rw [h2l] at hb3 hk3
        have HB3 := Lib.hid hb3
        have HK3 := Lib.hid hk3
        clear hpp hp2 hp3 cx CT hB2 hK2 h2l hb3 hg3 hk3
        go_wp2_with fail
        go_roundg (K - (j + 1))
        case measure => have := HLT.out; omega
        case rel => exact ⟨j + 1, rfl, by have := HLT.out; omega, int_eq (by omega), by rw [HTB.out]; exact ⟨int_eq (by have := HB3.out.1; injection this), HB3.out.2.1, HB3.out.2.2⟩, HK3.out⟩
      · have ed : ((d : Int) == 2 + (j : Int)) = false := by simp; omega
        have HTB := Lib.hid (show tbT A pv d (j + 1) = Bt ++ two x from by
          rcases Nat.lt_or_ge (2 + j) d with h | h
          · rw [tb_lo A pv d j h hjK, ← hx, HBT.out]
          · rw [tb_hi A pv d j (by omega) (by omega) hjK, ← hx, HBT.out])
        clear hlt hj hbd hbr hx hxb hroom hkw hBt hbl heq hjK hal3
        go_wp2_with fail
        refine CT.out.mono ?_
        rintro e wz hpp
        obtain ⟨rfl, hp2, hp3⟩ := id hpp
        have HB2 := Lib.hid (BufSt.two (wr := wr) HRM.out hpp)
        have HK2 := Lib.hid (show Kp W1 wz from grown_kp HBRR.out hp3 HKW.out HG2.out)
        clear hpp hp2 hp3 cx CT
        go_wp2_with fail
        go_roundg (K - (j + 1))
        case measure => have := HLT.out; omega
        case rel => exact ⟨j + 1, rfl, by have := HLT.out; omega, int_eq (by omega), by rw [HTB.out]; exact HB2.out, HK2.out⟩
    · have i0 : ¬ 2 + (j : Int) < (K : Int) := by omega
      have ejK : 2 + (j : Int) = (K : Int) := by omega
      have HJ := Lib.hid (show j = K - 2 from by omega)
      have HRM := Lib.hid (show Bt.length + 2 ≤ D from by have := HD.out; omega)
      have HBL := Lib.hid (show Bt.length ≤ 400 from by omega)
      have HBS := Lib.hid (show BufSt g2 D Bt (.int .i64 (Bt.length : Int)) wr from ⟨rfl, hbd, hbr⟩)
      have HFIN := Lib.hid (show tbT A pv d (K - 2) = Bt from by rw [HBT.out, HJ.out])
      rw [ejK]
      clear hlt hj hbd hbr hkw hBt hbl hal3 ejK i0
      have i0 : ¬ (K : Int) < (K : Int) := by omega
      obtain ⟨xl, hxl⟩ : ∃ xl, xl = pv.getD (K - 1) 0 := ⟨_, rfl⟩
      have hxb := HPR.out.at (K - 1) (by rw [HK.out]; omega)
      rw [← hxl] at hxb
      have cl : wr.cell? ⟨g1, K, none⟩ = some (.int .u8 xl) := below_some HKW.out (by
        have h1 := HDAT.out K (by have := HM.out; omega)
        obtain ⟨K0, hK0⟩ : ∃ K0, K = K0 + 1 := ⟨K - 1, by omega⟩
        rw [hK0, List.getD_cons_succ] at h1
        rw [hxl, hK0]
        exact h1)
      have xl0 : 0 ≤ xl := hxb.1
      have xl1 : xl ≤ 99 := hxb.2
      have km : (K : Int) < (m : Int) := by omega
      have HXL := Lib.hid hxl
      have hbr := HBS.out.2.2
      have hll := lastT_len xl
      by_cases h10 : xl % 10 = 0
      · have e10 : (xl % 10 == 0) = true := by simp; omega
        have hl : lastT xl = oneL (xl / 10) := by unfold lastT; rw [if_pos h10]
        rw [hl] at hll
        have CO2 := Lib.hid (one_any g2 g2 D D (D - Bt.length - (oneL (xl / 10)).length) Bt (xl / 10) wr (by rw [show D - Bt.length - (oneL (xl / 10)).length + (oneL (xl / 10)).length = D - Bt.length by have := HRM.out; omega]; exact hbr) (by omega) (by omega) (by have := HBL.out; have := HD.out; omega))
        have HAP := Lib.hid (fun (w' : World) (v : Value) (e : Ending) (hp : PutPost wr g2 g2 D D (Bt ++ oneL (xl / 10)) (D - Bt.length - (oneL (xl / 10)).length) v e w') => BufSt.app (by have := HRM.out; omega) hp)
        have HLT := Lib.hid hl
        have HBRR := Lib.hid hbr
        obtain ⟨a2, ha2⟩ : ∃ a2, a2 = (oneL (xl / 10)).length := ⟨_, rfl⟩
        have HA2 := Lib.hid ha2
        have a20 : (1 : Int) ≤ (a2 : Int) := by omega
        have a21 : (a2 : Int) ≤ 2 := by omega
        have xq0 : 0 ≤ xl / 10 := by omega
        rw [← ha2] at CO2 HAP
        have bb : (Bt.length : Int) + (a2 : Int) ≤ (D : Int) := by have := HRM.out; omega
        have ebl : (Bt.length : Int) + (a2 : Int) = ((Bt ++ oneL (xl / 10)).length : Int) := by rw [List.length_append, ← ha2]; omega
        obtain ⟨fl, hfl⟩ : ∃ fl, fl = (Bt ++ oneL (xl / 10)).length := ⟨_, rfl⟩
        rw [← hfl] at ebl
        have HFL := Lib.hid hfl
        have fl0 : (fl : Int) ≤ (D : Int) := by omega
        clear hxl hxb hbr hll h10 hl ha2 hfl
        go_wp2_with fail
        refine CO2.out.mono ?_
        rintro e wz hpp
        obtain ⟨rfl, hp2, hp3⟩ := id hpp
        have HB2 := Lib.hid (HAP.out _ _ _ hpp)
        have HK2 := Lib.hid (show Kp W1 wz from grown_kp HBRR.out hp3 HKW.out HG2.out)
        clear hpp hp2 hp3 cl CO2
        go_wp2_with fail
        go_ret2
        exact HPT.out _ wz (by rw [HFIN.out, ← HXL.out, HLT.out]; exact HB2.out) HK2.out _ (by rw [HFIN.out, ← HXL.out, HLT.out, HFL.out])
      · have e10 : (xl % 10 == 0) = false := by simp; omega
        have hl : lastT xl = two xl := by unfold lastT; rw [if_neg h10]
        rw [hl] at hll
        have CT2 := Lib.hid (two_any g2 g2 D D (D - Bt.length - 2) Bt xl wr (by rw [show D - Bt.length - 2 + 2 = D - Bt.length by have := HRM.out; omega]; exact hbr) xl0 xl1 (by have := HBL.out; have := HD.out; omega))
        have HLT := Lib.hid hl
        have HBRR := Lib.hid hbr
        have xq : 0 ≤ xl % 10 := by omega
        have b2 : (Bt.length : Int) + 2 ≤ (D : Int) := by have := HRM.out; omega
        obtain ⟨fl, hfl⟩ : ∃ fl, fl = (Bt ++ two xl).length := ⟨_, rfl⟩
        have ebl : (Bt.length : Int) + 2 = (fl : Int) := by rw [hfl, List.length_append]; simp [two]
        have HFL := Lib.hid hfl
        have fl0 : (fl : Int) ≤ (D : Int) := by omega
        clear hxl hxb hbr hll h10 hl hfl
        go_wp2_with fail
        refine CT2.out.mono ?_
        rintro e wz hpp
        obtain ⟨rfl, hp2, hp3⟩ := id hpp
        have HB2 := Lib.hid (BufSt.two (wr := wr) HRM.out hpp)
        have HK2 := Lib.hid (show Kp W1 wz from grown_kp HBRR.out hp3 HKW.out HG2.out)
        clear hpp hp2 hp3 cl CT2
        go_wp2_with fail
        go_ret2
        exact HPT.out _ wz (by rw [HFIN.out, ← HXL.out, HLT.out]; exact HB2.out) HK2.out _ (by rw [HFIN.out, ← HXL.out, HLT.out, HFL.out])
set_option maxRecDepth 100000 in
set_option maxHeartbeats 4000000 in
theorem toBytes_in1_true (g n c K P : Nat) (pv : List Int) (w : World) (h : NumIs w g n true (P : Int) pv) (hp : Pairs pv) (hK : pv.length = K)  (hnc : n ≤ c) (d : Nat) (hd : d = P + 1) (hdK : d < K) (hd1 : d = 1) :
    Calls Tryd.prog 136 #[.slice (some ⟨g, 0, none⟩) n c] w (TxtPost (innerT true pv d) w) := by
  have hK1 : 1 ≤ K := by have := hp.2.1; omega
  have hK2 : K ≤ 20 := by have := hp.2.2.1; omega
  have hn : 2 ≤ n := by
    rw [h.1]
    unfold numB
    simp only [List.length_cons, List.length_append, List.length_map]
    omega
  have h0 : w.cell? ⟨g, 0, none⟩ = some (.int .u8 (62 - (P : Int))) := h.head
  have C1 := Lib.hid (isZero_no g n c _ w h0 (by omega) hn)
  have C2 := Lib.hid (isPosInf_no g n c _ w h0 (by omega) hn)
  have C3 := Lib.hid (isNegInf_no g n c _ w h0 hn)
  have C4 := Lib.hid (isValid_any g n c true (P : Int) pv w h hp (by omega) (by omega) hnc)
  have C5 := Lib.hid (fromLnx_any g n c true (P : Int) pv w h hp (by omega) (by omega) hnc)
  have C6 := Lib.hid (fun w1 (hk : Kp w w1) => isPositive_any g n c true (P : Int) pv w1 (h.kp hk) hp (by omega) (by omega))
  have HPR := Lib.hid hp
  have HK := Lib.hid hK
  have HT := Lib.hid (show innerT true pv d = tbT ((if true then [45] else []) ++ oneL (pv.getD 0 0)) pv d (K - 2) ++ lastT (pv.getD (K - 1) 0) from by unfold innerT; rw [hK])
  generalize innerT true pv d = T at HT ⊢
  obtain ⟨D, hD⟩ : ∃ D, D = 2 * (K + 1) := ⟨_, rfl⟩
  have HD := Lib.hid hD
  have dl : 2 * ((K : Int) + 1) = (D : Int) := by omega
  have hmk := run_make_bytes .i64 .i64 D D (Nat.le_refl _) (by omega)
  obtain ⟨kk, hkk⟩ : ∃ kk : Int, kk = (P : Int) - ((K : Int) - 1) := ⟨_, rfl⟩
  have q0 : (P : Int) - ((K : Int) - 1) = kk := hkk.symm
  have kneg : kk < 0 := by omega
  have klow : -20 ≤ kk := by omega
  have kd : (K : Int) + kk = (d : Int) := by omega
  have p0 : (0 : Int) ≤ (P : Int) := by omega
  have p1 : (P : Int) ≤ 60 := by omega
  have k1 : (1 : Int) ≤ (K : Int) := by omega
  have k2 : (K : Int) ≤ 20 := by omega
  have d0 : (3 : Int) ≤ (D : Int) := by omega
  have d1 : (D : Int) ≤ 123 := by omega
  have dd0 : (0 : Int) < (d : Int) := by omega
  have dd1 : (d : Int) < (K : Int) := by omega
  have HDK := Lib.hid hdK
  have HD1 := Lib.hid hd1
  have e1 : ((d : Int) == 1) = true := by simp; omega
  clear h hp hnc hn h0 hD hkk hK1 hK2 hd hdK hd1
  go_enter Tryd.func136, Tryd.ntmps136
  go_wp2_with fail
  refine C1.out.mono ?_
  rintro e w1 ⟨rfl, rfl⟩
  clear C1
  go_wp2_with fail
  refine C2.out.mono ?_
  rintro e w1 ⟨rfl, rfl⟩
  clear C2
  go_wp2_with fail
  refine C3.out.mono ?_
  rintro e w1 ⟨rfl, rfl⟩
  clear C3
  go_wp2_with fail
  refine C4.out.mono ?_
  rintro e w1 ⟨rfl, rfl⟩
  clear C4
  go_wp2_with fail
  refine C5.out.mono ?_
  rintro e W1 ⟨g1, rfl, hrow, hk1⟩
  clear C5
  have HK1 := Lib.hid hk1
  obtain ⟨m, hm⟩ : ∃ m, m = 1 + pv.length := ⟨_, rfl⟩
  rw [← hm] at hrow ⊢
  have hpw : powB (P : Int) = (P : Int) := by unfold powB; rw [if_pos (by omega)]
  rw [hpw] at hrow
  have HDAT := Lib.hid (fun i (hi : i < m) => own_cell hrow i hi)
  have c0 : W1.cell? ⟨g1, 0, none⟩ = some (.int .u8 ((P : Int))) := HDAT.out 0 (by omega)
  have m0 : (2 : Int) ≤ (m : Int) := by omega
  have m1 : (m : Int) - 1 = (K : Int) := by omega
  have HM := Lib.hid (show m = 1 + K from by omega)
  clear hk1 hrow hpw hm
  go_wp2_with fail
  generalize hX : W1.alloc (.cells (zeroA D) 5) = X
  obtain ⟨g2, hg2⟩ : ∃ g2, g2 = W1.heap.size := ⟨_, rfl⟩
  have HROW := Lib.hid (show RowAt X g2 g2 D D (fillL [] D) from by rw [hg2, ← hX]; exact own_start W1 D (by omega))
  have HKX := Lib.hid (show Kp W1 X from hX ▸ (Kp.refl W1).alloc _)
  have HG2 := Lib.hid (show W1.heap.size ≤ g2 from by rw [hg2]; exact Nat.le_refl _)
  rw [← hg2]
  clear hX hg2 c0
  refine (C6.out X (HK1.out.trans HKX.out)).mono ?_
  rintro e wx ⟨rfl, rfl⟩
  clear C6
  have hb0 : BufSt g2 D ([] : List Int) (.int .i64 0) X := ⟨rfl, Nat.zero_le _, HROW.out⟩
  obtain ⟨z, c0⟩ := hb0.cell 0 (by have := HD.out; omega)
  have f0 := hb0.frozen 0
  obtain ⟨hb1, hg1⟩ := hb0.put (by simp; have := HD.out; omega) 45
  have HB1 := Lib.hid hb1
  have HKS := Lib.hid (hb0.kp hg1 HKX.out HG2.out)
  clear hb0 hb1 hg1
  obtain ⟨p1, hp1⟩ : ∃ p1, p1 = pv.getD 0 0 := ⟨_, rfl⟩
  have HP1 := Lib.hid hp1
  have hpb := HPR.out.at 0 (by have := HPR.out.2.1; omega)
  rw [← hp1] at hpb
  have c1 : (X.setCell ⟨g2, 0, none⟩ (.int .u8 45)).cell? ⟨g1, 1, none⟩ = some (.int .u8 p1) := below_some HKS.out (by rw [hp1]; exact HDAT.out 1 (by have := HM.out; omega))
  have ho := oneL_len p1
  have CO := Lib.hid (one_any g2 g2 D D (D - 1 - (oneL p1).length) ([45] : List Int) p1 (X.setCell ⟨g2, 0, none⟩ (.int .u8 45)) (by
    have h1 := HB1.out.2.2
    rw [show D - 1 - (oneL p1).length + (oneL p1).length = D - 1 by have := HD.out; omega]
    exact h1) hpb.1 hpb.2 (by simp))
  clear hp1 hpb
  go_wp2_with fail
  obtain ⟨A, hA⟩ : ∃ A, A = ([45] : List Int) ++ oneL p1 := ⟨_, rfl⟩
  have hAl : A.length = 1 + (oneL p1).length := by rw [hA]; simp; omega
  have HPT := Lib.hid (show ∀ (s : Value) (wr : World), BufSt g2 D (tbT A pv d (K - 2) ++ lastT (pv.getD (K - 1) 0)) s wr → Kp W1 wr → ∀ L : Nat, (tbT A pv d (K - 2) ++ lastT (pv.getD (K - 1) 0)).length = L → TxtPost T w (.returned (.tuple #[.slice (some ⟨g2, 0, none⟩) L D, .nilIface])) wr from fun s wr hb hk L hL => by
    subst hL
    have ht : T = tbT A pv d (K - 2) ++ lastT (pv.getD (K - 1) 0) := by rw [HT.out, hA, HP1.out]; rfl
    subst ht
    exact ⟨g2, D, rfl, hb.text, hb.2.1, HK1.out.trans hk⟩)
  have HA := Lib.hid hA
  have HO := Lib.hid ho
  obtain ⟨a, ha⟩ : ∃ a, a = (oneL p1).length := ⟨_, rfl⟩
  have HAA := Lib.hid ha
  have a0 : (1 : Int) ≤ (a : Int) := by omega
  have a1 : (a : Int) ≤ 2 := by omega
  rw [← ha] at CO hAl
  obtain ⟨al, hal⟩ : ∃ al, al = 1 + a := ⟨_, rfl⟩
  have ea : 1 + (a : Int) = (al : Int) := by omega
  rw [← hal] at hAl
  have al3 : (al : Int) ≤ 3 := by omega
  have HALA := Lib.hid hal
  clear hal
  have HAL := Lib.hid hAl
  clear hA hAl ho ha
  go_wp2_with fail
  refine CO.out.mono ?_
  rintro e wy ⟨rfl, hrow2, hgr⟩
  have hKY : Kp W1 wy := grown_kp HB1.out.2.2 hgr HKS.out HG2.out
  have hBY : BufSt g2 D A (.int .i64 (A.length : Int)) wy := ⟨rfl, by have := HAL.out; have := HD.out; have := HO.out; have := HAA.out; have := HALA.out; omega, by
    rw [show D - A.length = D - 1 - a by have := HAL.out; have := HAA.out; have := HALA.out; omega, HA.out]
    exact hrow2⟩
  obtain ⟨z1, y1⟩ := hBY.cell al (by have := HD.out; omega)
  have y2 := hBY.frozen al
  obtain ⟨hb1, hg1⟩ := hBY.put (by have := HAL.out; have := HD.out; omega) 46
  have hk2 := hBY.kp hg1 hKY HG2.out
  rw [HAL.out] at hb1 hk2
  have HKY := Lib.hid hk2
  have hd1 : d = 1 := HD1.out
  have HBY := Lib.hid (show BufSt g2 D (tbT A pv d 0) (.int .i64 ((al : Int) + 1)) (wy.setCell ⟨g2, al, none⟩ (.int .u8 46)) from by rw [hd1, tb_one]; exact hb1)
  have al0 : (0 : Int) ≤ (al : Int) := by omega
  have al1 : (al : Int) < (D : Int) := by omega
  clear hrow2 hgr CO c1 hKY hBY hb1 hg1 hk2 hd1
  go_wp2_with fail
  go_loopg [11, 4] K (fun G s11 s4 wr => ∃ j : Nat, K - j = G ∧ j + 2 ≤ K ∧ s11 = .int .i64 (2 + (j : Int)) ∧ BufSt g2 D (tbT A pv d j) s4 wr ∧ Kp W1 wr)
  case atStart => exact ⟨0, rfl, by omega, rfl, HBY.out, HKY.out⟩
  case round =>
    obtain ⟨j, rfl, hj, rfl, hbs, hkw⟩ := hrel
    have HKW := Lib.hid hkw
    obtain ⟨Bt, hBt⟩ : ∃ Bt, Bt = tbT A pv d j := ⟨_, rfl⟩
    have hbl : Bt.length ≤ A.length + 2 * j + 1 := by rw [hBt]; exact tb_len A pv d j (by omega)
    have hal3 : A.length ≤ 3 := by have := HAL.out; omega
    rw [← hBt] at hbs
    obtain ⟨hs4, hbd, hbr⟩ := hbs
    subst hs4
    have HBT := Lib.hid hBt
    have l0 : (Bt.length : Int) ≤ (D : Int) := by omega
    by_cases hlt : j + 2 < K
    · have i0 : 2 + (j : Int) < (K : Int) := by omega
      have i1 : (2 + (j : Int)).toNat = 2 + j := by omega
      have i2 : 2 + (j : Int) < (m : Int) := by omega
      have hroom : Bt.length + 3 ≤ D := by have := HD.out; omega
      have l3 : (Bt.length : Int) + 3 ≤ (D : Int) := by omega
      have l2n : ((Bt.length : Int) + 2).toNat = Bt.length + 2 := by omega
      obtain ⟨x, hx⟩ : ∃ x, x = pv.getD (1 + j) 0 := ⟨_, rfl⟩
      have hxb := HPR.out.at (1 + j) (by rw [HK.out]; omega)
      rw [← hx] at hxb
      have cx : wr.cell? ⟨g1, 2 + j, none⟩ = some (.int .u8 x) := below_some hkw (by
        have h1 := HDAT.out (2 + j) (by have := HM.out; omega)
        rw [show 2 + j = (1 + j) + 1 by omega] at h1 ⊢
        rw [List.getD_cons_succ] at h1
        rw [hx]
        exact h1)
      have CT := Lib.hid (two_any g2 g2 D D (D - Bt.length - 2) Bt x wr (by rw [show D - Bt.length - 2 + 2 = D - Bt.length by omega]; exact hbr) hxb.1 hxb.2 (by have := HD.out; omega))
      have HRM := Lib.hid (show Bt.length + 2 ≤ D from by omega)
      have HRM3 := Lib.hid hroom
      have HLT := Lib.hid hlt
      have HBRR := Lib.hid hbr
      have hjK : 1 + j < pv.length := by rw [HK.out]; omega
      by_cases heq : 2 + j = d
      · have ed : ((d : Int) == 2 + (j : Int)) = true := by simp; omega
        have HTB := Lib.hid (show tbT A pv d (j + 1) = Bt ++ two x ++ [46] from by rw [tb_eq A pv d j heq hjK, ← hx, HBT.out])
        clear hlt hj hbd hbr hx hxb hroom hkw hBt hbl heq hjK hal3
        go_wp2_with fail
        refine CT.out.mono ?_
        rintro e wz hpp
        obtain ⟨rfl, hp2, hp3⟩ := id hpp
        have hB2 := BufSt.two (wr := wr) HRM.out hpp
        have hK2 : Kp W1 wz := grown_kp HBRR.out hp3 HKW.out HG2.out
        have h2l : (Bt ++ two x).length = Bt.length + 2 := by simp [two]
        obtain ⟨z1, y1⟩ := hB2.cell (Bt.length + 2) (by have := HRM3.out; omega)
        have y2 := hB2.frozen (Bt.length + 2)
        obtain ⟨hb3, hg3⟩ := hB2.put (by rw [h2l]; have := HRM3.out; omega) 46
        have hk3 := hB2.kp hg3 hK2 HG2.out
        rw [h2l] at hb3 hk3
        have HB3 := Lib.hid hb3
        have HK3 := Lib.hid hk3
        clear hpp hp2 hp3 cx CT hB2 hK2 h2l hb3 hg3 hk3
        go_wp2_with fail
        go_roundg (K - (j + 1))
        case measure => have := HLT.out; omega
        case rel => exact ⟨j + 1, rfl, by have := HLT.out; omega, int_eq (by omega), by rw [HTB.out]; exact ⟨int_eq (by have := HB3.out.1; injection this), HB3.out.2.1, HB3.out.2.2⟩, HK3.out⟩
      · have ed : ((d : Int) == 2 + (j : Int)) = false := by simp; omega
        have HTB := Lib.hid (show tbT A pv d (j + 1) = Bt ++ two x from by
          rcases Nat.lt_or_ge (2 + j) d with h | h
          · rw [tb_lo A pv d j h hjK, ← hx, HBT.out]
          · rw [tb_hi A pv d j (by omega) (by omega) hjK, ← hx, HBT.out])
        clear hlt hj hbd hbr hx hxb hroom hkw hBt hbl heq hjK hal3
        go_wp2_with fail
        refine CT.out.mono ?_
        rintro e wz hpp
        obtain ⟨rfl, hp2, hp3⟩ := id hpp
        have HB2 := Lib.hid (BufSt.two (wr := wr) HRM.out hpp)
        have HK2 := Lib.hid (show Kp W1 wz from grown_kp HBRR.out hp3 HKW.out HG2.out)
        clear hpp hp2 hp3 cx CT
        go_wp2_with fail
        go_roundg (K - (j + 1))
        case measure => have := HLT.out; omega
        case rel => exact ⟨j + 1, rfl, by have := HLT.out; omega, int_eq (by omega), by rw [HTB.out]; exact HB2.out, HK2.out⟩
    · have i0 : ¬ 2 + (j : Int) < (K : Int) := by omega
      have ejK : 2 + (j : Int) = (K : Int) := by omega
      have HJ := Lib.hid (show j = K - 2 from by omega)
      have HRM := Lib.hid (show Bt.length + 2 ≤ D from by have := HD.out; omega)
      have HBL := Lib.hid (show Bt.length ≤ 400 from by omega)
      have HBS := Lib.hid (show BufSt g2 D Bt (.int .i64 (Bt.length : Int)) wr from ⟨rfl, hbd, hbr⟩)
      have HFIN := Lib.hid (show tbT A pv d (K - 2) = Bt from by rw [HBT.out, HJ.out])
      rw [ejK]
      clear hlt hj hbd hbr hkw hBt hbl hal3 ejK i0
      have i0 : ¬ (K : Int) < (K : Int) := by omega
      obtain ⟨xl, hxl⟩ : ∃ xl, xl = pv.getD (K - 1) 0 := ⟨_, rfl⟩
      have hxb := HPR.out.at (K - 1) (by rw [HK.out]; omega)
      rw [← hxl] at hxb
      have cl : wr.cell? ⟨g1, K, none⟩ = some (.int .u8 xl) := below_some HKW.out (by
        have h1 := HDAT.out K (by have := HM.out; omega)
        obtain ⟨K0, hK0⟩ : ∃ K0, K = K0 + 1 := ⟨K - 1, by omega⟩
        rw [hK0, List.getD_cons_succ] at h1
        rw [hxl, hK0]
        exact h1)
      have xl0 : 0 ≤ xl := hxb.1
      have xl1 : xl ≤ 99 := hxb.2
      have km : (K : Int) < (m : Int) := by omega
      have HXL := Lib.hid hxl
      have hbr := HBS.out.2.2
      have hll := lastT_len xl
      by_cases h10 : xl % 10 = 0
      · have e10 : (xl % 10 == 0) = true := by simp; omega
        have hl : lastT xl = oneL (xl / 10) := by unfold lastT; rw [if_pos h10]
        rw [hl] at hll
        have CO2 := Lib.hid (one_any g2 g2 D D (D - Bt.length - (oneL (xl / 10)).length) Bt (xl / 10) wr (by rw [show D - Bt.length - (oneL (xl / 10)).length + (oneL (xl / 10)).length = D - Bt.length by have := HRM.out; omega]; exact hbr) (by omega) (by omega) (by have := HBL.out; have := HD.out; omega))
        have HAP := Lib.hid (fun (w' : World) (v : Value) (e : Ending) (hp : PutPost wr g2 g2 D D (Bt ++ oneL (xl / 10)) (D - Bt.length - (oneL (xl / 10)).length) v e w') => BufSt.app (by have := HRM.out; omega) hp)
        have HLT := Lib.hid hl
        have HBRR := Lib.hid hbr
        obtain ⟨a2, ha2⟩ : ∃ a2, a2 = (oneL (xl / 10)).length := ⟨_, rfl⟩
        have HA2 := Lib.hid ha2
        have a20 : (1 : Int) ≤ (a2 : Int) := by omega
        have a21 : (a2 : Int) ≤ 2 := by omega
        have xq0 : 0 ≤ xl / 10 := by omega
        rw [← ha2] at CO2 HAP
        have bb : (Bt.length : Int) + (a2 : Int) ≤ (D : Int) := by have := HRM.out; omega
        have ebl : (Bt.length : Int) + (a2 : Int) = ((Bt ++ oneL (xl / 10)).length : Int) := by rw [List.length_append, ← ha2]; omega
        obtain ⟨fl, hfl⟩ : ∃ fl, fl = (Bt ++ oneL (xl / 10)).length := ⟨_, rfl⟩
        rw [← hfl] at ebl
        have HFL := Lib.hid hfl
        have fl0 : (fl : Int) ≤ (D : Int) := by omega
        clear hxl hxb hbr hll h10 hl ha2 hfl
        go_wp2_with fail
        refine CO2.out.mono ?_
        rintro e wz hpp
        obtain ⟨rfl, hp2, hp3⟩ := id hpp
        have HB2 := Lib.hid (HAP.out _ _ _ hpp)
        have HK2 := Lib.hid (show Kp W1 wz from grown_kp HBRR.out hp3 HKW.out HG2.out)
        clear hpp hp2 hp3 cl CO2
        go_wp2_with fail
        go_ret2
        exact HPT.out _ wz (by rw [HFIN.out, ← HXL.out, HLT.out]; exact HB2.out) HK2.out _ (by rw [HFIN.out, ← HXL.out, HLT.out, HFL.out])
      · have e10 : (xl % 10 == 0) = false := by simp; omega
        have hl : lastT xl = two xl := by unfold lastT; rw [if_neg h10]
        rw [hl] at hll
        have CT2 := Lib.hid (two_any g2 g2 D D (D - Bt.length - 2) Bt xl wr (by rw [show D - Bt.length - 2 + 2 = D - Bt.length by have := HRM.out; omega]; exact hbr) xl0 xl1 (by have := HBL.out; have := HD.out; omega))
        have HLT := Lib.hid hl
        have HBRR := Lib.hid hbr
        have xq : 0 ≤ xl % 10 := by omega
        have b2 : (Bt.length : Int) + 2 ≤ (D : Int) := by have := HRM.out; omega
        obtain ⟨fl, hfl⟩ : ∃ fl, fl = (Bt ++ two xl).length := ⟨_, rfl⟩
        have ebl : (Bt.length : Int) + 2 = (fl : Int) := by rw [hfl, List.length_append]; simp [two]
        have HFL := Lib.hid hfl
        have fl0 : (fl : Int) ≤ (D : Int) := by omega
        clear hxl hxb hbr hll h10 hl hfl
        go_wp2_with fail
        refine CT2.out.mono ?_
        rintro e wz hpp
        obtain ⟨rfl, hp2, hp3⟩ := id hpp
        have HB2 := Lib.hid (BufSt.two (wr := wr) HRM.out hpp)
        have HK2 := Lib.hid (show Kp W1 wz from grown_kp HBRR.out hp3 HKW.out HG2.out)
        clear hpp hp2 hp3 cl CT2
        go_wp2_with fail
        go_ret2
        exact HPT.out _ wz (by rw [HFIN.out, ← HXL.out, HLT.out]; exact HB2.out) HK2.out _ (by rw [HFIN.out, ← HXL.out, HLT.out, HFL.out])
set_option maxRecDepth 100000 in
set_option maxHeartbeats 4000000 in
theorem toBytes_in2_true (g n c K P : Nat) (pv : List Int) (w : World) (h : NumIs w g n true (P : Int) pv) (hp : Pairs pv) (hK : pv.length = K)  (hnc : n ≤ c) (d : Nat) (hd : d = P + 1) (hdK : d < K) (hd1 : 2 ≤ d) :
    Calls Tryd.prog 136 #[.slice (some ⟨g, 0, none⟩) n c] w (TxtPost (innerT true pv d) w) := by
  have hK1 : 1 ≤ K := by have := hp.2.1; omega
  have hK2 : K ≤ 20 := by have := hp.2.2.1; omega
  have hn : 2 ≤ n := by
    rw [h.1]
    unfold numB
    simp only [List.length_cons, List.length_append, List.length_map]
    omega
  have h0 : w.cell? ⟨g, 0, none⟩ = some (.int .u8 (62 - (P : Int))) := h.head
  have C1 := Lib.hid (isZero_no g n c _ w h0 (by omega) hn)
  have C2 := Lib.hid (isPosInf_no g n c _ w h0 (by omega) hn)
  have C3 := Lib.hid (isNegInf_no g n c _ w h0 hn)
  have C4 := Lib.hid (isValid_any g n c true (P : Int) pv w h hp (by omega) (by omega) hnc)
  have C5 := Lib.hid (fromLnx_any g n c true (P : Int) pv w h hp (by omega) (by omega) hnc)
  have C6 := Lib.hid (fun w1 (hk : Kp w w1) => isPositive_any g n c true (P : Int) pv w1 (h.kp hk) hp (by omega) (by omega))
  have HPR := Lib.hid hp
  have HK := Lib.hid hK
  have HT := Lib.hid (show innerT true pv d = tbT ((if true then [45] else []) ++ oneL (pv.getD 0 0)) pv d (K - 2) ++ lastT (pv.getD (K - 1) 0) from by unfold innerT; rw [hK])
  generalize innerT true pv d = T at HT ⊢
  obtain ⟨D, hD⟩ : ∃ D, D = 2 * (K + 1) := ⟨_, rfl⟩
  have HD := Lib.hid hD
  have dl : 2 * ((K : Int) + 1) = (D : Int) := by omega
  have hmk := run_make_bytes .i64 .i64 D D (Nat.le_refl _) (by omega)
  obtain ⟨kk, hkk⟩ : ∃ kk : Int, kk = (P : Int) - ((K : Int) - 1) := ⟨_, rfl⟩
  have q0 : (P : Int) - ((K : Int) - 1) = kk := hkk.symm
  have kneg : kk < 0 := by omega
  have klow : -20 ≤ kk := by omega
  have kd : (K : Int) + kk = (d : Int) := by omega
  have p0 : (0 : Int) ≤ (P : Int) := by omega
  have p1 : (P : Int) ≤ 60 := by omega
  have k1 : (1 : Int) ≤ (K : Int) := by omega
  have k2 : (K : Int) ≤ 20 := by omega
  have d0 : (3 : Int) ≤ (D : Int) := by omega
  have d1 : (D : Int) ≤ 123 := by omega
  have dd0 : (0 : Int) < (d : Int) := by omega
  have dd1 : (d : Int) < (K : Int) := by omega
  have HDK := Lib.hid hdK
  have HD1 := Lib.hid hd1
  have e1 : ((d : Int) == 1) = false := by simp; omega
  clear h hp hnc hn h0 hD hkk hK1 hK2 hd hdK hd1
  go_enter Tryd.func136, Tryd.ntmps136
  go_wp2_with fail
  refine C1.out.mono ?_
  rintro e w1 ⟨rfl, rfl⟩
  clear C1
  go_wp2_with fail
  refine C2.out.mono ?_
  rintro e w1 ⟨rfl, rfl⟩
  clear C2
  go_wp2_with fail
  refine C3.out.mono ?_
  rintro e w1 ⟨rfl, rfl⟩
  clear C3
  go_wp2_with fail
  refine C4.out.mono ?_
  rintro e w1 ⟨rfl, rfl⟩
  clear C4
  go_wp2_with fail
  refine C5.out.mono ?_
  rintro e W1 ⟨g1, rfl, hrow, hk1⟩
  clear C5
  have HK1 := Lib.hid hk1
  obtain ⟨m, hm⟩ : ∃ m, m = 1 + pv.length := ⟨_, rfl⟩
  rw [← hm] at hrow ⊢
  have hpw : powB (P : Int) = (P : Int) := by unfold powB; rw [if_pos (by omega)]
  rw [hpw] at hrow
  have HDAT := Lib.hid (fun i (hi : i < m) => own_cell hrow i hi)
  have c0 : W1.cell? ⟨g1, 0, none⟩ = some (.int .u8 ((P : Int))) := HDAT.out 0 (by omega)
  have m0 : (2 : Int) ≤ (m : Int) := by omega
  have m1 : (m : Int) - 1 = (K : Int) := by omega
  have HM := Lib.hid (show m = 1 + K from by omega)
  clear hk1 hrow hpw hm
  go_wp2_with fail
  generalize hX : W1.alloc (.cells (zeroA D) 5) = X
  obtain ⟨g2, hg2⟩ : ∃ g2, g2 = W1.heap.size := ⟨_, rfl⟩
  have HROW := Lib.hid (show RowAt X g2 g2 D D (fillL [] D) from by rw [hg2, ← hX]; exact own_start W1 D (by omega))
  have HKX := Lib.hid (show Kp W1 X from hX ▸ (Kp.refl W1).alloc _)
  have HG2 := Lib.hid (show W1.heap.size ≤ g2 from by rw [hg2]; exact Nat.le_refl _)
  rw [← hg2]
  clear hX hg2 c0
  refine (C6.out X (HK1.out.trans HKX.out)).mono ?_
  rintro e wx ⟨rfl, rfl⟩
  clear C6
  have hb0 : BufSt g2 D ([] : List Int) (.int .i64 0) X := ⟨rfl, Nat.zero_le _, HROW.out⟩
  obtain ⟨z, c0⟩ := hb0.cell 0 (by have := HD.out; omega)
  have f0 := hb0.frozen 0
  obtain ⟨hb1, hg1⟩ := hb0.put (by simp; have := HD.out; omega) 45
  have HB1 := Lib.hid hb1
  have HKS := Lib.hid (hb0.kp hg1 HKX.out HG2.out)
  clear hb0 hb1 hg1
  obtain ⟨p1, hp1⟩ : ∃ p1, p1 = pv.getD 0 0 := ⟨_, rfl⟩
  have HP1 := Lib.hid hp1
  have hpb := HPR.out.at 0 (by have := HPR.out.2.1; omega)
  rw [← hp1] at hpb
  have c1 : (X.setCell ⟨g2, 0, none⟩ (.int .u8 45)).cell? ⟨g1, 1, none⟩ = some (.int .u8 p1) := below_some HKS.out (by rw [hp1]; exact HDAT.out 1 (by have := HM.out; omega))
  have ho := oneL_len p1
  have CO := Lib.hid (one_any g2 g2 D D (D - 1 - (oneL p1).length) ([45] : List Int) p1 (X.setCell ⟨g2, 0, none⟩ (.int .u8 45)) (by
    have h1 := HB1.out.2.2
    rw [show D - 1 - (oneL p1).length + (oneL p1).length = D - 1 by have := HD.out; omega]
    exact h1) hpb.1 hpb.2 (by simp))
  clear hp1 hpb
  go_wp2_with fail
  obtain ⟨A, hA⟩ : ∃ A, A = ([45] : List Int) ++ oneL p1 := ⟨_, rfl⟩
  have hAl : A.length = 1 + (oneL p1).length := by rw [hA]; simp; omega
  have HPT := Lib.hid (show ∀ (s : Value) (wr : World), BufSt g2 D (tbT A pv d (K - 2) ++ lastT (pv.getD (K - 1) 0)) s wr → Kp W1 wr → ∀ L : Nat, (tbT A pv d (K - 2) ++ lastT (pv.getD (K - 1) 0)).length = L → TxtPost T w (.returned (.tuple #[.slice (some ⟨g2, 0, none⟩) L D, .nilIface])) wr from fun s wr hb hk L hL => by
    subst hL
    have ht : T = tbT A pv d (K - 2) ++ lastT (pv.getD (K - 1) 0) := by rw [HT.out, hA, HP1.out]; rfl
    subst ht
    exact ⟨g2, D, rfl, hb.text, hb.2.1, HK1.out.trans hk⟩)
  have HA := Lib.hid hA
  have HO := Lib.hid ho
  obtain ⟨a, ha⟩ : ∃ a, a = (oneL p1).length := ⟨_, rfl⟩
  have HAA := Lib.hid ha
  have a0 : (1 : Int) ≤ (a : Int) := by omega
  have a1 : (a : Int) ≤ 2 := by omega
  rw [← ha] at CO hAl
  obtain ⟨al, hal⟩ : ∃ al, al = 1 + a := ⟨_, rfl⟩
  have ea : 1 + (a : Int) = (al : Int) := by omega
  rw [← hal] at hAl
  have al3 : (al : Int) ≤ 3 := by omega
  have HALA := Lib.hid hal
  clear hal
  have HAL := Lib.hid hAl
  clear hA hAl ho ha
  go_wp2_with fail
  refine CO.out.mono ?_
  rintro e wy ⟨rfl, hrow2, hgr⟩
  have hKY : Kp W1 wy := grown_kp HB1.out.2.2 hgr HKS.out HG2.out
  have hBY : BufSt g2 D A (.int .i64 (A.length : Int)) wy := ⟨rfl, by have := HAL.out; have := HD.out; have := HO.out; have := HAA.out; have := HALA.out; omega, by
    rw [show D - A.length = D - 1 - a by have := HAL.out; have := HAA.out; have := HALA.out; omega, HA.out]
    exact hrow2⟩
  have HKY := Lib.hid hKY
  have HBY := Lib.hid (show BufSt g2 D (tbT A pv d 0) (.int .i64 (al : Int)) wy from by rw [tb_two _ _ _ HD1.out, ← HAL.out]; exact hBY)
  clear hrow2 hgr CO c1 hKY hBY
  go_wp2_with fail
  go_loopg [11, 4] K (fun G s11 s4 wr => ∃ j : Nat, K - j = G ∧ j + 2 ≤ K ∧ s11 = .int .i64 (2 + (j : Int)) ∧ BufSt g2 D (tbT A pv d j) s4 wr ∧ Kp W1 wr)
  case atStart => exact ⟨0, rfl, by omega, rfl, HBY.out, HKY.out⟩
  case round =>
    obtain ⟨j, rfl, hj, rfl, hbs, hkw⟩ := hrel
    have HKW := Lib.hid hkw
    obtain ⟨Bt, hBt⟩ : ∃ Bt, Bt = tbT A pv d j := ⟨_, rfl⟩
    have hbl : Bt.length ≤ A.length + 2 * j + 1 := by rw [hBt]; exact tb_len A pv d j (by omega)
    have hal3 : A.length ≤ 3 := by have := HAL.out; omega
    rw [← hBt] at hbs
    obtain ⟨hs4, hbd, hbr⟩ := hbs
    subst hs4
    have HBT := Lib.hid hBt
    have l0 : (Bt.length : Int) ≤ (D : Int) := by omega
    by_cases hlt : j + 2 < K
    · have i0 : 2 + (j : Int) < (K : Int) := by omega
      have i1 : (2 + (j : Int)).toNat = 2 + j := by omega
      have i2 : 2 + (j : Int) < (m : Int) := by omega
      have hroom : Bt.length + 3 ≤ D := by have := HD.out; omega
      have l3 : (Bt.length : Int) + 3 ≤ (D : Int) := by omega
      have l2n : ((Bt.length : Int) + 2).toNat = Bt.length + 2 := by omega
      obtain ⟨x, hx⟩ : ∃ x, x = pv.getD (1 + j) 0 := ⟨_, rfl⟩
      have hxb := HPR.out.at (1 + j) (by rw [HK.out]; omega)
      rw [← hx] at hxb
      have cx : wr.cell? ⟨g1, 2 + j, none⟩ = some (.int .u8 x) := below_some hkw (by
        have h1 := HDAT.out (2 + j) (by have := HM.out; omega)
        rw [show 2 + j = (1 + j) + 1 by omega] at h1 ⊢
        rw [List.getD_cons_succ] at h1
        rw [hx]
        exact h1)
      have CT := Lib.hid (two_any g2 g2 D D (D - Bt.length - 2) Bt x wr (by rw [show D - Bt.length - 2 + 2 = D - Bt.length by omega]; exact hbr) hxb.1 hxb.2 (by have := HD.out; omega))
      have HRM := Lib.hid (show Bt.length + 2 ≤ D from by omega)
      have HRM3 := Lib.hid hroom
      have HLT := Lib.hid hlt
      have HBRR := Lib.hid hbr
      have hjK : 1 + j < pv.length := by rw [HK.out]; omega
      by_cases heq : 2 + j = d
      · have ed : ((d : Int) == 2 + (j : Int)) = true := by simp; omega
        have HTB := Lib.hid (show tbT A pv d (j + 1) = Bt ++ two x ++ [46] from by rw [tb_eq A pv d j heq hjK, ← hx, HBT.out])
        clear hlt hj hbd hbr hx hxb hroom hkw hBt hbl heq hjK hal3
        go_wp2_with fail
        refine CT.out.mono ?_
        rintro e wz hpp
        obtain ⟨rfl, hp2, hp3⟩ := id hpp
        have hB2 := BufSt.two (wr := wr) HRM.out hpp
        have hK2 : Kp W1 wz := grown_kp HBRR.out hp3 HKW.out HG2.out
        have h2l : (Bt ++ two x).length = Bt.length + 2 := by simp [two]
        obtain ⟨z1, y1⟩ := hB2.cell (Bt.length + 2) (by have := HRM3.out; omega)
        have y2 := hB2.frozen (Bt.length + 2)
        obtain ⟨hb3, hg3⟩ := hB2.put (by rw [h2l]; have := HRM3.out; omega) 46
        have hk3 := hB2.kp hg3 hK2 HG2.out
        rw [h2l] at hb3 hk3
        have HB3 := Lib.hid hb3
        have HK3 := Lib.hid hk3
        clear hpp hp2 hp3 cx CT hB2 hK2 h2l hb3 hg3 hk3
        go_wp2_with fail
        go_roundg (K - (j + 1))
        case measure => have := HLT.out; omega
        case rel => exact ⟨j + 1, rfl, by have := HLT.out; omega, int_eq (by omega), by rw [HTB.out]; exact ⟨int_eq (by have := HB3.out.1; injection this), HB3.out.2.1, HB3.out.2.2⟩, HK3.out⟩
      · have ed : ((d : Int) == 2 + (j : Int)) = false := by simp; omega
        have HTB := Lib.hid (show tbT A pv d (j + 1) = Bt ++ two x from by
          rcases Nat.lt_or_ge (2 + j) d with h | h
          · rw [tb_lo A pv d j h hjK, ← hx, HBT.out]
          · rw [tb_hi A pv d j (by omega) (by omega) hjK, ← hx, HBT.out])
        clear hlt hj hbd hbr hx hxb hroom hkw hBt hbl heq hjK hal3
        go_wp2_with fail
        refine CT.out.mono ?_
        rintro e wz hpp
        obtain ⟨rfl, hp2, hp3⟩ := id hpp
        have HB2 := Lib.hid (BufSt.two (wr := wr) HRM.out hpp)
        have HK2 := Lib.hid (show Kp W1 wz from grown_kp HBRR.out hp3 HKW.out HG2.out)
        clear hpp hp2 hp3 cx CT
        go_wp2_with fail
        go_roundg (K - (j + 1))
        case measure => have := HLT.out; omega
        case rel => exact ⟨j + 1, rfl, by have := HLT.out; omega, int_eq (by omega), by rw [HTB.out]; exact HB2.out, HK2.out⟩
    · have i0 : ¬ 2 + (j : Int) < (K : Int) := by omega
      have ejK : 2 + (j : Int) = (K : Int) := by omega
      have HJ := Lib.hid (show j = K - 2 from by omega)
      have HRM := Lib.hid (show Bt.length + 2 ≤ D from by have := HD.out; omega)
      have HBL := Lib.hid (show Bt.length ≤ 400 from by omega)
      have HBS := Lib.hid (show BufSt g2 D Bt (.int .i64 (Bt.length : Int)) wr from ⟨rfl, hbd, hbr⟩)
      have HFIN := Lib.hid (show tbT A pv d (K - 2) = Bt from by rw [HBT.out, HJ.out])
      rw [ejK]
      clear hlt hj hbd hbr hkw hBt hbl hal3 ejK i0
      have i0 : ¬ (K : Int) < (K : Int) := by omega
      obtain ⟨xl, hxl⟩ : ∃ xl, xl = pv.getD (K - 1) 0 := ⟨_, rfl⟩
      have hxb := HPR.out.at (K - 1) (by rw [HK.out]; omega)
      rw [← hxl] at hxb
      have cl : wr.cell? ⟨g1, K, none⟩ = some (.int .u8 xl) := below_some HKW.out (by
        have h1 := HDAT.out K (by have := HM.out; omega)
        obtain ⟨K0, hK0⟩ : ∃ K0, K = K0 + 1 := ⟨K - 1, by omega⟩
        rw [hK0, List.getD_cons_succ] at h1
        rw [hxl, hK0]
        exact h1)
      have xl0 : 0 ≤ xl := hxb.1
      have xl1 : xl ≤ 99 := hxb.2
      have km : (K : Int) < (m : Int) := by omega
      have HXL := Lib.hid hxl
      have hbr := HBS.out.2.2
      have hll := lastT_len xl
      by_cases h10 : xl % 10 = 0
      · have e10 : (xl % 10 == 0) = true := by simp; omega
        have hl : lastT xl = oneL (xl / 10) := by unfold lastT; rw [if_pos h10]
        rw [hl] at hll
        have CO2 := Lib.hid (one_any g2 g2 D D (D - Bt.length - (oneL (xl / 10)).length) Bt (xl / 10) wr (by rw [show D - Bt.length - (oneL (xl / 10)).length + (oneL (xl / 10)).length = D - Bt.length by have := HRM.out; omega]; exact hbr) (by omega) (by omega) (by have := HBL.out; have := HD.out; omega))
        have HAP := Lib.hid (fun (w' : World) (v : Value) (e : Ending) (hp : PutPost wr g2 g2 D D (Bt ++ oneL (xl / 10)) (D - Bt.length - (oneL (xl / 10)).length) v e w') => BufSt.app (by have := HRM.out; omega) hp)
        have HLT := Lib.hid hl
        have HBRR := Lib.hid hbr
        obtain ⟨a2, ha2⟩ : ∃ a2, a2 = (oneL (xl / 10)).length := ⟨_, rfl⟩
        have HA2 := Lib.hid ha2
        have a20 : (1 : Int) ≤ (a2 : Int) := by omega
        have a21 : (a2 : Int) ≤ 2 := by omega
        have xq0 : 0 ≤ xl / 10 := by omega
        rw [← ha2] at CO2 HAP
        have bb : (Bt.length : Int) + (a2 : Int) ≤ (D : Int) := by have := HRM.out; omega
        have ebl : (Bt.length : Int) + (a2 : Int) = ((Bt ++ oneL (xl / 10)).length : Int) := by rw [List.length_append, ← ha2]; omega
        obtain ⟨fl, hfl⟩ : ∃ fl, fl = (Bt ++ oneL (xl / 10)).length := ⟨_, rfl⟩
        rw [← hfl] at ebl
        have HFL := Lib.hid hfl
        have fl0 : (fl : Int) ≤ (D : Int) := by omega
        clear hxl hxb hbr hll h10 hl ha2 hfl
        go_wp2_with fail
        refine CO2.out.mono ?_
        rintro e wz hpp
        obtain ⟨rfl, hp2, hp3⟩ := id hpp
        have HB2 := Lib.hid (HAP.out _ _ _ hpp)
        have HK2 := Lib.hid (show Kp W1 wz from grown_kp HBRR.out hp3 HKW.out HG2.out)
        clear hpp hp2 hp3 cl CO2
        go_wp2_with fail
        go_ret2
        exact HPT.out _ wz (by rw [HFIN.out, ← HXL.out, HLT.out]; exact HB2.out) HK2.out _ (by rw [HFIN.out, ← HXL.out, HLT.out, HFL.out])
      · have e10 : (xl % 10 == 0) = false := by simp; omega
        have hl : lastT xl = two xl := by unfold lastT; rw [if_neg h10]
        rw [hl] at hll
        have CT2 := Lib.hid (two_any g2 g2 D D (D - Bt.length - 2) Bt xl wr (by rw [show D - Bt.length - 2 + 2 = D - Bt.length by have := HRM.out; omega]; exact hbr) xl0 xl1 (by have := HBL.out; have := HD.out; omega))
        have HLT := Lib.hid hl
        have HBRR := Lib.hid hbr
        have xq : 0 ≤ xl % 10 := by omega
        have b2 : (Bt.length : Int) + 2 ≤ (D : Int) := by have := HRM.out; omega
        obtain ⟨fl, hfl⟩ : ∃ fl, fl = (Bt ++ two xl).length := ⟨_, rfl⟩
        have ebl : (Bt.length : Int) + 2 = (fl : Int) := by rw [hfl, List.length_append]; simp [two]
        have HFL := Lib.hid hfl
        have fl0 : (fl : Int) ≤ (D : Int) := by omega
        clear hxl hxb hbr hll h10 hl hfl
        go_wp2_with fail
        refine CT2.out.mono ?_
        rintro e wz hpp
        obtain ⟨rfl, hp2, hp3⟩ := id hpp
        have HB2 := Lib.hid (BufSt.two (wr := wr) HRM.out hpp)
        have HK2 := Lib.hid (show Kp W1 wz from grown_kp HBRR.out hp3 HKW.out HG2.out)
        clear hpp hp2 hp3 cl CT2
        go_wp2_with fail
        go_ret2
        exact HPT.out _ wz (by rw [HFIN.out, ← HXL.out, HLT.out]; exact HB2.out) HK2.out _ (by rw [HFIN.out, ← HXL.out, HLT.out, HFL.out])
set_option maxRecDepth 100000 in
set_option maxHeartbeats 4000000 in
theorem toBytes_lo_false (g n c K q : Nat) (pv : List Int) (w : World) (h : NumIs w g n false (-((q : Int) + 1)) pv) (hp : Pairs pv) (hK : pv.length = K) (hq : q ≤ 40) (hnc : n ≤ c)  :
    Calls Tryd.prog 136 #[.slice (some ⟨g, 0, none⟩) n c] w (TxtPost (smallT false pv q) w) := by
  have hK1 : 1 ≤ K := by have := hp.2.1; omega
  have hK2 : K ≤ 20 := by have := hp.2.2.1; omega
  have hn : 2 ≤ n := by
    rw [h.1]
    unfold numB
    simp only [List.length_cons, List.length_append, List.length_map]
    omega
  have h0 : w.cell? ⟨g, 0, none⟩ = some (.int .u8 (193 + (-((q : Int) + 1)))) := h.head
  have C1 := Lib.hid (isZero_no g n c _ w h0 (by omega) hn)
  have C2 := Lib.hid (isPosInf_no g n c _ w h0 (by omega) hn)
  have C3 := Lib.hid (isNegInf_no g n c _ w h0 hn)
  have C4 := Lib.hid (isValid_any g n c false (-((q : Int) + 1)) pv w h hp (by omega) (by omega) hnc)
  have C5 := Lib.hid (fromLnx_any g n c false (-((q : Int) + 1)) pv w h hp (by omega) (by omega) hnc)
  have C6 := Lib.hid (fun w1 (hk : Kp w w1) => isPositive_any g n c false (-((q : Int) + 1)) pv w1 (h.kp hk) hp (by omega) (by omega))
  have HPR := Lib.hid hp
  have HK := Lib.hid hK
  have HT := Lib.hid (show smallT false pv q = (if false then [45] else []) ++ [48, 46] ++ List.replicate (2 * q) 48 ++ twoL (pv.take (K - 1)) ++ lastT (pv.getD (K - 1) 0) from by unfold smallT; rw [hK])
  generalize smallT false pv q = T at HT ⊢
  obtain ⟨P, hP⟩ : ∃ P : Int, P = -((q : Int) + 1) := ⟨_, rfl⟩
  have HPP := Lib.hid hP
  rw [← hP] at C5
  obtain ⟨D, hD⟩ : ∃ D, D = 2 * (K + (q + 1)) + 3 := ⟨_, rfl⟩
  have HD := Lib.hid hD
  have dl : 2 * ((K : Int) - P) + 3 = (D : Int) := by omega
  have hmk := run_make_bytes .i64 .i64 D D (Nat.le_refl _) (by omega)
  obtain ⟨kk, hkk⟩ : ∃ kk : Int, kk = P - ((K : Int) - 1) := ⟨_, rfl⟩
  have q0 : P - ((K : Int) - 1) = kk := hkk.symm
  have kneg : kk < 0 := by omega
  have klow : -70 ≤ kk := by omega
  obtain ⟨nn, hnn⟩ : ∃ nn : Int, nn = -(q : Int) := ⟨_, rfl⟩
  have kd : (K : Int) + kk = nn := by omega
  have HNN := Lib.hid hnn
  have nn0 : nn ≤ 0 := by omega
  have nn1 : -40 ≤ nn := by omega
  have p0 : P < 0 := by omega
  have p1 : -60 ≤ P := by omega
  have pe : P + 256 - 256 = P := by omega
  have k1 : (1 : Int) ≤ (K : Int) := by omega
  have k2 : (K : Int) ≤ 20 := by omega
  have d0 : (5 : Int) ≤ (D : Int) := by omega
  have d1 : (D : Int) ≤ 200 := by omega
  clear h hp hnc hq hn h0 hD hkk hK1 hK2 hP hnn
  go_enter Tryd.func136, Tryd.ntmps136
  go_wp2_with fail
  refine C1.out.mono ?_
  rintro e w1 ⟨rfl, rfl⟩
  clear C1
  go_wp2_with fail
  refine C2.out.mono ?_
  rintro e w1 ⟨rfl, rfl⟩
  clear C2
  go_wp2_with fail
  refine C3.out.mono ?_
  rintro e w1 ⟨rfl, rfl⟩
  clear C3
  go_wp2_with fail
  refine C4.out.mono ?_
  rintro e w1 ⟨rfl, rfl⟩
  clear C4
  go_wp2_with fail
  refine C5.out.mono ?_
  rintro e W1 ⟨g1, rfl, hrow, hk1⟩
  clear C5
  have HK1 := Lib.hid hk1
  obtain ⟨m, hm⟩ : ∃ m, m = 1 + pv.length := ⟨_, rfl⟩
  rw [← hm] at hrow ⊢
  have hpw : powB P = P + 256 := by unfold powB; rw [if_neg (by omega)]
  rw [hpw] at hrow
  have HDAT := Lib.hid (fun i (hi : i < m) => own_cell hrow i hi)
  have c0 : W1.cell? ⟨g1, 0, none⟩ = some (.int .u8 (P + 256)) := HDAT.out 0 (by omega)
  have m0 : (2 : Int) ≤ (m : Int) := by omega
  have m1 : (m : Int) - 1 = (K : Int) := by omega
  have HM := Lib.hid (show m = 1 + K from by omega)
  clear hk1 hrow hpw hm
  go_wp2_with fail
  generalize hX : W1.alloc (.cells (zeroA D) 5) = X
  obtain ⟨g2, hg2⟩ : ∃ g2, g2 = W1.heap.size := ⟨_, rfl⟩
  have HROW := Lib.hid (show RowAt X g2 g2 D D (fillL [] D) from by rw [hg2, ← hX]; exact own_start W1 D (by omega))
  have HKX := Lib.hid (show Kp W1 X from hX ▸ (Kp.refl W1).alloc _)
  have HG2 := Lib.hid (show W1.heap.size ≤ g2 from by rw [hg2]; exact Nat.le_refl _)
  rw [← hg2]
  clear hX hg2 c0
  refine (C6.out X (HK1.out.trans HKX.out)).mono ?_
  rintro e wx ⟨rfl, rfl⟩
  clear C6
  have hb1 : BufSt g2 D ([] : List Int) (.int .i64 0) X := ⟨rfl, Nat.zero_le _, HROW.out⟩
  have hkx := HKX.out
  obtain ⟨z1, y1⟩ := hb1.cell 0 (by have := HD.out; omega)
  obtain ⟨z2, y2⟩ := hb1.cell 1 (by have := HD.out; omega)
  have y3 := hb1.frozen 0
  have y4 := hb1.frozen 1
  obtain ⟨hb2, hg2⟩ := hb1.put (by simp; have := HD.out; omega) 48
  have hk2 := hb1.kp hg2 hkx HG2.out
  obtain ⟨hb3, hg3⟩ := hb2.put (by simp; have := HD.out; omega) 46
  have hk3 := hb2.kp hg3 hk2 HG2.out
  obtain ⟨A, hA⟩ : ∃ A, A = ([] : List Int) ++ [48] ++ [46] := ⟨_, rfl⟩
  have hAl : A.length = 2 := by rw [hA]; rfl
  rw [← hA] at hb3
  have HB3 := Lib.hid (show BufSt g2 D A (.int .i64 2) ((X.setCell ⟨g2, 0, none⟩ (.int .u8 48)).setCell ⟨g2, 1, none⟩ (.int .u8 46)) from ⟨by rw [hAl]; rfl, hb3.2.1, hb3.2.2⟩)
  have HKY := Lib.hid (show Kp W1 ((X.setCell ⟨g2, 0, none⟩ (.int .u8 48)).setCell ⟨g2, 1, none⟩ (.int .u8 46)) from hk3)
  have HAL := Lib.hid hAl
  have HPT := Lib.hid (show ∀ (s : Value) (wr : World), BufSt g2 D (A ++ List.replicate (2 * q) 48 ++ twoL (pv.take (K - 1)) ++ lastT (pv.getD (K - 1) 0)) s wr → Kp W1 wr → ∀ L : Nat, (A ++ List.replicate (2 * q) 48 ++ twoL (pv.take (K - 1)) ++ lastT (pv.getD (K - 1) 0)).length = L → TxtPost T w (.returned (.tuple #[.slice (some ⟨g2, 0, none⟩) L D, .nilIface])) wr from fun s wr hb hk L hL => by
    subst hL
    have ht : T = A ++ List.replicate (2 * q) 48 ++ twoL (pv.take (K - 1)) ++ lastT (pv.getD (K - 1) 0) := by rw [HT.out, hA]; rfl
    subst ht
    exact ⟨g2, D, rfl, hb.text, hb.2.1, HK1.out.trans hk⟩)
  clear hb1 hb2 hb3 hg2 hg3 hk2 hk3 hkx hA hAl
  go_wp2_with fail
  go_loopg [12, 4] q (fun G s12 s4 wr => ∃ i : Nat, q - i = G ∧ i ≤ q ∧ s12 = .int .i64 (nn + (i : Int)) ∧ BufSt g2 D (A ++ List.replicate (2 * i) 48) s4 wr ∧ Kp W1 wr)
  case atStart => exact ⟨0, rfl, Nat.zero_le _, int_eq (by omega), by simpa using HB3.out, HKY.out⟩
  case round =>
    obtain ⟨i, rfl, hi, rfl, hbs, hkw⟩ := hrel
    have HBI := Lib.hid hbs
    have HKI := Lib.hid hkw
    obtain ⟨Ct, hCt⟩ : ∃ Ct, Ct = A ++ List.replicate (2 * i) 48 := ⟨_, rfl⟩
    have hcl : Ct.length = A.length + 2 * i := by rw [hCt]; simp
    rw [← hCt] at hbs HBI
    have hs4 := hbs.1
    subst hs4
    have l1 : (Ct.length : Int) ≤ (D : Int) := by have := hbs.2.1; omega
    by_cases hlt : i < q
    · have hroom : Ct.length + 2 ≤ D := by have := HAL.out; have := HD.out; omega
      have i1 : nn + (i : Int) < 0 := by have := HNN.out; omega
      have l2 : (Ct.length : Int) + 2 ≤ (D : Int) := by omega
      have l3 : ((Ct.length : Int) + 1).toNat = Ct.length + 1 := by omega
      obtain ⟨z1, y1⟩ := hbs.cell Ct.length (by omega)
      obtain ⟨z2, y2⟩ := hbs.cell (Ct.length + 1) (by omega)
      have y3 := hbs.frozen Ct.length
      have y4 := hbs.frozen (Ct.length + 1)
      obtain ⟨hb1, hg1⟩ := hbs.put (by omega) 48
      obtain ⟨hb2, hg2⟩ := hb1.put (by simp; omega) 48
      have HK2 := Lib.hid (hb1.kp hg2 (hbs.kp hg1 hkw HG2.out) HG2.out)
      have e2 : Ct ++ [48] ++ [48] = A ++ List.replicate (2 * (i + 1)) 48 := by
        rw [hCt, show 2 * (i + 1) = 2 * i + 1 + 1 by omega, List.replicate_succ', List.replicate_succ']
        simp
      rw [e2] at hb2
      have e3 : (Ct ++ [48]).length = Ct.length + 1 := by simp
      rw [e3] at hb2 HK2
      have HB2 := Lib.hid hb2
      have HLT := Lib.hid hlt
      have iq : (i : Int) ≤ 40 := by have := HNN.out; omega
      have in0 : (0 : Int) ≤ (i : Int) := by omega
      clear hb1 hb2 hg1 hg2 hbs hkw hi hCt hcl hlt hroom e2 e3
      go_wp2_with fail
      go_roundg (q - (i + 1))
      case measure => have := HLT.out; omega
      case rel => exact ⟨i + 1, rfl, HLT.out, int_eq (by omega), ⟨int_eq (by have := HB2.out.1; injection this), HB2.out.2.1, HB2.out.2.2⟩, HK2.out⟩
    · have i1 : nn + (i : Int) = 0 := by have := HNN.out; omega
      obtain ⟨A2, hA2⟩ : ∃ A2, A2 = A ++ List.replicate (2 * q) 48 := ⟨_, rfl⟩
      have hCA : Ct = A2 := by rw [hCt, hA2, show i = q by omega]
      subst hCA
      have hcl2 : Ct.length = 2 + 2 * q := by rw [hcl, HAL.out]; omega
      have HCL := Lib.hid hcl2
      rw [← hA2] at HPT
      rw [i1]
      clear hbs hkw hi hCt hcl hlt hA2 hcl2 i1
      obtain ⟨wo, rfl⟩ : ∃ wo : World, wo = wr := ⟨_, rfl⟩
      go_wp2_with fail
      go_loopg [11, 4] K (fun G s11 s4 wr => ∃ j : Nat, K - j = G ∧ j + 1 ≤ K ∧ s11 = .int .i64 (1 + (j : Int)) ∧ BufSt g2 D (Ct ++ twoL (pv.take j)) s4 wr ∧ Kp W1 wr)
      case atStart => exact ⟨0, rfl, by omega, rfl, by simpa [twoL] using HBI.out, HKI.out⟩
      case round =>
      obtain ⟨j, rfl, hj, rfl, hbs, hkw⟩ := hrel
      have HKW := Lib.hid hkw
      obtain ⟨Bt, hBt⟩ : ∃ Bt, Bt = Ct ++ twoL (pv.take j) := ⟨_, rfl⟩
      have hbl : Bt.length = Ct.length + 2 * j := by
        rw [hBt, List.length_append, twoL_len, List.length_take, HK.out]; omega
      rw [← hBt] at hbs
      obtain ⟨hs4, hbd, hbr⟩ := hbs
      subst hs4
      have HBT := Lib.hid hBt
      have l0 : (Bt.length : Int) ≤ (D : Int) := by omega
      by_cases hlt : j + 1 < K
      · have i0 : 1 + (j : Int) < (K : Int) := by omega
        have i1 : (1 + (j : Int)).toNat = 1 + j := by omega
        have i2 : 1 + (j : Int) < (m : Int) := by omega
        have hroom : Bt.length + 2 ≤ D := by have := HD.out; have := HCL.out; omega
        obtain ⟨x, hx⟩ : ∃ x, x = pv.getD j 0 := ⟨_, rfl⟩
        have hxb := HPR.out.at j (by rw [HK.out]; omega)
        rw [← hx] at hxb
        have cx : wr.cell? ⟨g1, 1 + j, none⟩ = some (.int .u8 x) := below_some hkw (by
          have h1 := HDAT.out (1 + j) (by have := HM.out; omega)
          rw [show 1 + j = j + 1 by omega] at h1 ⊢
          rw [List.getD_cons_succ] at h1
          rw [hx]
          exact h1)
        have CT := Lib.hid (two_any g2 g2 D D (D - Bt.length - 2) Bt x wr (by rw [show D - Bt.length - 2 + 2 = D - Bt.length by omega]; exact hbr) hxb.1 hxb.2 (by omega))
        have HTK := Lib.hid (show Ct ++ twoL (pv.take (j + 1)) = Bt ++ two x from by
          rw [take_snoc' pv j (by rw [HK.out]; omega), ← hx, twoL_snoc, ← List.append_assoc, HBT.out])
        have HRM := Lib.hid hroom
        have HLT := Lib.hid hlt
        have HBRR := Lib.hid hbr
        clear hlt hj hbd hbr hx hxb hroom hkw hBt hbl
        go_wp2_with fail
        refine CT.out.mono ?_
        rintro e wz hpp
        obtain ⟨rfl, hp2, hp3⟩ := id hpp
        have HB2 := Lib.hid (BufSt.two (wr := wr) HRM.out hpp)
        have HK2 := Lib.hid (show Kp W1 wz from grown_kp HBRR.out hp3 HKW.out HG2.out)
        clear hpp hp2 hp3 cx CT
        go_wp2_with fail
        go_roundg (K - (j + 1))
        case measure => have := HLT.out; omega
        case rel => exact ⟨j + 1, rfl, by have := HLT.out; omega, int_eq (by omega), by rw [HTK.out]; exact HB2.out, HK2.out⟩
      · have ejK : 1 + (j : Int) = (K : Int) := by omega
        have HRM := Lib.hid (show Bt.length + 2 ≤ D from by have := HD.out; have := HCL.out; omega)
        have HBL := Lib.hid (show Bt.length ≤ 400 from by have := HD.out; omega)
        have HBS := Lib.hid (show BufSt g2 D Bt (.int .i64 (Bt.length : Int)) wr from ⟨rfl, hbd, hbr⟩)
        have HFIN := Lib.hid (show Ct ++ twoL (pv.take (K - 1)) = Bt from by rw [HBT.out, show j = K - 1 by omega])
        rw [ejK]
        clear hlt hj hbd hbr hkw hBt hbl ejK
        have i0 : ¬ (K : Int) < (K : Int) := by omega
        obtain ⟨xl, hxl⟩ : ∃ xl, xl = pv.getD (K - 1) 0 := ⟨_, rfl⟩
        have hxb := HPR.out.at (K - 1) (by rw [HK.out]; omega)
        rw [← hxl] at hxb
        have cl : wr.cell? ⟨g1, K, none⟩ = some (.int .u8 xl) := below_some HKW.out (by
          have h1 := HDAT.out K (by have := HM.out; omega)
          obtain ⟨K0, hK0⟩ : ∃ K0, K = K0 + 1 := ⟨K - 1, by omega⟩
          rw [hK0, List.getD_cons_succ] at h1
          rw [hxl, hK0]
          exact h1)
        have xl0 : 0 ≤ xl := hxb.1
        have xl1 : xl ≤ 99 := hxb.2
        have km : (K : Int) < (m : Int) := by omega
        have HXL := Lib.hid hxl
        have hbr := HBS.out.2.2
        have hll := lastT_len xl
        by_cases h10 : xl % 10 = 0
        · have e10 : (xl % 10 == 0) = true := by simp; omega
          have hl : lastT xl = oneL (xl / 10) := by unfold lastT; rw [if_pos h10]
          rw [hl] at hll
          have CO2 := Lib.hid (one_any g2 g2 D D (D - Bt.length - (oneL (xl / 10)).length) Bt (xl / 10) wr (by rw [show D - Bt.length - (oneL (xl / 10)).length + (oneL (xl / 10)).length = D - Bt.length by have := HRM.out; omega]; exact hbr) (by omega) (by omega) (by have := HBL.out; have := HD.out; omega))
          have HAP := Lib.hid (fun (w' : World) (v : Value) (e : Ending) (hp : PutPost wr g2 g2 D D (Bt ++ oneL (xl / 10)) (D - Bt.length - (oneL (xl / 10)).length) v e w') => BufSt.app (by have := HRM.out; omega) hp)
          have HLT := Lib.hid hl
          have HBRR := Lib.hid hbr
          obtain ⟨a2, ha2⟩ : ∃ a2, a2 = (oneL (xl / 10)).length := ⟨_, rfl⟩
          have HA2 := Lib.hid ha2
          have a20 : (1 : Int) ≤ (a2 : Int) := by omega
          have a21 : (a2 : Int) ≤ 2 := by omega
          have xq0 : 0 ≤ xl / 10 := by omega
          rw [← ha2] at CO2 HAP
          have bb : (Bt.length : Int) + (a2 : Int) ≤ (D : Int) := by have := HRM.out; omega
          have ebl : (Bt.length : Int) + (a2 : Int) = ((Bt ++ oneL (xl / 10)).length : Int) := by rw [List.length_append, ← ha2]; omega
          obtain ⟨fl, hfl⟩ : ∃ fl, fl = (Bt ++ oneL (xl / 10)).length := ⟨_, rfl⟩
          rw [← hfl] at ebl
          have HFL := Lib.hid hfl
          have fl0 : (fl : Int) ≤ (D : Int) := by omega
          clear hxl hxb hbr hll h10 hl ha2 hfl
          go_wp2_with fail
          refine CO2.out.mono ?_
          rintro e wz hpp
          obtain ⟨rfl, hp2, hp3⟩ := id hpp
          have HB2 := Lib.hid (HAP.out _ _ _ hpp)
          have HK2 := Lib.hid (show Kp W1 wz from grown_kp HBRR.out hp3 HKW.out HG2.out)
          clear hpp hp2 hp3 cl CO2
          go_wp2_with fail
          go_ret2
          exact HPT.out _ wz (by rw [HFIN.out, ← HXL.out, HLT.out]; exact HB2.out) HK2.out _ (by rw [HFIN.out, ← HXL.out, HLT.out, HFL.out])
        · have e10 : (xl % 10 == 0) = false := by simp; omega
          have hl : lastT xl = two xl := by unfold lastT; rw [if_neg h10]
          rw [hl] at hll
          have CT2 := Lib.hid (two_any g2 g2 D D (D - Bt.length - 2) Bt xl wr (by rw [show D - Bt.length - 2 + 2 = D - Bt.length by have := HRM.out; omega]; exact hbr) xl0 xl1 (by have := HBL.out; have := HD.out; omega))
          have HLT := Lib.hid hl
          have HBRR := Lib.hid hbr
          have xq : 0 ≤ xl % 10 := by omega
          have b2 : (Bt.length : Int) + 2 ≤ (D : Int) := by have := HRM.out; omega
          obtain ⟨fl, hfl⟩ : ∃ fl, fl = (Bt ++ two xl).length := ⟨_, rfl⟩
          have ebl : (Bt.length : Int) + 2 = (fl : Int) := by rw [hfl, List.length_append]; simp [two]
          have HFL := Lib.hid hfl
          have fl0 : (fl : Int) ≤ (D : Int) := by omega
          clear hxl hxb hbr hll h10 hl hfl
          go_wp2_with fail
          refine CT2.out.mono ?_
          rintro e wz hpp
          obtain ⟨rfl, hp2, hp3⟩ := id hpp
          have HB2 := Lib.hid (BufSt.two (wr := wr) HRM.out hpp)
          have HK2 := Lib.hid (show Kp W1 wz from grown_kp HBRR.out hp3 HKW.out HG2.out)
          clear hpp hp2 hp3 cl CT2
          go_wp2_with fail
          go_ret2
          exact HPT.out _ wz (by rw [HFIN.out, ← HXL.out, HLT.out]; exact HB2.out) HK2.out _ (by rw [HFIN.out, ← HXL.out, HLT.out, HFL.out])
set_option maxRecDepth 100000 in
set_option maxHeartbeats 4000000 in
theorem toBytes_lo_true (g n c K q : Nat) (pv : List Int) (w : World) (h : NumIs w g n true (-((q : Int) + 1)) pv) (hp : Pairs pv) (hK : pv.length = K) (hq : q ≤ 40) (hnc : n ≤ c)  :
    Calls Tryd.prog 136 #[.slice (some ⟨g, 0, none⟩) n c] w (TxtPost (smallT true pv q) w) := by
  have hK1 : 1 ≤ K := by have := hp.2.1; omega
  have hK2 : K ≤ 20 := by have := hp.2.2.1; omega
  have hn : 2 ≤ n := by
    rw [h.1]
    unfold numB
    simp only [List.length_cons, List.length_append, List.length_map]
    omega
  have h0 : w.cell? ⟨g, 0, none⟩ = some (.int .u8 (62 - (-((q : Int) + 1)))) := h.head
  have C1 := Lib.hid (isZero_no g n c _ w h0 (by omega) hn)
  have C2 := Lib.hid (isPosInf_no g n c _ w h0 (by omega) hn)
  have C3 := Lib.hid (isNegInf_no g n c _ w h0 hn)
  have C4 := Lib.hid (isValid_any g n c true (-((q : Int) + 1)) pv w h hp (by omega) (by omega) hnc)
  have C5 := Lib.hid (fromLnx_any g n c true (-((q : Int) + 1)) pv w h hp (by omega) (by omega) hnc)
  have C6 := Lib.hid (fun w1 (hk : Kp w w1) => isPositive_any g n c true (-((q : Int) + 1)) pv w1 (h.kp hk) hp (by omega) (by omega))
  have HPR := Lib.hid hp
  have HK := Lib.hid hK
  have HT := Lib.hid (show smallT true pv q = (if true then [45] else []) ++ [48, 46] ++ List.replicate (2 * q) 48 ++ twoL (pv.take (K - 1)) ++ lastT (pv.getD (K - 1) 0) from by unfold smallT; rw [hK])
  generalize smallT true pv q = T at HT ⊢
  obtain ⟨P, hP⟩ : ∃ P : Int, P = -((q : Int) + 1) := ⟨_, rfl⟩
  have HPP := Lib.hid hP
  rw [← hP] at C5
  obtain ⟨D, hD⟩ : ∃ D, D = 2 * (K + (q + 1)) + 3 := ⟨_, rfl⟩
  have HD := Lib.hid hD
  have dl : 2 * ((K : Int) - P) + 3 = (D : Int) := by omega
  have hmk := run_make_bytes .i64 .i64 D D (Nat.le_refl _) (by omega)
  obtain ⟨kk, hkk⟩ : ∃ kk : Int, kk = P - ((K : Int) - 1) := ⟨_, rfl⟩
  have q0 : P - ((K : Int) - 1) = kk := hkk.symm
  have kneg : kk < 0 := by omega
  have klow : -70 ≤ kk := by omega
  obtain ⟨nn, hnn⟩ : ∃ nn : Int, nn = -(q : Int) := ⟨_, rfl⟩
  have kd : (K : Int) + kk = nn := by omega
  have HNN := Lib.hid hnn
  have nn0 : nn ≤ 0 := by omega
  have nn1 : -40 ≤ nn := by omega
  have p0 : P < 0 := by omega
  have p1 : -60 ≤ P := by omega
  have pe : P + 256 - 256 = P := by omega
  have k1 : (1 : Int) ≤ (K : Int) := by omega
  have k2 : (K : Int) ≤ 20 := by omega
  have d0 : (5 : Int) ≤ (D : Int) := by omega
  have d1 : (D : Int) ≤ 200 := by omega
  clear h hp hnc hq hn h0 hD hkk hK1 hK2 hP hnn
  go_enter Tryd.func136, Tryd.ntmps136
  go_wp2_with fail
  refine C1.out.mono ?_
  rintro e w1 ⟨rfl, rfl⟩
  clear C1
  go_wp2_with fail
  refine C2.out.mono ?_
  rintro e w1 ⟨rfl, rfl⟩
  clear C2
  go_wp2_with fail
  refine C3.out.mono ?_
  rintro e w1 ⟨rfl, rfl⟩
  clear C3
  go_wp2_with fail
  refine C4.out.mono ?_
  rintro e w1 ⟨rfl, rfl⟩
  clear C4
  go_wp2_with fail
  refine C5.out.mono ?_
  rintro e W1 ⟨g1, rfl, hrow, hk1⟩
  clear C5
  have HK1 := Lib.hid hk1
  obtain ⟨m, hm⟩ : ∃ m, m = 1 + pv.length := ⟨_, rfl⟩
  rw [← hm] at hrow ⊢
  have hpw : powB P = P + 256 := by unfold powB; rw [if_neg (by omega)]
  rw [hpw] at hrow
  have HDAT := Lib.hid (fun i (hi : i < m) => own_cell hrow i hi)
  have c0 : W1.cell? ⟨g1, 0, none⟩ = some (.int .u8 (P + 256)) := HDAT.out 0 (by omega)
  have m0 : (2 : Int) ≤ (m : Int) := by omega
  have m1 : (m : Int) - 1 = (K : Int) := by omega
  have HM := Lib.hid (show m = 1 + K from by omega)
  clear hk1 hrow hpw hm
  go_wp2_with fail
  generalize hX : W1.alloc (.cells (zeroA D) 5) = X
  obtain ⟨g2, hg2⟩ : ∃ g2, g2 = W1.heap.size := ⟨_, rfl⟩
  have HROW := Lib.hid (show RowAt X g2 g2 D D (fillL [] D) from by rw [hg2, ← hX]; exact own_start W1 D (by omega))
  have HKX := Lib.hid (show Kp W1 X from hX ▸ (Kp.refl W1).alloc _)
  have HG2 := Lib.hid (show W1.heap.size ≤ g2 from by rw [hg2]; exact Nat.le_refl _)
  rw [← hg2]
  clear hX hg2 c0
  refine (C6.out X (HK1.out.trans HKX.out)).mono ?_
  rintro e wx ⟨rfl, rfl⟩
  clear C6
  have hb0 : BufSt g2 D ([] : List Int) (.int .i64 0) X := ⟨rfl, Nat.zero_le _, HROW.out⟩
  obtain ⟨z, c0⟩ := hb0.cell 0 (by have := HD.out; omega)
  have f0 := hb0.frozen 0
  obtain ⟨hb1, hg1⟩ := hb0.put (by simp; have := HD.out; omega) 45
  have HB1 := Lib.hid hb1
  have HKS := Lib.hid (hb0.kp hg1 HKX.out HG2.out)
  clear hb0 hb1 hg1
  have hb1 : BufSt g2 D ([45] : List Int) (.int .i64 (((0 : Nat) : Int) + 1)) (X.setCell ⟨g2, 0, none⟩ (.int .u8 45)) := HB1.out
  have hkx : Kp W1 (X.setCell ⟨g2, 0, none⟩ (.int .u8 45)) := HKS.out
  obtain ⟨z1, y1⟩ := hb1.cell 1 (by have := HD.out; omega)
  obtain ⟨z2, y2⟩ := hb1.cell 2 (by have := HD.out; omega)
  have y3 := hb1.frozen 1
  have y4 := hb1.frozen 2
  obtain ⟨hb2, hg2⟩ := hb1.put (by simp; have := HD.out; omega) 48
  have hk2 := hb1.kp hg2 hkx HG2.out
  obtain ⟨hb3, hg3⟩ := hb2.put (by simp; have := HD.out; omega) 46
  have hk3 := hb2.kp hg3 hk2 HG2.out
  obtain ⟨A, hA⟩ : ∃ A, A = ([45] : List Int) ++ [48] ++ [46] := ⟨_, rfl⟩
  have hAl : A.length = 3 := by rw [hA]; rfl
  rw [← hA] at hb3
  have HB3 := Lib.hid (show BufSt g2 D A (.int .i64 3) (((X.setCell ⟨g2, 0, none⟩ (.int .u8 45)).setCell ⟨g2, 1, none⟩ (.int .u8 48)).setCell ⟨g2, 2, none⟩ (.int .u8 46)) from ⟨by rw [hAl]; rfl, hb3.2.1, hb3.2.2⟩)
  have HKY := Lib.hid (show Kp W1 (((X.setCell ⟨g2, 0, none⟩ (.int .u8 45)).setCell ⟨g2, 1, none⟩ (.int .u8 48)).setCell ⟨g2, 2, none⟩ (.int .u8 46)) from hk3)
  have HAL := Lib.hid hAl
  have HPT := Lib.hid (show ∀ (s : Value) (wr : World), BufSt g2 D (A ++ List.replicate (2 * q) 48 ++ twoL (pv.take (K - 1)) ++ lastT (pv.getD (K - 1) 0)) s wr → Kp W1 wr → ∀ L : Nat, (A ++ List.replicate (2 * q) 48 ++ twoL (pv.take (K - 1)) ++ lastT (pv.getD (K - 1) 0)).length = L → TxtPost T w (.returned (.tuple #[.slice (some ⟨g2, 0, none⟩) L D, .nilIface])) wr from fun s wr hb hk L hL => by
    subst hL
    have ht : T = A ++ List.replicate (2 * q) 48 ++ twoL (pv.take (K - 1)) ++ lastT (pv.getD (K - 1) 0) := by rw [HT.out, hA]; rfl
    subst ht
    exact ⟨g2, D, rfl, hb.text, hb.2.1, HK1.out.trans hk⟩)
  clear hb1 hb2 hb3 hg2 hg3 hk2 hk3 hkx hA hAl
  go_wp2_with fail
  go_loopg [12, 4] q (fun G s12 s4 wr => ∃ i : Nat, q - i = G ∧ i ≤ q ∧ s12 = .int .i64 (nn + (i : Int)) ∧ BufSt g2 D (A ++ List.replicate (2 * i) 48) s4 wr ∧ Kp W1 wr)
  case atStart => exact ⟨0, rfl, Nat.zero_le _, int_eq (by omega), by simpa using HB3.out, HKY.out⟩
  case round =>
    obtain ⟨i, rfl, hi, rfl, hbs, hkw⟩ := hrel
    have HBI := Lib.hid hbs
    have HKI := Lib.hid hkw
    obtain ⟨Ct, hCt⟩ : ∃ Ct, Ct = A ++ List.replicate (2 * i) 48 := ⟨_, rfl⟩
    have hcl : Ct.length = A.length + 2 * i := by rw [hCt]; simp
    rw [← hCt] at hbs HBI
    have hs4 := hbs.1
    subst hs4
    have l1 : (Ct.length : Int) ≤ (D : Int) := by have := hbs.2.1; omega
    by_cases hlt : i < q
    · have hroom : Ct.length + 2 ≤ D := by have := HAL.out; have := HD.out; omega
      have i1 : nn + (i : Int) < 0 := by have := HNN.out; omega
      have l2 : (Ct.length : Int) + 2 ≤ (D : Int) := by omega
      have l3 : ((Ct.length : Int) + 1).toNat = Ct.length + 1 := by omega
      obtain ⟨z1, y1⟩ := hbs.cell Ct.length (by omega)
      obtain ⟨z2, y2⟩ := hbs.cell (Ct.length + 1) (by omega)
      have y3 := hbs.frozen Ct.length
      have y4 := hbs.frozen (Ct.length + 1)
      obtain ⟨hb1, hg1⟩ := hbs.put (by omega) 48
      obtain ⟨hb2, hg2⟩ := hb1.put (by simp; omega) 48
      have HK2 := Lib.hid (hb1.kp hg2 (hbs.kp hg1 hkw HG2.out) HG2.out)
      have e2 : Ct ++ [48] ++ [48] = A ++ List.replicate (2 * (i + 1)) 48 := by
        rw [hCt, show 2 * (i + 1) = 2 * i + 1 + 1 by omega, List.replicate_succ', List.replicate_succ']
        simp
      rw [e2] at hb2
      have e3 : (Ct ++ [48]).length = Ct.length + 1 := by simp
      rw [e3] at hb2 HK2
      have HB2 := Lib.hid hb2
      have HLT := Lib.hid hlt
      have iq : (i : Int) ≤ 40 := by have := HNN.out; omega
      have in0 : (0 : Int) ≤ (i : Int) := by omega
      clear hb1 hb2 hg1 hg2 hbs hkw hi hCt hcl hlt hroom e2 e3
      go_wp2_with fail
      go_roundg (q - (i + 1))
      case measure => have := HLT.out; omega
      case rel => exact ⟨i + 1, rfl, HLT.out, int_eq (by omega), ⟨int_eq (by have := HB2.out.1; injection this), HB2.out.2.1, HB2.out.2.2⟩, HK2.out⟩
    · have i1 : nn + (i : Int) = 0 := by have := HNN.out; omega
      obtain ⟨A2, hA2⟩ : ∃ A2, A2 = A ++ List.replicate (2 * q) 48 := ⟨_, rfl⟩
      have hCA : Ct = A2 := by rw [hCt, hA2, show i = q by omega]
      subst hCA
      have hcl2 : Ct.length = 3 + 2 * q := by rw [hcl, HAL.out]; omega
      have HCL := Lib.hid hcl2
      rw [← hA2] at HPT
      rw [i1]
      clear hbs hkw hi hCt hcl hlt hA2 hcl2 i1
      obtain ⟨wo, rfl⟩ : ∃ wo : World, wo = wr := ⟨_, rfl⟩
      go_wp2_with fail
      go_loopg [11, 4] K (fun G s11 s4 wr => ∃ j : Nat, K - j = G ∧ j + 1 ≤ K ∧ s11 = .int .i64 (1 + (j : Int)) ∧ BufSt g2 D (Ct ++ twoL (pv.take j)) s4 wr ∧ Kp W1 wr)
      case atStart => exact ⟨0, rfl, by omega, rfl, by simpa [twoL] using HBI.out, HKI.out⟩
      case round =>
      obtain ⟨j, rfl, hj, rfl, hbs, hkw⟩ := hrel
      have HKW := Lib.hid hkw
      obtain ⟨Bt, hBt⟩ : ∃ Bt, Bt = Ct ++ twoL (pv.take j) := ⟨_, rfl⟩
      have hbl : Bt.length = Ct.length + 2 * j := by
        rw [hBt, List.length_append, twoL_len, List.length_take, HK.out]; omega
      rw [← hBt] at hbs
      obtain ⟨hs4, hbd, hbr⟩ := hbs
      subst hs4
      have HBT := Lib.hid hBt
      have l0 : (Bt.length : Int) ≤ (D : Int) := by omega
      by_cases hlt : j + 1 < K
      · have i0 : 1 + (j : Int) < (K : Int) := by omega
        have i1 : (1 + (j : Int)).toNat = 1 + j := by omega
        have i2 : 1 + (j : Int) < (m : Int) := by omega
        have hroom : Bt.length + 2 ≤ D := by have := HD.out; have := HCL.out; omega
        obtain ⟨x, hx⟩ : ∃ x, x = pv.getD j 0 := ⟨_, rfl⟩
        have hxb := HPR.out.at j (by rw [HK.out]; omega)
        rw [← hx] at hxb
        have cx : wr.cell? ⟨g1, 1 + j, none⟩ = some (.int .u8 x) := below_some hkw (by
          have h1 := HDAT.out (1 + j) (by have := HM.out; omega)
          rw [show 1 + j = j + 1 by omega] at h1 ⊢
          rw [List.getD_cons_succ] at h1
          rw [hx]
          exact h1)
        have CT := Lib.hid (two_any g2 g2 D D (D - Bt.length - 2) Bt x wr (by rw [show D - Bt.length - 2 + 2 = D - Bt.length by omega]; exact hbr) hxb.1 hxb.2 (by omega))
        have HTK := Lib.hid (show Ct ++ twoL (pv.take (j + 1)) = Bt ++ two x from by
          rw [take_snoc' pv j (by rw [HK.out]; omega), ← hx, twoL_snoc, ← List.append_assoc, HBT.out])
        have HRM := Lib.hid hroom
        have HLT := Lib.hid hlt
        have HBRR := Lib.hid hbr
        clear hlt hj hbd hbr hx hxb hroom hkw hBt hbl
        go_wp2_with fail
        refine CT.out.mono ?_
        rintro e wz hpp
        obtain ⟨rfl, hp2, hp3⟩ := id hpp
        have HB2 := Lib.hid (BufSt.two (wr := wr) HRM.out hpp)
        have HK2 := Lib.hid (show Kp W1 wz from grown_kp HBRR.out hp3 HKW.out HG2.out)
        clear hpp hp2 hp3 cx CT
        go_wp2_with fail
        go_roundg (K - (j + 1))
        case measure => have := HLT.out; omega
        case rel => exact ⟨j + 1, rfl, by have := HLT.out; omega, int_eq (by omega), by rw [HTK.out]; exact HB2.out, HK2.out⟩
      · have ejK : 1 + (j : Int) = (K : Int) := by omega
        have HRM := Lib.hid (show Bt.length + 2 ≤ D from by have := HD.out; have := HCL.out; omega)
        have HBL := Lib.hid (show Bt.length ≤ 400 from by have := HD.out; omega)
        have HBS := Lib.hid (show BufSt g2 D Bt (.int .i64 (Bt.length : Int)) wr from ⟨rfl, hbd, hbr⟩)
        have HFIN := Lib.hid (show Ct ++ twoL (pv.take (K - 1)) = Bt from by rw [HBT.out, show j = K - 1 by omega])
        rw [ejK]
        clear hlt hj hbd hbr hkw hBt hbl ejK
        have i0 : ¬ (K : Int) < (K : Int) := by omega
        obtain ⟨xl, hxl⟩ : ∃ xl, xl = pv.getD (K - 1) 0 := ⟨_, rfl⟩
        have hxb := HPR.out.at (K - 1) (by rw [HK.out]; omega)
        rw [← hxl] at hxb
        have cl : wr.cell? ⟨g1, K, none⟩ = some (.int .u8 xl) := below_some HKW.out (by
          have h1 := HDAT.out K (by have := HM.out; omega)
          obtain ⟨K0, hK0⟩ : ∃ K0, K = K0 + 1 := ⟨K - 1, by omega⟩
          rw [hK0, List.getD_cons_succ] at h1
          rw [hxl, hK0]
          exact h1)
        have xl0 : 0 ≤ xl := hxb.1
        have xl1 : xl ≤ 99 := hxb.2
        have km : (K : Int) < (m : Int) := by omega
        have HXL := Lib.hid hxl
        have hbr := HBS.out.2.2
        have hll := lastT_len xl
        by_cases h10 : xl % 10 = 0
        · have e10 : (xl % 10 == 0) = true := by simp; omega
          have hl : lastT xl = oneL (xl / 10) := by unfold lastT; rw [if_pos h10]
          rw [hl] at hll
          have CO2 := Lib.hid (one_any g2 g2 D D (D - Bt.length - (oneL (xl / 10)).length) Bt (xl / 10) wr (by rw [show D - Bt.length - (oneL (xl / 10)).length + (oneL (xl / 10)).length = D - Bt.length by have := HRM.out; omega]; exact hbr) (by omega) (by omega) (by have := HBL.out; have := HD.out; omega))
          have HAP := Lib.hid (fun (w' : World) (v : Value) (e : Ending) (hp : PutPost wr g2 g2 D D (Bt ++ oneL (xl / 10)) (D - Bt.length - (oneL (xl / 10)).length) v e w') => BufSt.app (by have := HRM.out; omega) hp)
          have HLT := Lib.hid hl
          have HBRR := Lib.hid hbr
          obtain ⟨a2, ha2⟩ : ∃ a2, a2 = (oneL (xl / 10)).length := ⟨_, rfl⟩
          have HA2 := Lib.hid ha2
          have a20 : (1 : Int) ≤ (a2 : Int) := by omega
          have a21 : (a2 : Int) ≤ 2 := by omega
          have xq0 : 0 ≤ xl / 10 := by omega
          rw [← ha2] at CO2 HAP
          have bb : (Bt.length : Int) + (a2 : Int) ≤ (D : Int) := by have := HRM.out; omega
          have ebl : (Bt.length : Int) + (a2 : Int) = ((Bt ++ oneL (xl / 10)).length : Int) := by rw [List.length_append, ← ha2]; omega
          obtain ⟨fl, hfl⟩ : ∃ fl, fl = (Bt ++ oneL (xl / 10)).length := ⟨_, rfl⟩
          rw [← hfl] at ebl
          have HFL := Lib.hid hfl
          have fl0 : (fl : Int) ≤ (D : Int) := by omega
          clear hxl hxb hbr hll h10 hl ha2 hfl
          go_wp2_with fail
          refine CO2.out.mono ?_
          rintro e wz hpp
          obtain ⟨rfl, hp2, hp3⟩ := id hpp
          have HB2 := Lib.hid (HAP.out _ _ _ hpp)
          have HK2 := Lib.hid (show Kp W1 wz from grown_kp HBRR.out hp3 HKW.out HG2.out)
          clear hpp hp2 hp3 cl CO2
          go_wp2_with fail
          go_ret2
          exact HPT.out _ wz (by rw [HFIN.out, ← HXL.out, HLT.out]; exact HB2.out) HK2.out _ (by rw [HFIN.out, ← HXL.out, HLT.out, HFL.out])
        · have e10 : (xl % 10 == 0) = false := by simp; omega
          have hl : lastT xl = two xl := by unfold lastT; rw [if_neg h10]
          rw [hl] at hll
          have CT2 := Lib.hid (two_any g2 g2 D D (D - Bt.length - 2) Bt xl wr (by rw [show D - Bt.length - 2 + 2 = D - Bt.length by have := HRM.out; omega]; exact hbr) xl0 xl1 (by have := HBL.out; have := HD.out; omega))
          have HLT := Lib.hid hl
          have HBRR := Lib.hid hbr
          have xq : 0 ≤ xl % 10 := by omega
          have b2 : (Bt.length : Int) + 2 ≤ (D : Int) := by have := HRM.out; omega
          obtain ⟨fl, hfl⟩ : ∃ fl, fl = (Bt ++ two xl).length := ⟨_, rfl⟩
          have ebl : (Bt.length : Int) + 2 = (fl : Int) := by rw [hfl, List.length_append]; simp [two]
          have HFL := Lib.hid hfl
          have fl0 : (fl : Int) ≤ (D : Int) := by omega
          clear hxl hxb hbr hll h10 hl hfl
          go_wp2_with fail
          refine CT2.out.mono ?_
          rintro e wz hpp
          obtain ⟨rfl, hp2, hp3⟩ := id hpp
          have HB2 := Lib.hid (BufSt.two (wr := wr) HRM.out hpp)
          have HK2 := Lib.hid (show Kp W1 wz from grown_kp HBRR.out hp3 HKW.out HG2.out)
          clear hpp hp2 hp3 cl CT2
          go_wp2_with fail
          go_ret2
          exact HPT.out _ wz (by rw [HFIN.out, ← HXL.out, HLT.out]; exact HB2.out) HK2.out _ (by rw [HFIN.out, ← HXL.out, HLT.out, HFL.out])
end Go.Proofs.YtcdbnjhkjfimkaaDoor
