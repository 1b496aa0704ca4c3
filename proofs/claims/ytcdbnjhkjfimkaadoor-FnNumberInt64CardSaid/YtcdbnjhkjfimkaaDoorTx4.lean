/-
  toBytes: the text of a number that is an integer.
-/
import Derived.Test.YtcdbnjhkjfimkaaDoorTx2
import Derived.Test.YtcdbnjhkjfimkaaDoorTx3
namespace Go.Proofs.YtcdbnjhkjfimkaaDoor
open Go Go.RowKit

theorem int_eq {a b : Int} (h : a = b) : Value.int .i64 a = Value.int .i64 b := by rw [h]
def TxtPost (T : List Int) (w : World) (e : Ending) (w' : World) : Prop := ∃ g c, e = .returned (.tuple #[.slice (some ⟨g, 0, none⟩) T.length c, .nilIface]) ∧ Lib.BytesIn w' (some ⟨g, 0, none⟩) T.length T ∧ T.length ≤ c ∧ Kp w w'
/-- The row in which a text is built. -/
def BufSt (g D : Nat) (A : List Int) (s : Value) (wr : World) : Prop := s = .int .i64 (A.length : Int) ∧ A.length ≤ D ∧ RowAt wr g g D D (fillL A (D - A.length))
theorem BufSt.two {g D : Nat} {A : List Int} {wr w' : World} {p : Int} {v : Value} {e : Ending} (hl : A.length + 2 ≤ D) (hp : PutPost wr g g D D (A ++ two p) (D - A.length - 2) v e w') : BufSt g D (A ++ two p) (.int .i64 ((A.length : Int) + 2)) w' := by
  obtain ⟨_, h2, _⟩ := hp
  refine ⟨?_, by simp [_root_.Go.Proofs.YtcdbnjhkjfimkaaDoor.two]; omega, ?_⟩
  · simp [_root_.Go.Proofs.YtcdbnjhkjfimkaaDoor.two]
  · rw [show D - (A ++ _root_.Go.Proofs.YtcdbnjhkjfimkaaDoor.two p).length = D - A.length - 2 by simp [_root_.Go.Proofs.YtcdbnjhkjfimkaaDoor.two]; omega]
    exact h2
theorem BufSt.put {g D : Nat} {A : List Int} {s : Value} {wr : World} (h : BufSt g D A s wr) (hl : A.length + 1 ≤ D) (v : Int) : BufSt g D (A ++ [v]) (.int .i64 ((A.length : Int) + 1)) (wr.setCell ⟨g, A.length, none⟩ (.int .u8 v)) ∧ wr.grownBy (wr.setCell ⟨g, A.length, none⟩ (.int .u8 v)) (some g) := by
  obtain ⟨h1, h2⟩ := fill_put (r := D - A.length - 1) (by rw [show D - A.length - 1 + 1 = D - A.length by omega]; exact h.2.2) v A.length rfl
  refine ⟨⟨by simp, by simp; omega, ?_⟩, h2⟩
  rw [show D - (A ++ [v]).length = D - A.length - 1 by simp; omega]
  exact h1
theorem BufSt.cell {g D : Nat} {A : List Int} {s : Value} {wr : World} (h : BufSt g D A s wr) (j : Nat) (hj : j < D) : ∃ z : Int, wr.cell? ⟨g, j, none⟩ = some (.int .u8 z) := ⟨_, own_cell h.2.2 j hj⟩
theorem BufSt.frozen {g D : Nat} {A : List Int} {s : Value} {wr : World} (h : BufSt g D A s wr) (j : Nat) : wr.frozen? ⟨g, j, none⟩ = false := h.2.2.frozenAt j
theorem BufSt.kp {g D : Nat} {A : List Int} {s : Value} {w wr w' : World} (h : BufSt g D A s wr) (hg : wr.grownBy w' (some g)) (hk : Kp w wr) (hb : w.heap.size ≤ g) : Kp w w' := grown_kp h.2.2 hg hk hb
theorem BufSt.text {g D : Nat} {A : List Int} {s : Value} {wr : World} (h : BufSt g D A s wr) : Lib.BytesIn wr (some ⟨g, 0, none⟩) A.length A := by
  have h1 := bin_of_own h.2.2
  have h2 := bin_take h1 (k := A.length) h.2.1
  rw [fill_take] at h2
  exact h2
theorem wholeL_eq (neg : Bool) (P q : Nat) (pv : List Int) (hq : q = P + 1 - pv.length) : wholeL neg P pv = ((if neg then [45] else []) ++ oneL (pv.getD 0 0)) ++ twoL ((pv.drop 1).take (pv.length - 1)) ++ List.replicate (2 * q) 48 := by
  unfold wholeL bodyL
  rw [hq, List.take_of_length_le (by rw [List.length_drop]; exact Nat.le_refl _)]
  simp only [List.append_assoc]
theorem oneL_len (p : Int) : 1 ≤ (oneL p).length ∧ (oneL p).length ≤ 2 := by unfold oneL; split <;> simp [two]

set_option maxRecDepth 100000 in
set_option maxHeartbeats 4000000 in
theorem toBytes_whole_false (g n c K P : Nat) (pv : List Int) (w : World) (h : NumIs w g n false (P : Int) pv) (hp : Pairs pv) (hK : pv.length = K) (hPK : K ≤ P + 1) (hP : P ≤ 60) (hnc : n ≤ c) :
    Calls Tryd.prog 136 #[.slice (some ⟨g, 0, none⟩) n c] w (TxtPost (wholeL false P pv) w) := by
  have hK1 : 1 ≤ K := by have := hp.2.1; omega
  have hK2 : K ≤ 20 := by have := hp.2.2.1; omega
  have hn : 2 ≤ n := by
    rw [h.1]
    unfold numB
    simp only [List.length_cons, List.length_append, List.length_map]
    omega
  have h0 : w.cell? ⟨g, 0, none⟩ = some (.int .u8 (193 + (P : Int))) := h.head
  have C1 := Lib.hid (isZero_no g n c _ w h0 (by omega) hn)
  have C2 := Lib.hid (isPosInf_no g n c _ w h0 (by omega) hn)
  have C3 := Lib.hid (isNegInf_no g n c _ w h0 hn)
  have C4 := Lib.hid (isValid_any g n c false (P : Int) pv w h hp (by omega) (by omega) hnc)
  have C5 := Lib.hid (fromLnx_any g n c false (P : Int) pv w h hp (by omega) (by omega) hnc)
  have C6 := Lib.hid (fun w1 (hk : Kp w w1) => isPositive_any g n c false (P : Int) pv w1 (h.kp hk) hp (by omega) (by omega))
  have HPR := Lib.hid hp
  have HK := Lib.hid hK
  obtain ⟨q, hq⟩ : ∃ q, q = P + 1 - pv.length := ⟨_, rfl⟩
  have HQ := Lib.hid hq
  have HT := Lib.hid (wholeL_eq false P q pv hq)
  generalize wholeL false P pv = T at HT ⊢
  obtain ⟨D, hD⟩ : ∃ D, D = 2 * (P + 1) + 1 := ⟨_, rfl⟩
  have HD := Lib.hid hD
  have dl : 2 * ((P : Int) + 1) + 1 = (D : Int) := by omega
  have hmk := run_make_bytes .i64 .i64 D D (Nat.le_refl _) (by omega)
  have p0 : (0 : Int) ≤ (P : Int) := by omega
  have p1 : (P : Int) ≤ 60 := by omega
  have q0 : (P : Int) - ((K : Int) - 1) = (q : Int) := by omega
  have k1 : (1 : Int) ≤ (K : Int) := by omega
  have k2 : (K : Int) ≤ 20 := by omega
  have d0 : (3 : Int) ≤ (D : Int) := by omega
  have d1 : (D : Int) ≤ 123 := by omega
  have HKQ := Lib.hid (show (P : Int) = (q : Int) + ((K : Int) - 1) from by omega)
  clear h hp hnc hPK hP hn h0 hD hq hK1 hK2
  go_enter Tryd.func136, Tryd.ntmps136
  go_wp2_with fail
  refine C1.out.mono ?_
  rintro e w1 ⟨rfl, rfl⟩
  clear C1
  go_wp2_with fail
  refine C2.out.mono ?_
  rintro e w1 ⟨rfl, rfl⟩
  clear C2
  go_wp2_with fail
  refine C3.out.mono ?_
  rintro e w1 ⟨rfl, rfl⟩
  clear C3
  go_wp2_with fail
  refine C4.out.mono ?_
  rintro e w1 ⟨rfl, rfl⟩
  clear C4
  go_wp2_with fail
  refine C5.out.mono ?_
  rintro e W1 ⟨g1, rfl, hrow, hk1⟩
  clear C5
  have HK1 := Lib.hid hk1
  obtain ⟨m, hm⟩ : ∃ m, m = 1 + pv.length := ⟨_, rfl⟩
  rw [← hm] at hrow ⊢
  have hpw : powB (P : Int) = (P : Int) := by unfold powB; rw [if_pos (by omega)]
  rw [hpw] at hrow
  have HDAT := Lib.hid (fun i (hi : i < m) => own_cell hrow i hi)
  have c0 : W1.cell? ⟨g1, 0, none⟩ = some (.int .u8 (P : Int)) := HDAT.out 0 (by omega)
  have m0 : (2 : Int) ≤ (m : Int) := by omega
  have m1 : (m : Int) - 1 = (K : Int) := by omega
  have HM := Lib.hid (show m = 1 + K from by omega)
  have bge : decide ((0 : Int) ≤ (q : Int)) = true := decide_eq_true (by omega)
  have q1 : (0 : Int) ≤ (q : Int) := by omega
  clear hk1 hrow hpw hm
  go_wp2_with fail
  generalize hX : W1.alloc (.cells (zeroA D) 5) = X
  obtain ⟨g2, hg2⟩ : ∃ g2, g2 = W1.heap.size := ⟨_, rfl⟩
  have HROW := Lib.hid (show RowAt X g2 g2 D D (fillL [] D) from by rw [hg2, ← hX]; exact own_start W1 D (by omega))
  have HKX := Lib.hid (show Kp W1 X from hX ▸ (Kp.refl W1).alloc _)
  have HG2 := Lib.hid (show W1.heap.size ≤ g2 from by rw [hg2]; exact Nat.le_refl _)
  rw [← hg2]
  clear hX hg2 c0
  refine (C6.out X (HK1.out.trans HKX.out)).mono ?_
  rintro e wx ⟨rfl, rfl⟩
  clear C6
  obtain ⟨p1, hp1⟩ : ∃ p1, p1 = pv.getD 0 0 := ⟨_, rfl⟩
  have HP1 := Lib.hid hp1
  have hpb := HPR.out.at 0 (by have := HPR.out.2.1; omega)
  rw [← hp1] at hpb
  have c1 : X.cell? ⟨g1, 1, none⟩ = some (.int .u8 p1) := below_some HKX.out (by rw [hp1]; exact HDAT.out 1 (by have := HM.out; omega))
  have ho := oneL_len p1
  have CO := Lib.hid (one_any g2 g2 D D (D - 0 - (oneL p1).length) ([] : List Int) p1 X (by
    have h1 := HROW.out
    rw [show D - 0 - (oneL p1).length + (oneL p1).length = D - 0 by have := HD.out; omega]
    exact h1) hpb.1 hpb.2 (by simp))
  clear hp1 hpb
  obtain ⟨A, hA⟩ : ∃ A, A = ([] : List Int) ++ oneL p1 := ⟨_, rfl⟩
  have hAl : A.length = 0 + (oneL p1).length := by rw [hA]; simp
  have HPT := Lib.hid (show ∀ (s : Value) (wr : World), BufSt g2 D (A ++ twoL ((pv.drop 1).take (K - 1)) ++ List.replicate (2 * q) 48) s wr → Kp W1 wr → ∀ L : Nat, (A ++ twoL ((pv.drop 1).take (K - 1)) ++ List.replicate (2 * q) 48).length = L → TxtPost T w (.returned (.tuple #[.slice (some ⟨g2, 0, none⟩) L D, .nilIface])) wr from fun s wr hb hk L hL => by
    subst hL
    have ht : T = A ++ twoL ((pv.drop 1).take (K - 1)) ++ List.replicate (2 * q) 48 := by rw [HT.out, hA, HP1.out, HK.out]; rfl
    subst ht
    exact ⟨g2, D, rfl, hb.text, hb.2.1, HK1.out.trans hk⟩)
  have HA := Lib.hid hA
  have HAL := Lib.hid hAl
  have HO := Lib.hid ho
  obtain ⟨a, ha⟩ : ∃ a, a = (oneL p1).length := ⟨_, rfl⟩
  have HAA := Lib.hid ha
  have a0 : (1 : Int) ≤ (a : Int) := by omega
  have a1 : (a : Int) ≤ 2 := by omega
  rw [← ha] at CO
  clear hA hAl ho ha
  go_wp2_with fail
  refine CO.out.mono ?_
  rintro e wy ⟨rfl, hrow2, hgr⟩
  have HKY := Lib.hid (show Kp W1 wy from grown_kp HROW.out hgr HKX.out HG2.out)
  have HBY := Lib.hid (show BufSt g2 D A (.int .i64 (A.length : Int)) wy from ⟨rfl, by have := HAL.out; have := HD.out; have := HO.out; omega, by
    rw [show D - A.length = D - 0 - a by have := HAL.out; have := HAA.out; omega, HA.out]
    exact hrow2⟩)
  clear hrow2 hgr CO c1
  go_wp2_with fail
  go_loopg [11, 7, 4] K (fun G s11 s7 s4 wr => ∃ j : Nat, K - j = G ∧ j + 1 ≤ K ∧ s11 = .int .i64 (2 + (j : Int)) ∧ s7 = .int .i64 ((P : Int) - (j : Int)) ∧ BufSt g2 D (A ++ twoL ((pv.drop 1).take j)) s4 wr ∧ Kp W1 wr)
  case atStart => exact ⟨0, rfl, by omega, rfl, int_eq (by omega), by
    have h1 := HBY.out
    have e : A ++ twoL ((pv.drop 1).take 0) = A := by simp [twoL]
    rw [e]
    exact ⟨int_eq (by have := HAL.out; have := HAA.out; omega), h1.2.1, h1.2.2⟩, HKY.out⟩
  case round =>
    obtain ⟨j, rfl, hj, rfl, rfl, hbs, hkw⟩ := hrel
    have HBS := Lib.hid hbs
    have HKW := Lib.hid hkw
    obtain ⟨Bt, hBt⟩ : ∃ Bt, Bt = A ++ twoL ((pv.drop 1).take j) := ⟨_, rfl⟩
    have hbl : Bt.length = A.length + 2 * j := by
      rw [hBt, List.length_append, twoL_len, List.length_take, List.length_drop, HK.out]
      omega
    rw [← hBt] at hbs HBS
    obtain ⟨hs4, hbd, hbr⟩ := hbs
    subst hs4
    have HBT := Lib.hid hBt
    have HBL := Lib.hid hbl
    have l0 : (Bt.length : Int) ≤ (D : Int) := by omega
    by_cases hlt : j + 1 < K
    · have i0 : 2 + (j : Int) ≤ (K : Int) := by omega
      have i1 : (2 + (j : Int)).toNat = 2 + j := by omega
      have i2 : 2 + (j : Int) < (m : Int) := by omega
      have hroom : Bt.length + 2 ≤ D := by have := HAL.out; have := HO.out; have := HD.out; have := HKQ.out; omega
      obtain ⟨x, hx⟩ : ∃ x, x = pv.getD (1 + j) 0 := ⟨_, rfl⟩
      have hxb := HPR.out.at (1 + j) (by rw [HK.out]; omega)
      rw [← hx] at hxb
      have cx : wr.cell? ⟨g1, 2 + j, none⟩ = some (.int .u8 x) := below_some hkw (by
        have h1 := HDAT.out (2 + j) (by have := HM.out; omega)
        rw [show 2 + j = (1 + j) + 1 by omega] at h1 ⊢
        rw [List.getD_cons_succ] at h1
        rw [hx]
        exact h1)
      have HTK := Lib.hid (show A ++ twoL ((pv.drop 1).take (j + 1)) = Bt ++ two x from by
        have e := take_snoc' (pv.drop 1) j (by rw [List.length_drop, HK.out]; omega)
        have e2 : (pv.drop 1).getD j 0 = x := by rw [hx, List.getD_eq_getElem?_getD, List.getElem?_drop, ← List.getD_eq_getElem?_getD]
        rw [e, e2, twoL_snoc, ← List.append_assoc, HBT.out])
      have CT := Lib.hid (two_any g2 g2 D D (D - Bt.length - 2) Bt x wr (by rw [show D - Bt.length - 2 + 2 = D - Bt.length by omega]; exact hbr) hxb.1 hxb.2 (by omega))
      have HRM := Lib.hid hroom
      have HLT := Lib.hid hlt
      have HBRR := Lib.hid hbr
      clear hlt hj hbd hbr hx hxb hroom hkw hBt hbl
      go_wp2_with fail
      refine CT.out.mono ?_
      rintro e wz hpp
      obtain ⟨rfl, hp2, hp3⟩ := id hpp
      have HB2 := Lib.hid (BufSt.two (wr := wr) HRM.out hpp)
      have HK2 := Lib.hid (show Kp W1 wz from grown_kp HBRR.out hp3 HKW.out HG2.out)
      clear hpp hp2 hp3 cx CT
      go_wp2_with fail
      go_roundg (K - (j + 1))
      case measure => have := HLT.out; omega
      case rel => exact ⟨j + 1, rfl, HLT.out, int_eq (by omega), int_eq (by omega), by rw [HTK.out]; exact HB2.out, HK2.out⟩
    · have i0 : ¬ 2 + (j : Int) ≤ (K : Int) := by omega
      have e7 : (P : Int) - (j : Int) = (q : Int) := by have := HKQ.out; omega
      have HJ := Lib.hid (show j = K - 1 from by omega)
      by_cases hq0 : q = 0
      · have z0 : (q : Int) = 0 := by omega
        have HL := Lib.hid (show A ++ twoL ((pv.drop 1).take (K - 1)) ++ List.replicate (2 * q) 48 = Bt from by
          rw [HBT.out, HJ.out, hq0]
          simp)
        rw [HL.out] at HPT
        clear hlt hj hbd hbr hkw hBt hbl hq0
        go_wp2_with fail
        go_ret2
        exact HPT.out _ wr HBS.out HKW.out _ rfl
      · have z0 : (0 : Int) < (q : Int) := by omega
        rw [e7]
        have HB0 := Lib.hid hbr
        clear hlt hj hbd hbr hkw hq0
        clear hBt hbl e7
        go_wp2_with fail
        go_loopg [7, 4] q (fun G s7 s4 wr => ∃ i : Nat, q - i = G ∧ i ≤ q ∧ s7 = .int .i64 ((q : Int) - (i : Int)) ∧ BufSt g2 D (Bt ++ List.replicate (2 * i) 48) s4 wr ∧ Kp W1 wr)
        case atStart => exact ⟨0, rfl, Nat.zero_le _, int_eq (by omega), by simpa using HBS.out, HKW.out⟩
        case round =>
          obtain ⟨i, rfl, hi, rfl, hbs, hkw⟩ := hrel
          have HBI := Lib.hid hbs
          have HKI := Lib.hid hkw
          obtain ⟨Ct, hCt⟩ : ∃ Ct, Ct = Bt ++ List.replicate (2 * i) 48 := ⟨_, rfl⟩
          have hcl : Ct.length = Bt.length + 2 * i := by rw [hCt]; simp
          rw [← hCt] at hbs HBI
          have hs4 := hbs.1
          subst hs4
          have l1 : (Ct.length : Int) ≤ (D : Int) := by have := hbs.2.1; omega
          by_cases hlt : i < q
          · have hroom : Ct.length + 2 ≤ D := by have := HAL.out; have := HO.out; have := HD.out; have := HKQ.out; have := HBL.out; have := HJ.out; omega
            have i1 : (0 : Int) < (q : Int) - (i : Int) := by omega
            have l2 : (Ct.length : Int) + 2 ≤ (D : Int) := by omega
            have l3 : ((Ct.length : Int) + 1).toNat = Ct.length + 1 := by omega
            obtain ⟨z1, y1⟩ := hbs.cell Ct.length (by omega)
            obtain ⟨z2, y2⟩ := hbs.cell (Ct.length + 1) (by omega)
            have y3 := hbs.frozen Ct.length
            have y4 := hbs.frozen (Ct.length + 1)
            obtain ⟨hb1, hg1⟩ := hbs.put (by omega) 48
            obtain ⟨hb2, hg2⟩ := hb1.put (by simp; omega) 48
            have HK2 := Lib.hid (hb1.kp hg2 (hbs.kp hg1 hkw HG2.out) HG2.out)
            have e2 : Ct ++ [48] ++ [48] = Bt ++ List.replicate (2 * (i + 1)) 48 := by
              rw [hCt, show 2 * (i + 1) = 2 * i + 1 + 1 by omega, List.replicate_succ', List.replicate_succ']
              simp
            rw [e2] at hb2
            have e3 : (Ct ++ [48]).length = Ct.length + 1 := by simp
            rw [e3] at hb2 HK2
            have HB2 := Lib.hid hb2
            have HLT := Lib.hid hlt
            clear hb1 hb2 hg1 hg2 hbs hkw hi hCt hcl hlt hroom e2 e3
            go_wp2_with fail
            go_roundg (q - (i + 1))
            case measure => have := HLT.out; omega
            case rel => exact ⟨i + 1, rfl, HLT.out, int_eq (by omega), ⟨int_eq (by have := HB2.out.1; injection this), HB2.out.2.1, HB2.out.2.2⟩, HK2.out⟩
          · have i1 : (q : Int) - (i : Int) = 0 := by omega
            have HL := Lib.hid (show A ++ twoL ((pv.drop 1).take (K - 1)) ++ List.replicate (2 * q) 48 = Ct from by
              rw [hCt, HBT.out, HJ.out, show i = q by omega])
            rw [HL.out] at HPT
            clear hbs hkw hi hCt hcl hlt
            go_wp2_with fail
            go_ret2
            exact HPT.out _ wr HBI.out HKI.out _ rfl
set_option maxRecDepth 100000 in
set_option maxHeartbeats 4000000 in
theorem toBytes_whole_true (g n c K P : Nat) (pv : List Int) (w : World) (h : NumIs w g n true (P : Int) pv) (hp : Pairs pv) (hK : pv.length = K) (hPK : K ≤ P + 1) (hP : P ≤ 60) (hnc : n ≤ c) :
    Calls Tryd.prog 136 #[.slice (some ⟨g, 0, none⟩) n c] w (TxtPost (wholeL true P pv) w) := by
  have hK1 : 1 ≤ K := by have := hp.2.1; omega
  have hK2 : K ≤ 20 := by have := hp.2.2.1; omega
  have hn : 2 ≤ n := by
    rw [h.1]
    unfold numB
    simp only [List.length_cons, List.length_append, List.length_map]
    omega
  have h0 : w.cell? ⟨g, 0, none⟩ = some (.int .u8 (62 - (P : Int))) := h.head
  have C1 := Lib.hid (isZero_no g n c _ w h0 (by omega) hn)
  have C2 := Lib.hid (isPosInf_no g n c _ w h0 (by omega) hn)
  have C3 := Lib.hid (isNegInf_no g n c _ w h0 hn)
  have C4 := Lib.hid (isValid_any g n c true (P : Int) pv w h hp (by omega) (by omega) hnc)
  have C5 := Lib.hid (fromLnx_any g n c true (P : Int) pv w h hp (by omega) (by omega) hnc)
  have C6 := Lib.hid (fun w1 (hk : Kp w w1) => isPositive_any g n c true (P : Int) pv w1 (h.kp hk) hp (by omega) (by omega))
  have HPR := Lib.hid hp
  have HK := Lib.hid hK
  obtain ⟨q, hq⟩ : ∃ q, q = P + 1 - pv.length := ⟨_, rfl⟩
  have HQ := Lib.hid hq
  have HT := Lib.hid (wholeL_eq true P q pv hq)
  generalize wholeL true P pv = T at HT ⊢
  obtain ⟨D, hD⟩ : ∃ D, D = 2 * (P + 1) + 1 := ⟨_, rfl⟩
  have HD := Lib.hid hD
  have dl : 2 * ((P : Int) + 1) + 1 = (D : Int) := by omega
  have hmk := run_make_bytes .i64 .i64 D D (Nat.le_refl _) (by omega)
  have p0 : (0 : Int) ≤ (P : Int) := by omega
  have p1 : (P : Int) ≤ 60 := by omega
  have q0 : (P : Int) - ((K : Int) - 1) = (q : Int) := by omega
  have k1 : (1 : Int) ≤ (K : Int) := by omega
  have k2 : (K : Int) ≤ 20 := by omega
  have d0 : (3 : Int) ≤ (D : Int) := by omega
  have d1 : (D : Int) ≤ 123 := by omega
  have HKQ := Lib.hid (show (P : Int) = (q : Int) + ((K : Int) - 1) from by omega)
  clear h hp hnc hPK hP hn h0 hD hq hK1 hK2
  go_enter Tryd.func136, Tryd.ntmps136
  go_wp2_with fail
  refine C1.out.mono ?_
  rintro e w1 ⟨rfl, rfl⟩
  clear C1
  go_wp2_with fail
  refine C2.out.mono ?_
  rintro e w1 ⟨rfl, rfl⟩
  clear C2
  go_wp2_with fail
  refine C3.out.mono ?_
  rintro e w1 ⟨rfl, rfl⟩
  clear C3
  go_wp2_with fail
  refine C4.out.mono ?_
  rintro e w1 ⟨rfl, rfl⟩
  clear C4
  go_wp2_with fail
  refine C5.out.mono ?_
  rintro e W1 ⟨g1, rfl, hrow, hk1⟩
  clear C5
  have HK1 := Lib.hid hk1
  obtain ⟨m, hm⟩ : ∃ m, m = 1 + pv.length := ⟨_, rfl⟩
  rw [← hm] at hrow ⊢
  have hpw : powB (P : Int) = (P : Int) := by unfold powB; rw [if_pos (by omega)]
  rw [hpw] at hrow
  have HDAT := Lib.hid (fun i (hi : i < m) => own_cell hrow i hi)
  have c0 : W1.cell? ⟨g1, 0, none⟩ = some (.int .u8 (P : Int)) := HDAT.out 0 (by omega)
  have m0 : (2 : Int) ≤ (m : Int) := by omega
  have m1 : (m : Int) - 1 = (K : Int) := by omega
  have HM := Lib.hid (show m = 1 + K from by omega)
  have bge : decide ((0 : Int) ≤ (q : Int)) = true := decide_eq_true (by omega)
  have q1 : (0 : Int) ≤ (q : Int) := by omega
  clear hk1 hrow hpw hm
  go_wp2_with fail
  generalize hX : W1.alloc (.cells (zeroA D) 5) = X
  obtain ⟨g2, hg2⟩ : ∃ g2, g2 = W1.heap.size := ⟨_, rfl⟩
  have HROW := Lib.hid (show RowAt X g2 g2 D D (fillL [] D) from by rw [hg2, ← hX]; exact own_start W1 D (by omega))
  have HKX := Lib.hid (show Kp W1 X from hX ▸ (Kp.refl W1).alloc _)
  have HG2 := Lib.hid (show W1.heap.size ≤ g2 from by rw [hg2]; exact Nat.le_refl _)
  rw [← hg2]
  clear hX hg2 c0
  refine (C6.out X (HK1.out.trans HKX.out)).mono ?_
  rintro e wx ⟨rfl, rfl⟩
  clear C6
  have hb0 : BufSt g2 D ([] : List Int) (.int .i64 0) X := ⟨rfl, Nat.zero_le _, HROW.out⟩
  obtain ⟨z, c0⟩ := hb0.cell 0 (by have := HD.out; omega)
  have f0 := hb0.frozen 0
  obtain ⟨hb1, hg1⟩ := hb0.put (by simp; have := HD.out; omega) 45
  have HB1 := Lib.hid hb1
  have HKS := Lib.hid (hb0.kp hg1 HKX.out HG2.out)
  clear hb0 hb1 hg1
  obtain ⟨p1, hp1⟩ : ∃ p1, p1 = pv.getD 0 0 := ⟨_, rfl⟩
  have HP1 := Lib.hid hp1
  have hpb := HPR.out.at 0 (by have := HPR.out.2.1; omega)
  rw [← hp1] at hpb
  have c1 : (X.setCell ⟨g2, 0, none⟩ (.int .u8 45)).cell? ⟨g1, 1, none⟩ = some (.int .u8 p1) := below_some HKS.out (by rw [hp1]; exact HDAT.out 1 (by have := HM.out; omega))
  have ho := oneL_len p1
  have CO := Lib.hid (one_any g2 g2 D D (D - 1 - (oneL p1).length) ([45] : List Int) p1 (X.setCell ⟨g2, 0, none⟩ (.int .u8 45)) (by
    have h1 := HB1.out.2.2
    rw [show D - 1 - (oneL p1).length + (oneL p1).length = D - 1 by have := HD.out; omega]
    exact h1) hpb.1 hpb.2 (by simp))
  clear hp1 hpb
  obtain ⟨A, hA⟩ : ∃ A, A = ([45] : List Int) ++ oneL p1 := ⟨_, rfl⟩
  have hAl : A.length = 1 + (oneL p1).length := by rw [hA]; simp; omega
  have HPT := Lib.hid (show ∀ (s : Value) (wr : World), BufSt g2 D (A ++ twoL ((pv.drop 1).take (K - 1)) ++ List.replicate (2 * q) 48) s wr → Kp W1 wr → ∀ L : Nat, (A ++ twoL ((pv.drop 1).take (K - 1)) ++ List.replicate (2 * q) 48).length = L → TxtPost T w (.returned (.tuple #[.slice (some ⟨g2, 0, none⟩) L D, .nilIface])) wr from fun s wr hb hk L hL => by
    subst hL
    have ht : T = A ++ twoL ((pv.drop 1).take (K - 1)) ++ List.replicate (2 * q) 48 := by rw [HT.out, hA, HP1.out, HK.out]; rfl
    subst ht
    exact ⟨g2, D, rfl, hb.text, hb.2.1, HK1.out.trans hk⟩)
  have HA := Lib.hid hA
  have HAL := Lib.hid hAl
  have HO := Lib.hid ho
  obtain ⟨a, ha⟩ : ∃ a, a = (oneL p1).length := ⟨_, rfl⟩
  have HAA := Lib.hid ha
  have a0 : (1 : Int) ≤ (a : Int) := by omega
  have a1 : (a : Int) ≤ 2 := by omega
  rw [← ha] at CO
  clear hA hAl ho ha
  go_wp2_with fail
  refine CO.out.mono ?_
  rintro e wy ⟨rfl, hrow2, hgr⟩
  have HKY := Lib.hid (show Kp W1 wy from grown_kp HB1.out.2.2 hgr HKS.out HG2.out)
  have HBY := Lib.hid (show BufSt g2 D A (.int .i64 (A.length : Int)) wy from ⟨rfl, by have := HAL.out; have := HD.out; have := HO.out; omega, by
    rw [show D - A.length = D - 1 - a by have := HAL.out; have := HAA.out; omega, HA.out]
    exact hrow2⟩)
  clear hrow2 hgr CO c1
  go_wp2_with fail
  go_loopg [11, 7, 4] K (fun G s11 s7 s4 wr => ∃ j : Nat, K - j = G ∧ j + 1 ≤ K ∧ s11 = .int .i64 (2 + (j : Int)) ∧ s7 = .int .i64 ((P : Int) - (j : Int)) ∧ BufSt g2 D (A ++ twoL ((pv.drop 1).take j)) s4 wr ∧ Kp W1 wr)
  case atStart => exact ⟨0, rfl, by omega, rfl, int_eq (by omega), by
    have h1 := HBY.out
    have e : A ++ twoL ((pv.drop 1).take 0) = A := by simp [twoL]
    rw [e]
    exact ⟨int_eq (by have := HAL.out; have := HAA.out; omega), h1.2.1, h1.2.2⟩, HKY.out⟩
  case round =>
    obtain ⟨j, rfl, hj, rfl, rfl, hbs, hkw⟩ := hrel
    have HBS := Lib.hid hbs
    have HKW := Lib.hid hkw
    obtain ⟨Bt, hBt⟩ : ∃ Bt, Bt = A ++ twoL ((pv.drop 1).take j) := ⟨_, rfl⟩
    have hbl : Bt.length = A.length + 2 * j := by
      rw [hBt, List.length_append, twoL_len, List.length_take, List.length_drop, HK.out]
      omega
    rw [← hBt] at hbs HBS
    obtain ⟨hs4, hbd, hbr⟩ := hbs
    subst hs4
    have HBT := Lib.hid hBt
    have HBL := Lib.hid hbl
    have l0 : (Bt.length : Int) ≤ (D : Int) := by omega
    by_cases hlt : j + 1 < K
    · have i0 : 2 + (j : Int) ≤ (K : Int) := by omega
      have i1 : (2 + (j : Int)).toNat = 2 + j := by omega
      have i2 : 2 + (j : Int) < (m : Int) := by omega
      have hroom : Bt.length + 2 ≤ D := by have := HAL.out; have := HO.out; have := HD.out; have := HKQ.out; omega
      obtain ⟨x, hx⟩ : ∃ x, x = pv.getD (1 + j) 0 := ⟨_, rfl⟩
      have hxb := HPR.out.at (1 + j) (by rw [HK.out]; omega)
      rw [← hx] at hxb
      have cx : wr.cell? ⟨g1, 2 + j, none⟩ = some (.int .u8 x) := below_some hkw (by
        have h1 := HDAT.out (2 + j) (by have := HM.out; omega)
        rw [show 2 + j = (1 + j) + 1 by omega] at h1 ⊢
        rw [List.getD_cons_succ] at h1
        rw [hx]
        exact h1)
      have HTK := Lib.hid (show A ++ twoL ((pv.drop 1).take (j + 1)) = Bt ++ two x from by
        have e := take_snoc' (pv.drop 1) j (by rw [List.length_drop, HK.out]; omega)
        have e2 : (pv.drop 1).getD j 0 = x := by rw [hx, List.getD_eq_getElem?_getD, List.getElem?_drop, ← List.getD_eq_getElem?_getD]
        rw [e, e2, twoL_snoc, ← List.append_assoc, HBT.out])
      have CT := Lib.hid (two_any g2 g2 D D (D - Bt.length - 2) Bt x wr (by rw [show D - Bt.length - 2 + 2 = D - Bt.length by omega]; exact hbr) hxb.1 hxb.2 (by omega))
      have HRM := Lib.hid hroom
      have HLT := Lib.hid hlt
      have HBRR := Lib.hid hbr
      clear hlt hj hbd hbr hx hxb hroom hkw hBt hbl
      go_wp2_with fail
      refine CT.out.mono ?_
      rintro e wz hpp
      obtain ⟨rfl, hp2, hp3⟩ := id hpp
      have HB2 := Lib.hid (BufSt.two (wr := wr) HRM.out hpp)
      have HK2 := Lib.hid (show Kp W1 wz from grown_kp HBRR.out hp3 HKW.out HG2.out)
      clear hpp hp2 hp3 cx CT
      go_wp2_with fail
      go_roundg (K - (j + 1))
      case measure => have := HLT.out; omega
      case rel => exact ⟨j + 1, rfl, HLT.out, int_eq (by omega), int_eq (by omega), by rw [HTK.out]; exact HB2.out, HK2.out⟩
    · have i0 : ¬ 2 + (j : Int) ≤ (K : Int) := by omega
      have e7 : (P : Int) - (j : Int) = (q : Int) := by have := HKQ.out; omega
      have HJ := Lib.hid (show j = K - 1 from by omega)
      by_cases hq0 : q = 0
      · have z0 : (q : Int) = 0 := by omega
        have HL := Lib.hid (show A ++ twoL ((pv.drop 1).take (K - 1)) ++ List.replicate (2 * q) 48 = Bt from by
          rw [HBT.out, HJ.out, hq0]
          simp)
        rw [HL.out] at HPT
        clear hlt hj hbd hbr hkw hBt hbl hq0
        go_wp2_with fail
        go_ret2
        exact HPT.out _ wr HBS.out HKW.out _ rfl
      · have z0 : (0 : Int) < (q : Int) := by omega
        rw [e7]
        have HB0 := Lib.hid hbr
        clear hlt hj hbd hbr hkw hq0
        clear hBt hbl e7
        go_wp2_with fail
        go_loopg [7, 4] q (fun G s7 s4 wr => ∃ i : Nat, q - i = G ∧ i ≤ q ∧ s7 = .int .i64 ((q : Int) - (i : Int)) ∧ BufSt g2 D (Bt ++ List.replicate (2 * i) 48) s4 wr ∧ Kp W1 wr)
        case atStart => exact ⟨0, rfl, Nat.zero_le _, int_eq (by omega), by simpa using HBS.out, HKW.out⟩
        case round =>
          obtain ⟨i, rfl, hi, rfl, hbs, hkw⟩ := hrel
          have HBI := Lib.hid hbs
          have HKI := Lib.hid hkw
          obtain ⟨Ct, hCt⟩ : ∃ Ct, Ct = Bt ++ List.replicate (2 * i) 48 := ⟨_, rfl⟩
          have hcl : Ct.length = Bt.length + 2 * i := by rw [hCt]; simp
          rw [← hCt] at hbs HBI
          have hs4 := hbs.1
          subst hs4
          have l1 : (Ct.length : Int) ≤ (D : Int) := by have := hbs.2.1; omega
          by_cases hlt : i < q
          · have hroom : Ct.length + 2 ≤ D := by have := HAL.out; have := HO.out; have := HD.out; have := HKQ.out; have := HBL.out; have := HJ.out; omega
            have i1 : (0 : Int) < (q : Int) - (i : Int) := by omega
            have l2 : (Ct.length : Int) + 2 ≤ (D : Int) := by omega
            have l3 : ((Ct.length : Int) + 1).toNat = Ct.length + 1 := by omega
            obtain ⟨z1, y1⟩ := hbs.cell Ct.length (by omega)
            obtain ⟨z2, y2⟩ := hbs.cell (Ct.length + 1) (by omega)
            have y3 := hbs.frozen Ct.length
            have y4 := hbs.frozen (Ct.length + 1)
            obtain ⟨hb1, hg1⟩ := hbs.put (by omega) 48
            obtain ⟨hb2, hg2⟩ := hb1.put (by simp; omega) 48
            have HK2 := Lib.hid (hb1.kp hg2 (hbs.kp hg1 hkw HG2.out) HG2.out)
            have e2 : Ct ++ [48] ++ [48] = Bt ++ List.replicate (2 * (i + 1)) 48 := by
              rw [hCt, show 2 * (i + 1) = 2 * i + 1 + 1 by omega, List.replicate_succ', List.replicate_succ']
              simp
            rw [e2] at hb2
            have e3 : (Ct ++ [48]).length = Ct.length + 1 := by simp
            rw [e3] at hb2 HK2
            have HB2 := Lib.hid hb2
            have HLT := Lib.hid hlt
            clear hb1 hb2 hg1 hg2 hbs hkw hi hCt hcl hlt hroom e2 e3
            go_wp2_with fail
            go_roundg (q - (i + 1))
            case measure => have := HLT.out; omega
            case rel => exact ⟨i + 1, rfl, HLT.out, int_eq (by omega), ⟨int_eq (by have := HB2.out.1; injection this), HB2.out.2.1, HB2.out.2.2⟩, HK2.out⟩
          · have i1 : (q : Int) - (i : Int) = 0 := by omega
            have HL := Lib.hid (show A ++ twoL ((pv.drop 1).take (K - 1)) ++ List.replicate (2 * q) 48 = Ct from by
              rw [hCt, HBT.out, HJ.out, show i = q by omega])
            rw [HL.out] at HPT
            clear hbs hkw hi hCt hcl hlt
            go_wp2_with fail
            go_ret2
            exact HPT.out _ wr HBI.out HKI.out _ rfl
end Go.Proofs.YtcdbnjhkjfimkaaDoor
