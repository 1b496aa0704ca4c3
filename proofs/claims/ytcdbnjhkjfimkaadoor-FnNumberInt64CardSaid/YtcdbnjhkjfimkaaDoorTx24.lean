/-
  FnNumberInt64: the law's own walk.
-/
import Derived.Test.YtcdbnjhkjfimkaaDoorTx23
import Derived.Test.YtcdbnjhkjfimkaaDoorTx16
namespace Go.Proofs.YtcdbnjhkjfimkaaDoor
open Go Go.RowKit

theorem encL_len (n : Int) (l : List Int) (h0 : -9223372036854775808 ≤ n) (h1 : n ≤ 9223372036854775807) (h : EncL n l) : 1 ≤ l.length ∧ l.length ≤ 12 := by
  by_cases hn : n = 0
  · subst hn
    rw [tens_zero h]
    exact ⟨by simp, by simp⟩
  · obtain ⟨P, K, q, pv, rfl, hp, hK, hq, hP, hV⟩ := enc_pairs n l h0 h1 hn h
    unfold numB
    rw [List.length_cons, List.length_append, List.length_map]
    constructor
    · omega
    · split <;> simp <;> omega
set_option maxRecDepth 100000 in
set_option maxHeartbeats 2000000 in
theorem fnNumberInt64_any (n : Int) (w : World) (ht : Tab w) (wf : (Lit.int .i64 n).wf = true) :
    Calls Tryd.prog 4 #[.int .i64 n] w fun e w' => e = .returned (.bool true) ∧ Kp w w' := by
  have hb : -9223372036854775808 ≤ n ∧ n ≤ 9223372036854775807 := by
    have e1 : IntKind.i64.min = -9223372036854775808 := rfl
    have e2 : IntKind.i64.max = 9223372036854775807 := rfl
    simp [Lit.wf, e1, e2] at wf
    omega
  have C := Lib.hid (numberOf_any n hb.1 hb.2 w ht)
  have CI := Lib.hid (fun w1 (hk : Kp w w1) => numberOfInt_any n hb.1 hb.2 w1 (ht.kp hk))
  have CS := Lib.hid (fun w1 => numberOfSpec_any n hb.1 hb.2 w1)
  have HT := Lib.hid ht
  have HB := Lib.hid hb
  have wn : IntKind.i64.wrap n = n := wrapI_id n hb.1 hb.2
  have b0 : -9223372036854775808 ≤ n := hb.1
  have b1 : n ≤ 9223372036854775807 := hb.2
  clear ht wf hb
  go_enter Tryd.func4, Tryd.ntmps4
  go_wp2_with fail
  refine C.out.mono ?_
  rintro e w1 ⟨v, l, rfl, hown, hk, hl⟩
  have hll := encL_len n l HB.out.1 HB.out.2 hl
  obtain ⟨g, d, rfl, _, _, hin⟩ := own_pos hown hll.1
  have HL := Lib.hid hl
  have HLL := Lib.hid hll
  have HIN := Lib.hid hin
  have HK1 := Lib.hid hk
  clear C hown hk hl hin hll
  go_wp2_with fail
  refine (CS.out w1).mono ?_
  rintro e w2 ⟨v2, l2, rfl, hown, hk, hl2⟩
  obtain rfl : l2 = l := encL_same hl2 HL.out
  obtain ⟨g2, d2, rfl, _, _, hin2⟩ := own_pos hown HLL.out.1
  have HK2 := Lib.hid (HK1.out.trans hk)
  have HIN2 := Lib.hid (bin_kp HIN.out hk)
  have CE := Lib.hid (numberSame_same g 0 g2 0 l2.length d d2 l2 w2 rfl HIN2.out hin2)
  clear hk hown hl2 hin2 CS
  go_wp2_with fail
  refine CE.out.mono ?_
  rintro e w3 ⟨rfl, rfl⟩
  clear CE
  go_wp2_with fail
  refine (CI.out w2 HK2.out).mono ?_
  rintro e w4 ⟨v4, l4, rfl, hown, hk, hl4⟩
  obtain rfl : l4 = l2 := encL_same hl4 HL.out
  obtain ⟨g4, d4, rfl, _, _, hin4⟩ := own_pos hown HLL.out.1
  have HK4 := Lib.hid (HK2.out.trans hk)
  have HIN4 := Lib.hid (bin_kp HIN2.out hk)
  have CE := Lib.hid (numberSame_same g4 0 g 0 l4.length d4 d l4 w4 rfl hin4 HIN4.out)
  clear hk hown hl4 hin4 CI
  go_wp2_with fail
  refine CE.out.mono ?_
  rintro e w5 ⟨rfl, rfl⟩
  clear CE
  go_wp2_with fail
  refine (numberOwn_any (some ⟨g, 0, none⟩) l4.length d l4 w4 HIN4.out rfl (by have := HLL.out.2; omega)).mono ?_
  rintro e w6 ⟨v6, rfl, hown, hk⟩
  obtain ⟨g6, d6, rfl, _, _, hin6⟩ := own_pos hown HLL.out.1
  have HK6 := Lib.hid (HK4.out.trans hk)
  have HIN6 := Lib.hid (bin_kp HIN4.out hk)
  have CN := Lib.hid (numberInt64_of (some ⟨g6, 0, none⟩) l4.length d6 l4 n w6 hin6 rfl HLL.out.1 (by have := HLL.out.2; omega) (i64_enc n l4 HB.out.1 HB.out.2 HL.out))
  clear hk hown hin6
  go_wp2_with fail
  refine CN.out.mono ?_
  rintro e w7 ⟨rfl, hk⟩
  have HK7 := Lib.hid (HK6.out.trans hk)
  have HIN7 := Lib.hid (bin_kp HIN6.out hk)
  clear hk CN
  go_wp2_with fail
  refine (numberOwn_any (some ⟨g, 0, none⟩) l4.length d l4 w7 HIN7.out rfl (by have := HLL.out.2; omega)).mono ?_
  rintro e w8 ⟨v8, rfl, hown, hk⟩
  obtain ⟨g8, d8, rfl, _, _, hin8⟩ := own_pos hown HLL.out.1
  have HK8 := Lib.hid (HK7.out.trans hk)
  have CN := Lib.hid (numberInt_of (some ⟨g8, 0, none⟩) l4.length d8 l4 n w8 hin8 rfl HLL.out.1 (by have := HLL.out.2; omega) (dec_enc n l4 HB.out.1 HB.out.2 HL.out))
  clear hk hown hin8
  go_wp2_with fail
  refine CN.out.mono ?_
  rintro e w9 ⟨rfl, hk⟩
  have HK9 := Lib.hid (HK8.out.trans hk)
  clear hk CN
  go_wp2_with fail
  refine (numberAwake_any w9 (HT.out.kp HK9.out)).mono ?_
  rintro e w10 ⟨rfl, hk⟩
  have HK10 := Lib.hid (HK9.out.trans hk)
  clear hk
  go_wp2_with fail
  go_ret
  exact ⟨rfl, HK10.out⟩
end Go.Proofs.YtcdbnjhkjfimkaaDoor
