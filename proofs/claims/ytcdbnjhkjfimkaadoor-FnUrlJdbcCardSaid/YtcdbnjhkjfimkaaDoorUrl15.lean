/-
  FnUrlJdbc: the law's own walk.
-/
import Derived.Test.YtcdbnjhkjfimkaaDoorUrl14
import Derived.Test.YtcdbnjhkjfimkaaDoorUrl5
namespace Go.Proofs.YtcdbnjhkjfimkaaDoor
open Go Go.RowKit

theorem itoa_nought (w : World) : ItoaAt 0 w := fun w1 _ => (Tryd.strconv_Itoa_small 0 (by omega) w1).mono (by
  rintro e w2 ⟨rfl, rfl⟩
  exact ⟨rfl, Kp.refl _⟩)
set_option maxRecDepth 100000 in
set_option maxHeartbeats 8000000 in
theorem fnUrlJdbc_main (s0 s1 s2 : ByteArray) (w : World) (hu : UTab w) (hsp : spTab w) (h0 : s0.size ≤ 2147483647) (h1 : s1.size ≤ 2147483647) (h2 : s2.size ≤ 2147483647) :
    Calls Tryd.prog 9 #[.string s0, .string s1, .string s2] w fun e w' => e = .returned (.bool true) ∧ Kp w w' := by
  have i0 : (s0.size : Int) ≤ 2147483647 := by omega
  have i1 : (s1.size : Int) ≤ 2147483647 := by omega
  have i2 : (s2.size : Int) ≤ 2147483647 := by omega
  have HU := Lib.hid hu
  have HSP := Lib.hid hsp
  have HM := Lib.hid (And.intro h0 (And.intro h1 h2))
  clear hu hsp h0 h1 h2
  go_enter Tryd.func9, Tryd.ntmps9
  go_wp2_with fail
  generalize hX : w.alloc (.cells #[.string s0, .string s1, .string s2] 9) = X
  obtain ⟨sb, hsb⟩ : ∃ sb, sb = w.heap.size := ⟨_, rfl⟩
  have hB : Blk X sb 9 #[.string s0, .string s1, .string s2] := by rw [hsb, ← hX]; exact Blk.new w _ _
  have HKX := Lib.hid (show Kp w X from hX ▸ (Kp.refl w).alloc _)
  have CSH := Lib.hid (configShort_any sb 3 3 (fun r => if r = 0 then s0 else if r = 1 then s1 else s2) X (fun r hr => by
    rcases (show r = 0 ∨ r = 1 ∨ r = 2 by omega) with rfl | rfl | rfl
    · exact hB.cell 0
    · exact hB.cell 1
    · exact hB.cell 2) (fun r _ => by
    have h1 := HM.out.1
    have h2 := HM.out.2.1
    have h3 := HM.out.2.2
    show (if r = 0 then s0 else if r = 1 then s1 else s2).size ≤ maxLen
    unfold maxLen
    split
    · omega
    · split <;> omega) (by omega))
  have HSE := Lib.hid (show shortL (fun r => if r = 0 then s0 else if r = 1 then s1 else s2) 3 = (decide (s0.size ≤ 300) && decide (s1.size ≤ 300) && decide (s2.size ≤ 300)) from by simp [shortL])
  rw [HSE.out] at CSH
  rw [← hsb]
  clear hX hsb hB
  refine CSH.out.mono ?_
  rintro e wx ⟨rfl, rfl⟩
  clear CSH
  cases hsh : (decide (s0.size ≤ 300) && decide (s1.size ≤ 300) && decide (s2.size ≤ 300))
  · clear hsh
    go_wp2_with fail
    refine (urlAwake_any X (HU.out.kp HKX.out)).mono ?_
    rintro e w2 ⟨rfl, hk2⟩
    have HK2 := Lib.hid (HKX.out.trans hk2)
    clear hk2
    go_wp2_with fail
    go_ret
    exact ⟨rfl, HK2.out⟩
  · have HSZ := Lib.hid (show s0.size ≤ 300 ∧ s1.size ≤ 300 ∧ s2.size ≤ 300 from by
      simp only [Bool.and_eq_true, decide_eq_true_eq] at hsh
      exact ⟨hsh.1.1, hsh.1.2, hsh.2⟩)
    clear hsh
    go_wp2_with fail
    refine (urlParts_any s2 _ HSZ.out.2.2).mono ?_
    rintro e w2 ⟨b, rfl, hb, hk2⟩
    have HK2 := Lib.hid (HKX.out.trans hk2)
    have HB := Lib.hid hb
    clear hk2 hb
    cases b
    · go_wp2_with fail
      refine (urlAwake_any w2 (HU.out.kp HK2.out)).mono ?_
      rintro e w3 ⟨rfl, hk3⟩
      have HK3 := Lib.hid (HK2.out.trans hk3)
      clear hk3
      go_wp2_with fail
      go_ret
      exact ⟨rfl, HK3.out⟩
    · have HPR := Lib.hid (HB.out rfl)
      clear HB
      go_wp2_with fail
      refine (configParts_any s2 w2 HSZ.out.2.2).mono ?_
      rintro e w3 ⟨v, rfl, hrow, hk3⟩
      have HK3 := Lib.hid (HK2.out.trans hk3)
      obtain ⟨g, cap, rfl⟩ : ∃ g cap, v = .slice (some ⟨g, 0, none⟩) ((splitC s2.data.toList).map trimB).length cap := by
        rcases hrow.2 with ⟨_, h⟩ | ⟨g, cap, cur, h, _⟩
        · exact absurd (List.length_eq_zero_iff.1 h) (by simp [splitC_ne])
        · exact ⟨g, cap, h⟩
      rw [List.length_map]
      obtain ⟨n, hn⟩ : ∃ n, n = (splitC s2.data.toList).length := ⟨_, rfl⟩
      rw [← hn]
      have HN := Lib.hid hn
      clear hn hk3 hrow
      by_cases h1 : n = 1
      · subst h1
        go_wp2_with fail
        refine (configPath_any s0 w3 HSZ.out.1).mono ?_
        rintro e w4 ⟨rfl, hk4⟩
        have HK4 := Lib.hid (HK3.out.trans hk4)
        clear hk4
        have u0 : ((escS false s0).size : Int) ≤ 900 := by have := escS_le false s0; have := HSZ.out.1; omega
        obtain ⟨U, hU⟩ : ∃ U, U = escS false s0 := ⟨_, rfl⟩
        rw [← hU] at u0 ⊢
        have HU0 := Lib.hid hU
        clear hU
        go_wp2_with fail
        refine (configPath_any s1 w4 HSZ.out.2.1).mono ?_
        rintro e w5 ⟨rfl, hk5⟩
        have HK5 := Lib.hid (HK4.out.trans hk5)
        clear hk5
        have u1 : ((escS false s1).size : Int) ≤ 900 := by have := escS_le false s1; have := HSZ.out.2.1; omega
        obtain ⟨V, hV⟩ : ∃ V, V = escS false s1 := ⟨_, rfl⟩
        rw [← hV] at u1 ⊢
        have HV0 := Lib.hid hV
        clear hV
        go_wp2_with fail
        refine (itoa_nought w5 w5 (Kp.refl _)).mono ?_
        rintro e w6 ⟨rfl, hk6⟩
        have HK6 := Lib.hid (HK5.out.trans hk6)
        clear hk6
        have hil : ((⟨(Lib.itoa 0).toArray⟩ : ByteArray).size) ≤ 21 := itoa_len 0 (by omega) (by omega)
        obtain ⟨I, hI⟩ : ∃ I : ByteArray, I = ⟨(Lib.itoa 0).toArray⟩ := ⟨_, rfl⟩
        rw [← hI] at hil ⊢
        have HI0 := Lib.hid hI
        have u2 : (I.size : Int) ≤ 21 := by omega
        clear hI hil
        go_wp2_with fail
        refine (configOption_any csK s2 w6 HSZ.out.2.2 (by decide) (by decide +kernel)).mono ?_
        rintro e w7 ⟨v, rfl, hrow, hk7⟩
        have HK7 := Lib.hid (HK6.out.trans hk7)
        obtain ⟨e1, e2⟩ := splitC_trim s2.data.toList HN.out.symm
        rw [e1, List.map_cons, List.map_nil] at hrow
        obtain ⟨O, hO⟩ : ∃ O : ByteArray, O = ⟨(optL csK.data.toList s2.data.toList).toArray⟩ := ⟨_, rfl⟩
        obtain ⟨g2, cap2, rfl⟩ : ∃ g cap, v = .slice (some ⟨g, 0, none⟩) 1 cap := by
          rcases hrow.2 with ⟨_, h⟩ | ⟨g, cap, cur, h, _⟩
          · exact absurd h (by simp)
          · exact ⟨g, cap, h⟩
        have c0 : w7.cell? ⟨g2, 0, none⟩ = some (.string O) := by
          rw [hO]; exact StrRow.at (L := [optL csK.data.toList s2.data.toList]) hrow 0 (by simp)
        have hos : (O.size : Int) ≤ 1000 := by
          have h1 := escS_le true ⟨(trimB s2.data.toList).toArray⟩
          have h2 := trimB_len s2.data.toList
          have h3 : s2.data.toList.length ≤ 300 := HSZ.out.2.2
          have h4 : (⟨(trimB s2.data.toList).toArray⟩ : ByteArray).size = (trimB s2.data.toList).length := by
            show ((trimB s2.data.toList).toArray).size = _
            simp
          have h5 : O.size = (optL csK.data.toList s2.data.toList).length := by
            rw [hO]; show ((optL csK.data.toList s2.data.toList).toArray).size = _; simp
          have h6 : (escS true ⟨(trimB s2.data.toList).toArray⟩).data.toList.length = (escS true ⟨(trimB s2.data.toList).toArray⟩).size := rfl
          have h7 : csK.data.toList.length = 7 := by decide
          rw [optL, List.length_append, List.length_append, h6, h7] at h5
          simp only [List.length_cons, List.length_nil] at h5
          omega
        have HE := Lib.hid (show (headS ⟨#[]⟩ 0 ⟨#[]⟩ s0 s1).data.toList ++ [63] ++ ampL ((splitC (trimB s2.data.toList)).map (optL csK.data.toList)) = (((((((⟨#[111, 114, 97, 99, 108, 101, 58, 47, 47]⟩ : ByteArray) ++ U) ++ ⟨#[58]⟩) ++ V) ++ ⟨#[64, 58]⟩) ++ I) ++ ⟨#[47, 63]⟩ ++ O).data.toList from by
          rw [e2, List.map_cons, List.map_nil, opt_trim, headS, netS_plain ⟨#[]⟩ 0 (by simp), HU0.out, HV0.out, HI0.out, hO]
          simp only [data_add, List.append_assoc]
          rfl)
        have CJ := Lib.hid (jdbc_any s0 s1 s2 w7 (HU.out.kp HK7.out) (HSP.out.kp HK7.out) (itoa_nought w7) HSZ.out.1 HSZ.out.2.1 HSZ.out.2.2 HPR.out.1)
        clear e1 e2 hrow hO hk7
        go_wp2_with fail
        refine CJ.out.mono ?_
        rintro e w8 ⟨X, rfl, hX, hk8⟩
        rw [HE.out] at hX
        have hX2 := Go.WideShapes.bytes_inj hX
        subst hX2
        have HK8 := Lib.hid (HK7.out.trans hk8)
        clear hk8 hX CJ
        go_wp2_with fail
        refine (urlAwake_any w8 (HU.out.kp HK8.out)).mono ?_
        rintro e w9 ⟨rfl, hk9⟩
        have HK9 := Lib.hid (HK8.out.trans hk9)
        clear hk9
        go_wp2_with fail
        go_ret
        exact ⟨rfl, HK9.out⟩
      · have e1 : ((n : Int) == 1) = false := by simp; omega
        have e2 : ((n : Int) != 1) = true := by simp; omega
        go_wp2_with fail
        refine (urlAwake_any w3 (HU.out.kp HK3.out)).mono ?_
        rintro e w4 ⟨rfl, hk4⟩
        have HK4 := Lib.hid (HK3.out.trans hk4)
        clear hk4
        go_wp2_with fail
        go_ret
        exact ⟨rfl, HK4.out⟩
theorem fnUrlJdbc_any (s0 s1 s2 : ByteArray) (w : World) (hu : UTab w) (hsp : spTab w) (h0 : s0.size ≤ maxLen) (h1 : s1.size ≤ maxLen) (h2 : s2.size ≤ maxLen) :
    Calls Tryd.prog 9 #[.string s0, .string s1, .string s2] w fun e w' => e = .returned (.bool true) ∧ Kp w w' := by
  unfold maxLen at h0 h1 h2
  have j0 : (s0.size : Int) ≤ 9223372036854775807 := by omega
  have j1 : (s1.size : Int) ≤ 9223372036854775807 := by omega
  have j2 : (s2.size : Int) ≤ 9223372036854775807 := by omega
  by_cases m0 : s0.size ≤ 2147483647
  · by_cases m1 : s1.size ≤ 2147483647
    · by_cases m2 : s2.size ≤ 2147483647
      · exact fnUrlJdbc_main s0 s1 s2 w hu hsp m0 m1 m2
      · have i0 : (s0.size : Int) ≤ 2147483647 := by omega
        have i1 : (s1.size : Int) ≤ 2147483647 := by omega
        have i2 : (2147483647 : Int) < (s2.size : Int) := by omega
        clear hu hsp h0 h1 h2 m0 m1 m2
        go_enter Tryd.func9, Tryd.ntmps9
        go_wp2_with fail
        go_ret
        exact ⟨rfl, Kp.refl _⟩
    · have i0 : (s0.size : Int) ≤ 2147483647 := by omega
      have i1 : (2147483647 : Int) < (s1.size : Int) := by omega
      clear hu hsp h0 h1 h2 m0 m1
      go_enter Tryd.func9, Tryd.ntmps9
      go_wp2_with fail
      go_ret
      exact ⟨rfl, Kp.refl _⟩
  · have i0 : (2147483647 : Int) < (s0.size : Int) := by omega
    clear hu hsp h0 h1 h2 m0
    go_enter Tryd.func9, Tryd.ntmps9
    go_wp2_with fail
    go_ret
    exact ⟨rfl, Kp.refl _⟩
end Go.Proofs.YtcdbnjhkjfimkaaDoor
