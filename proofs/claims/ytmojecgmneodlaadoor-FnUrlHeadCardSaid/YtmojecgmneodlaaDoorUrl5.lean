/-
  FnUrlHead: the law's own walk.
-/
import Derived.Test.YtmojecgmneodlaaDoorUrl4
namespace Go.Proofs.YtmojecgmneodlaaDoor
open Go Go.RowKit

set_option maxRecDepth 100000 in
set_option maxHeartbeats 8000000 in
theorem fnUrlHead_main (s0 s2 s3 s4 : ByteArray) (p : Int) (w : World) (ht : Tab w) (hu : UTab w) (h0 : s0.size ≤ 2147483647) (h2 : s2.size ≤ 2147483647) (h3 : s3.size ≤ 2147483647) (h4 : s4.size ≤ 2147483647) (p0 : 0 ≤ p) (p1 : p < 65536) :
    Calls Tryd.prog 7 #[.string s0, .int .u16 p, .string s2, .string s3, .string s4] w fun e w' => e = .returned (.bool true) ∧ Kp w w' := by
  have i0 : (s0.size : Int) ≤ 2147483647 := by omega
  have i2 : (s2.size : Int) ≤ 2147483647 := by omega
  have i3 : (s3.size : Int) ≤ 2147483647 := by omega
  have i4 : (s4.size : Int) ≤ 2147483647 := by omega
  have HT := Lib.hid ht
  have HU := Lib.hid hu
  have C1 := Lib.hid (urlHost_any s0 w h0)
  have HM := Lib.hid (And.intro h2 (And.intro h3 h4))
  clear ht hu h0 h2 h3 h4
  go_enter Tryd.func7, Tryd.ntmps7
  go_wp2_with fail
  refine C1.out.mono ?_
  rintro e w1 ⟨b1, rfl, hb1, hk1⟩
  have HK1 := Lib.hid hk1
  have HB1 := Lib.hid hb1
  clear hk1 hb1 C1
  cases b1
  · go_wp2_with fail
    refine (urlAwake_any w1 (HU.out.kp HK1.out)).mono ?_
    rintro e w2 ⟨rfl, hk2⟩
    have HK2 := Lib.hid (HK1.out.trans hk2)
    clear hk2
    go_wp2_with fail
    go_ret
    exact ⟨rfl, HK2.out⟩
  · have HS := Lib.hid (HB1.out rfl)
    clear HB1
    go_wp2_with fail
    generalize hX : w1.alloc (.cells #[.string s2, .string s3, .string s4] 9) = X
    obtain ⟨sb, hsb⟩ : ∃ sb, sb = w1.heap.size := ⟨_, rfl⟩
    have hB : Blk X sb 9 #[.string s2, .string s3, .string s4] := by rw [hsb, ← hX]; exact Blk.new w1 _ _
    have HKX := Lib.hid (show Kp w X from HK1.out.trans (hX ▸ (Kp.refl w1).alloc _))
    have CSH := Lib.hid (configShort_any sb 3 3 (fun r => if r = 0 then s2 else if r = 1 then s3 else s4) X (fun r hr => by
      rcases (show r = 0 ∨ r = 1 ∨ r = 2 by omega) with rfl | rfl | rfl
      · exact hB.cell 0
      · exact hB.cell 1
      · exact hB.cell 2) (fun r _ => by
      have h1 := HM.out.1
      have h2 := HM.out.2.1
      have h3 := HM.out.2.2
      show (if r = 0 then s2 else if r = 1 then s3 else s4).size ≤ maxLen
      unfold maxLen
      split
      · omega
      · split <;> omega) (by omega))
    have HSE := Lib.hid (show shortL (fun r => if r = 0 then s2 else if r = 1 then s3 else s4) 3 = (decide (s2.size ≤ 300) && decide (s3.size ≤ 300) && decide (s4.size ≤ 300)) from by simp [shortL])
    rw [HSE.out] at CSH
    rw [← hsb]
    clear hX hsb hB
    refine CSH.out.mono ?_
    rintro e wx ⟨rfl, rfl⟩
    clear CSH
    cases hsh : (decide (s2.size ≤ 300) && decide (s3.size ≤ 300) && decide (s4.size ≤ 300))
    · clear hsh
      go_wp2_with fail
      refine (urlAwake_any X (HU.out.kp HKX.out)).mono ?_
      rintro e w2 ⟨rfl, hk2⟩
      have HK2 := Lib.hid (HKX.out.trans hk2)
      clear hk2
      go_wp2_with fail
      go_ret
      exact ⟨rfl, HK2.out⟩
    · have HSZ := Lib.hid (show s2.size ≤ 300 ∧ s3.size ≤ 300 ∧ s4.size ≤ 300 from by
        simp only [Bool.and_eq_true, decide_eq_true_eq] at hsh
        exact ⟨hsh.1.1, hsh.1.2, hsh.2⟩)
      clear hsh
      have HIT := Lib.hid (show ItoaAt p X from fun w1 hk => itoa_any p (by omega) (by omega) w1 (HT.out.kp (HKX.out.trans hk)))
      have hp := And.intro p0 p1
      have CU := Lib.hid (url_none s0 s2 s3 s4 p X (HU.out.kp HKX.out) HIT.out HS.out.1 HSZ.out.1 HSZ.out.2.1 HSZ.out.2.2 (by omega) (by omega))
      have CH := Lib.hid (fun w2 (hk : Kp X w2) => configHead_any s0 s2 s3 s4 p w2 (HIT.out.kp hk) HS.out.2 HS.out.1 HSZ.out.1 HSZ.out.2.1 HSZ.out.2.2 (by omega) (by omega))
      clear hp
      generalize headS s0 p s2 s3 s4 = R at CU CH
      go_wp2_with fail
      refine CU.out.mono ?_
      rintro e w2 ⟨rfl, hk2⟩
      have HK2 := Lib.hid hk2
      clear hk2
      go_wp2_with fail
      refine (CH.out w2 HK2.out).mono ?_
      rintro e w3 ⟨rfl, hk3⟩
      have HK3 := Lib.hid (HKX.out.trans (HK2.out.trans hk3))
      clear hk3
      go_wp2_with fail
      refine (urlAwake_any w3 (HU.out.kp HK3.out)).mono ?_
      rintro e w4 ⟨rfl, hk4⟩
      have HK4 := Lib.hid (HK3.out.trans hk4)
      clear hk4
      go_wp2_with fail
      go_ret
      exact ⟨rfl, HK4.out⟩
theorem fnUrlHead_any (s0 s2 s3 s4 : ByteArray) (p : Int) (w : World) (ht : Tab w) (hu : UTab w) (h0 : s0.size ≤ maxLen) (h2 : s2.size ≤ maxLen) (h3 : s3.size ≤ maxLen) (h4 : s4.size ≤ maxLen) (wf : (Lit.int .u16 p).wf = true) :
    Calls Tryd.prog 7 #[.string s0, .int .u16 p, .string s2, .string s3, .string s4] w fun e w' => e = .returned (.bool true) ∧ Kp w w' := by
  have hp : 0 ≤ p ∧ p < 65536 := by
    have h1 : IntKind.u16.min = 0 := rfl
    have h2 : IntKind.u16.max = 65535 := rfl
    simp [Lit.wf, h1, h2] at wf
    omega
  unfold maxLen at h0 h2 h3 h4
  have j0 : (s0.size : Int) ≤ 9223372036854775807 := by omega
  have j2 : (s2.size : Int) ≤ 9223372036854775807 := by omega
  have j3 : (s3.size : Int) ≤ 9223372036854775807 := by omega
  have j4 : (s4.size : Int) ≤ 9223372036854775807 := by omega
  by_cases m0 : s0.size ≤ 2147483647
  · by_cases m2 : s2.size ≤ 2147483647
    · by_cases m3 : s3.size ≤ 2147483647
      · by_cases m4 : s4.size ≤ 2147483647
        · exact fnUrlHead_main s0 s2 s3 s4 p w ht hu m0 m2 m3 m4 hp.1 hp.2
        · have i0 : (s0.size : Int) ≤ 2147483647 := by omega
          have i2 : (s2.size : Int) ≤ 2147483647 := by omega
          have i3 : (s3.size : Int) ≤ 2147483647 := by omega
          have i4 : (2147483647 : Int) < (s4.size : Int) := by omega
          clear ht hu h0 h2 h3 h4 wf hp m0 m2 m3 m4
          go_enter Tryd.func7, Tryd.ntmps7
          go_wp2_with fail
          go_ret
          exact ⟨rfl, Kp.refl _⟩
      · have i0 : (s0.size : Int) ≤ 2147483647 := by omega
        have i2 : (s2.size : Int) ≤ 2147483647 := by omega
        have i3 : (2147483647 : Int) < (s3.size : Int) := by omega
        clear ht hu h0 h2 h3 h4 wf hp m0 m2 m3
        go_enter Tryd.func7, Tryd.ntmps7
        go_wp2_with fail
        go_ret
        exact ⟨rfl, Kp.refl _⟩
    · have i0 : (s0.size : Int) ≤ 2147483647 := by omega
      have i2 : (2147483647 : Int) < (s2.size : Int) := by omega
      clear ht hu h0 h2 h3 h4 wf hp m0 m2
      go_enter Tryd.func7, Tryd.ntmps7
      go_wp2_with fail
      go_ret
      exact ⟨rfl, Kp.refl _⟩
  · have i0 : (2147483647 : Int) < (s0.size : Int) := by omega
    clear ht hu h0 h2 h3 h4 wf hp m0
    go_enter Tryd.func7, Tryd.ntmps7
    go_wp2_with fail
    go_ret
    exact ⟨rfl, Kp.refl _⟩
end Go.Proofs.YtmojecgmneodlaaDoor
