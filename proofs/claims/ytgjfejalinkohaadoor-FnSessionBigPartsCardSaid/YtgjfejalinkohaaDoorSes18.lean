/-
  spec.SessionClr with big parts: it gives the CLR's form.
-/
import Derived.Test.YtgjfejalinkohaaDoorSes17
namespace Go.Proofs.YtgjfejalinkohaaDoor
open Go Go.RowKit

theorem own_mk (w : World) (x : Int) : (w.alloc (.cells #[.int .u8 x] 5)).ownsRow w.heap.size 5 1 (.slice (some ⟨w.heap.size, 0, none⟩) 1 1) 1 ([x].map (Value.int .u8)) := own_new w [x] _ (by simp [maxLen])
theorem byte_app (w : World) (base : Nat) (v : Value) (n : Nat) (xs : List Int) (x : Int) (h : w.ownsRow base 5 1 v n (xs.map (Value.int .u8))) (hn : n ≤ 1000000) (hb : base ≤ w.heap.size) :
    ∃ q c w', (Builtin.append_ #[23, 23] 23 #[v, .slice (some ⟨w.heap.size, 0, none⟩) 1 1]).run Tryd.prog (w.alloc (.cells #[.int .u8 x] 5)) = .ok (.slice q (n + 1) c) w' ∧ w'.ownsRow base 5 1 (.slice q (n + 1) c) (n + 1) ((xs ++ [x]).map (Value.int .u8)) ∧
      w.grownBy w' v.ownBlock := by
  obtain ⟨v', w', hrun, hov, hgr, _⟩ := run_append_bytes (w.alloc (.cells #[.int .u8 x] 5)) base v n xs (own_below h (Kp.alloc (Kp.refl w) _)) (some ⟨w.heap.size, 0, none⟩) 1 1 [x] (bin_new w [x] _) rfl (by omega) (Nat.le_trans hb (Kp.alloc (Kp.refl w) _).size)
  obtain ⟨q, c, rfl, _⟩ := bin_own hov
  exact ⟨q, c, w', hrun, hov, grown_trans (grown_alloc (World.grownBy.refl w _) _) hgr⟩
theorem bytes_app (w : World) (base : Nat) (v : Value) (n : Nat) (xs : List Int) (h : w.ownsRow base 5 1 v n (xs.map (Value.int .u8))) (A : Option Addr) (m c : Nat) (ys : List Int) (hin : Lib.BytesIn w A m ys) (hy : ys.length = m) (hn : n + m ≤ 10000000) (hb : base ≤ w.heap.size) :
    ∃ q d w', (Builtin.append_ #[23, 23] 23 #[v, .slice A m c]).run Tryd.prog w = .ok (.slice q (n + m) d) w' ∧ w'.ownsRow base 5 1 (.slice q (n + m) d) (n + m) ((xs ++ ys).map (Value.int .u8)) ∧ w.grownBy w' v.ownBlock := by
  obtain ⟨v', w', hrun, hov, hgr, _⟩ := run_append_bytes w base v n xs h A m c ys hin hy (by omega) hb
  obtain ⟨q, d, rfl, _⟩ := bin_own hov
  exact ⟨q, d, w', hrun, hov, hgr⟩

set_option maxRecDepth 100000 in
set_option maxHeartbeats 4000000 in
theorem specClr_any (q : Option Addr) (l c n : Nat) (ys : List Int) (w : World) (h : Lib.BytesIn w q l ys) (hl : ys.length = l) (hl2 : l ≤ 5000) (hc : l ≤ c) (hc2 : c ≤ maxLen) (hn : 0 < n) (hn2 : n ≤ 4096) :
    Calls Tryd.prog 22 #[.slice q l c, .bool true, .int .i64 (n : Int)] w fun e w' => ∃ x, e = .returned x ∧ w'.ownsRow w.heap.size 5 1 x (clrW true n ys).length ((clrW true n ys).map (Value.int .u8)) ∧ Below w.heap.size w w' := by
  have i0 : (0 : Int) ≤ (l : Int) := by omega
  have i1 : (l : Int) ≤ 5000 := by omega
  have H := Lib.hid h
  have HL := Lib.hid hl
  by_cases hs : l ≤ 252
  · have i2 : (l : Int) ≤ 252 := by omega
    obtain ⟨p, d, w', hrun, hov, hgr⟩ := bytes_app (w.alloc (.cells #[.int .u8 (l : Int)] 5)) w.heap.size _ 1 [(l : Int)] (own_mk w l) q l c ys (bin_alloc h _) hl (by omega) (Kp.alloc (Kp.refl w) _).size
    have HRUN := Lib.hid hrun
    have HOV := Lib.hid hov
    have HK := Lib.hid (show Kp w w' from ((Kp.refl w).alloc _).grown hgr (own_ge (own_mk w l)))
    have HE := Lib.hid (show clrW true n ys = [(l : Int)] ++ ys ∧ 1 + l = (clrW true n ys).length from by rw [clrW_short true n ys (by omega), hl]; exact ⟨rfl, by simp; omega⟩)
    clear h hl hl2 hc hc2 hn hn2 hs hrun hov hgr
    go_enter Tryd.func22, Tryd.ntmps22
    go_wp2_with (at_builtin; refine Lib.wpList_append_run _ rfl _ _ _ _ rfl _ _ rfl rfl _ _ HRUN.out ?_)
    go_ret
    exact ⟨_, rfl, by rw [← HE.out.2, HE.out.1]; exact HOV.out, HK.out⟩
  · have i2 : (252 : Int) < (l : Int) := by omega
    obtain ⟨b, o, rfl, _⟩ := h (by omega)
    have i3 : (0 : Int) < (n : Int) := by omega
    have i4 : (n : Int) ≤ 4096 := by omega
    have HC := Lib.hid hc
    have HC2 := Lib.hid hc2
    have HN := Lib.hid hn
    have HS := Lib.hid hs
    clear h hl hl2 hc hc2 hn hn2 hs
    go_enter Tryd.func22, Tryd.ntmps22
    go_wp2_with fail
    go_loopg [0, 7] (l + 1) (fun G st sm wr => ∃ (s r rc f pp : Nat) (acc : List Int) (x : Value), G = r + 1 ∧ l = s + r ∧ c = s + rc ∧ r ≤ f ∧ st = .slice (some ⟨b, pp, none⟩) r rc ∧ (0 < r → pp = o + s) ∧ x = sm ∧ acc ++ chunks true n f (ys.drop s) = 254 :: chunks true n l ys ∧ acc.length ≤ 1 + 10 * s ∧ wr.ownsRow w.heap.size 5 1 x acc.length (acc.map (Value.int .u8)) ∧ Kp w wr)
    case atStart => exact ⟨0, l, c, l, o, [254], _, rfl, by omega, by omega, Nat.le_refl _, rfl, fun _ => rfl, rfl, rfl, by simp, own_mk w 254, (Kp.refl w).alloc _⟩
    case round =>
      obtain ⟨s, r, rc, f, pp, acc, x, rfl, hsr, hsc, hrf, rfl, hpp, rfl, ha, hal, hown, hkp⟩ := hrel
      obtain ⟨m0, hm0⟩ : ∃ m, m = acc.length := ⟨_, rfl⟩
      rw [← hm0] at hown
      have HM0 := Lib.hid hm0
      have HSR := Lib.hid hsr
      have HSC := Lib.hid hsc
      have HRF := Lib.hid hrf
      have HA := Lib.hid ha
      have HAL := Lib.hid hal
      have HO := Lib.hid hown
      have HK := Lib.hid hkp
      have j0 : (0 : Int) ≤ (r : Int) := by omega
      have j1 : (r : Int) ≤ 5000 := by omega
      have hkc : r ≤ rc := by have := HC.out; omega
      have HKC := Lib.hid hkc
      have j2 : (r : Int) ≤ (rc : Int) := by omega
      have j3 : (rc : Int) ≤ 9223372036854775807 := by have := HC2.out; unfold maxLen at this; omega
      have hm1 : m0 ≤ 60000 := by have := i1; omega
      have HM1 := Lib.hid hm1
      clear hsr hsc hrf ha hal hown hkp hm0 hkc hm1
      rcases Nat.eq_zero_or_pos r with h0 | h0
      · subst h0
        clear hpp
        obtain ⟨p, d, w', hrun, hov, hgr⟩ := byte_app wr w.heap.size x m0 acc 0 HO.out (by have := HM1.out; omega) HK.out.size
        have HRUN := Lib.hid hrun
        have HOV := Lib.hid hov
        have HK1 := Lib.hid (show Kp w w' from HK.out.grown hgr (own_ge HO.out))
        have HE := Lib.hid (show clrW true n ys = acc ++ [0] ∧ m0 + 1 = (clrW true n ys).length from by
          have e1 := HA.out
          rw [chunks_end true n f s ys (by have := HL.out; have := HSR.out; omega), List.append_nil] at e1
          rw [clrW_long true n ys (by have := HL.out; have := HS.out; omega), HL.out, ← List.cons_append, ← e1]
          exact ⟨rfl, by simp [HM0.out]⟩)
        clear hrun hov hgr
        go_wp2_with (at_builtin; refine Lib.wpList_append_run _ rfl _ _ _ _ rfl _ _ rfl rfl _ _ HRUN.out ?_)
        go_ret
        exact ⟨_, rfl, by rw [← HE.out.2, HE.out.1]; exact HOV.out, HK1.out⟩
      · obtain rfl := hpp h0
        clear hpp
        have j4 : (0 : Int) < (r : Int) := by omega
        obtain ⟨m, hm⟩ : ∃ m, m = min r n := ⟨_, rfl⟩
        have hmi : min (r : Int) (n : Int) = (m : Int) := by omega
        have j5 : (m : Int) ≤ (r : Int) := by omega
        have j6 : (0 : Int) < (m : Int) := by have := HN.out; omega
        have j7 : (m : Int) ≤ 4096 := by omega
        have HCS := Lib.hid (show acc ++ (packed m ++ ((ys.drop s).take m)) ++ chunks true n (f - 1) (ys.drop (s + m)) = 254 :: chunks true n l ys from by
          have e1 := HA.out
          obtain ⟨f', rfl⟩ : ∃ f', f = f' + 1 := ⟨f - 1, by have := HRF.out; omega⟩
          rw [chunks_step true n f' s m ys (by have := HL.out; have := HSR.out; omega) (by have := HL.out; have := HSR.out; omega)] at e1
          have e2 : ys.drop (s + n) = ys.drop (s + m) := by
            by_cases hrn : r ≤ n
            · rw [List.drop_eq_nil_of_le (show ys.length ≤ s + n by have := HL.out; have := HSR.out; omega), List.drop_eq_nil_of_le (show ys.length ≤ s + m by have := HL.out; have := HSR.out; omega)]
            · congr 2; omega
          rw [e2] at e1
          simpa [headW, List.append_assoc] using e1)
        have HM := Lib.hid j6
        have HMR := Lib.hid (show m ≤ r by omega)
        have HTK := Lib.hid (show ((ys.drop s).take m).length = m from by rw [List.length_take, List.length_drop, HL.out]; have := HSR.out; omega)
        have HPA := Lib.hid (specPacked_any m wr (by omega))
        clear hm h0
        go_wp2_with fail
        refine HPA.out.mono ?_
        rintro e w1 ⟨y, rfl, hown, hb1⟩
        obtain ⟨k, hk⟩ : ∃ k, k = (packed m).length := ⟨_, rfl⟩
        rw [← hk] at hown
        obtain ⟨q1, d1, rfl, hin1⟩ := bin_own hown
        have hk1 : Kp wr w1 := hb1
        have hk9 : k ≤ 9 := by rw [hk]; exact packed_len m
        obtain ⟨p, d, w2, hrun, hov, hgr⟩ := bytes_app w1 w.heap.size x m0 acc (own_below HO.out hk1) q1 k d1 (packed m) hin1 hk.symm (by have := HM1.out; omega) (HK.out.trans hk1).size
        have HRUN := Lib.hid hrun
        have HOV := Lib.hid hov
        have hk2 : Kp w w2 := (HK.out.trans hk1).grown hgr (own_ge HO.out)
        have HK2 := Lib.hid hk2
        have HKK := Lib.hid hk9
        have HKE := Lib.hid hk
        obtain ⟨p3, d3, w3, hrun3, hov3, hgr3⟩ := bytes_app w2 w.heap.size (.slice p (m0 + k) d) (m0 + k) (acc ++ packed m) hov (some ⟨b, o + s, none⟩) m rc ((ys.drop s).take m) (win_bin (n := l) (i := s) (k := m) (bin_kp H.out hk2) HL.out (by have := HSR.out; have := HMR.out; omega)) HTK.out (by have := HM1.out; omega) hk2.size
        have HRUN3 := Lib.hid hrun3
        have HOV3 := Lib.hid hov3
        have HK3 := Lib.hid (show Kp w w3 from hk2.grown hgr3 (own_ge hov))
        clear hown hb1 hin1 hrun hov hgr hk1 hk9 hk hk2 hrun3 hov3 hgr3 HPA
        by_cases hz : rc = m
        · have e3 : (rc = m) = True := by simp [hz]
          have HZ := Lib.hid (show rc ≤ m ∧ m ≤ rc by omega)
          clear hz
          go_wp2_with (at_builtin; refine Lib.wpList_append_run _ rfl _ _ _ _ rfl _ _ rfl rfl _ _ (by first | exact HRUN.out | exact HRUN3.out) ?_)
          go_roundg (r - m + 1)
          case measure => have := HM.out; have := HMR.out; omega
          case rel =>
            exact ⟨s + m, r - m, rc - m, f - 1, o + s, acc ++ (packed m ++ ((ys.drop s).take m)), .slice p3 (m0 + k + m) d3, by omega, by have := HSR.out; have := HMR.out; omega, by have := HSC.out; obtain ⟨_, _⟩ := HZ.out; omega, by have := HRF.out; have := HM.out; omega, by go_num, fun h => by obtain ⟨_, _⟩ := HZ.out; have := HKC.out; omega, by go_num, HCS.out, by have := HTK.out; have := HAL.out; have := HM0.out; have := HKE.out; have := HKK.out; have := HM.out; simp only [List.length_append, HTK.out, ← HKE.out, ← HM0.out]; omega, by
              have h1 := HOV3.out
              rw [List.append_assoc] at h1
              rw [show (acc ++ (packed m ++ ((ys.drop s).take m))).length = m0 + k + m from by simp only [List.length_append, HTK.out, ← HKE.out, ← HM0.out]; omega]
              exact h1, HK3.out⟩
        · have e3 : (rc = m) = False := by simp [hz]
          have HZ := Lib.hid hz
          clear hz
          go_wp2_with (at_builtin; refine Lib.wpList_append_run _ rfl _ _ _ _ rfl _ _ rfl rfl _ _ (by first | exact HRUN.out | exact HRUN3.out) ?_)
          go_roundg (r - m + 1)
          case measure => have := HM.out; have := HMR.out; omega
          case rel =>
            exact ⟨s + m, r - m, rc - m, f - 1, o + s + m, acc ++ (packed m ++ ((ys.drop s).take m)), .slice p3 (m0 + k + m) d3, by omega, by have := HSR.out; have := HMR.out; omega, by have := HSC.out; have := HKC.out; have := HMR.out; omega, by have := HRF.out; have := HM.out; omega, by go_num, fun h => by omega, by go_num, HCS.out, by have := HTK.out; have := HAL.out; have := HM0.out; have := HKE.out; have := HKK.out; have := HM.out; simp only [List.length_append, HTK.out, ← HKE.out, ← HM0.out]; omega, by
              have h1 := HOV3.out
              rw [List.append_assoc] at h1
              rw [show (acc ++ (packed m ++ ((ys.drop s).take m))).length = m0 + k + m from by simp only [List.length_append, HTK.out, ← HKE.out, ← HM0.out]; omega]
              exact h1, HK3.out⟩
end Go.Proofs.YtgjfejalinkohaaDoor
