/-
  FnSessionFixed: a fixed CLR is read again; its length.
-/
import Derived.Test.YtgjfejalinkohaaDoorSes15
namespace Go.Proofs.YtgjfejalinkohaaDoor
open Go Go.RowKit

set_option maxRecDepth 100000 in
set_option maxHeartbeats 4000000 in
theorem fnSessionFixed_few (q : Option Addr) (n c : Nat) (xs : List Int) (qm : Option Addr) (m cm : Nat) (ms : List Int) (w : World) (hi : Lib.BytesIn w q n xs) (hx : xs.length = n) (hb : Bys xs) (hn : n ≤ 3000) (him : Lib.BytesIn w qm m ms) (hxm : ms.length = m) (hbm : Bys ms) (hm : m ≤ 1000) :
    Calls Tryd.prog 10 #[.slice q n c, .slice qm m cm] w fun e w' => e = .returned (.bool true) ∧ Below w.heap.size w w' := by
  have i0 : (0 : Int) ≤ (n : Int) := by omega
  have i1 : (n : Int) ≤ 3000 := by omega
  have i2 : (0 : Int) ≤ (m : Int) := by omega
  have i3 : (m : Int) ≤ 1000 := by omega
  have HI := Lib.hid hi
  have HX := Lib.hid hx
  have HIM := Lib.hid him
  have HXM := Lib.hid hxm
  have HN := Lib.hid hn
  have HM := Lib.hid hm
  by_cases h252 : 252 < n
  · have i4 : (252 : Int) < (n : Int) := by omega
    obtain ⟨sz, hsz⟩ : ∃ sz, sz = n + 5 := ⟨_, rfl⟩
    have HF := Lib.hid (show (fixedW xs).length = sz by unfold fixedW; rw [hx, if_pos h252, hsz]; simp [be_length, hx]; omega)
    have HR := Lib.hid (rdFixed_mk xs ms (by omega))
    have HBY := Lib.hid ((bys_fixed hb).app hbm)
    have CL := Lib.hid (clone_any w q n c xs hi hx (by omega))
    clear hi hx hb hn him hxm hbm hm
    have HSZ := Lib.hid hsz
    clear hsz h252
    go_enter Tryd.func10, Tryd.ntmps10
    go_wp2_with fail
    refine CL.out.mono ?_
    rintro e w1 ⟨q1, d1, rfl, hown, hb1⟩
    have HO1 := Lib.hid (bin_of_own hown)
    have HK := Lib.hid (show Kp w w1 from hb1)
    clear hown hb1
    go_wp2_with fail
    generalize hW : w1.alloc (.cells #[.int .i64 5, .slice q1 n d1, .slice none 0 0, .int .i64 0, .int .u64 0, .int .u8 0, .int .u8 0, .bool false, .bool false] 31) = W1
    have hB : Blk W1 w1.heap.size 31 #[.int .i64 5, .slice q1 n d1, .slice none 0 0, .int .i64 0, .int .u64 0, .int .u8 0, .int .u8 0, .bool false, .bool false] := hW ▸ Blk.new w1 _ _
    have HKW := Lib.hid (show Kp w W1 from hW ▸ HK.out.alloc _)
    have C1 := Lib.hid (put1 W1 w1.heap.size ⟨5, q1, n, d1, xs, none, 0, 0, [], 0, 0, 0, 0, false, false⟩ false 64 hB (hW ▸ bin_alloc HO1.out _) (Lib.BytesIn.nil _ _ _) (ok_clr _ _ _ _ _ (by omega) HX.out (by have := HN.out; omega)) (by decide) (by decide) (fun _ => by decide))
    clear hW hB
    refine C1.out.mono ?_
    rintro e w2 ⟨q2, l2, d2, rfl, hl2, hown2, hb2⟩
    replace hl2 : (fixedW xs).length = l2 := hl2
    rw [HF.out] at hl2
    subst hl2
    have HP2 := Lib.hid (show Lib.BytesIn w2 q2 sz (fixedW xs) from bin_of_own hown2)
    have hk2 := HKW.out.call hb2
    have HK2 := Lib.hid hk2
    have HI2 := Lib.hid (bin_kp HI.out hk2)
    have HIM2 := Lib.hid (bin_kp HIM.out hk2)
    clear hown2 hb2 hk2 C1
    go_wp2_with fail
    generalize hW : w2.alloc (.cells #[.slice q2 sz d2, .slice qm m cm] 23) = W2
    have hB : Blk W2 w2.heap.size 23 #[.slice q2 sz d2, .slice qm m cm] := hW ▸ Blk.new w2 _ _
    have HKW2 := Lib.hid (show Kp w2 W2 from hW ▸ (Kp.refl w2).alloc _)
    have C2 := Lib.hid (concat2 W2 w2.heap.size 23 q2 qm sz d2 m cm (fixedW xs) ms hB (hW ▸ bin_alloc HP2.out _) HF.out (hW ▸ bin_alloc HIM2.out _) HXM.out (by have := HSZ.out; have := HN.out; have := HM.out; omega))
    clear hW hB
    refine C2.out.mono ?_
    rintro e w3 ⟨q3, l3, d3, rfl, hl3, hown3, hb3⟩
    have HL3 := Lib.hid hl3
    have HP3 := Lib.hid (bin_of_own hown3)
    have HK23 := Lib.hid (HKW2.out.call hb3)
    clear hl3 hown3 hb3 C2
    go_wp2_with fail
    generalize hW : w3.alloc (.cells #[.int .i64 8, .int .i64 0, .bool false, .bool false] 33) = W3
    have hB : Blk W3 w3.heap.size 33 #[.int .i64 8, .int .i64 0, .bool false, .bool false] := hW ▸ Blk.new w3 _ _
    have HKW3 := Lib.hid (show Kp w3 W3 from hW ▸ (Kp.refl w3).alloc _)
    have C3 := Lib.hid (get1 W3 w3.heap.size ⟨8, 0, false, false⟩ q3 l3 d3 (fixedW xs ++ ms) false ⟨xs, [], 0, noText⟩ ms hB (hW ▸ bin_alloc HP3.out _) HL3.out HBY.out (by have h1 := HL3.out; have := HF.out; have := HSZ.out; have := HXM.out; have := HN.out; have := HM.out; rw [List.length_append] at h1; omega)
      (.inr (.inr (.inr (.inr (.inr (.inr (.inl ⟨rfl, xs, HR.out, rfl⟩))))))))
    clear hW hB
    refine C3.out.mono ?_
    rintro e w4 ⟨g, cap, qa, ka, ma, qb, kb, mb, q4, l4, d4, rfl, hc1, hc2, hg1, hg2, c0, c1, c2, c3, c4, hka, hina, hkb, hinb, hl, hin, hb4⟩
    have hka' : ka = n := by rw [← hka]; exact HX.out
    have hl4 : l4 = m := by rw [← hl]; exact HXM.out
    subst hka' hl4
    have HA := Lib.hid hina
    have HL4 := Lib.hid hin
    have hk34 := HKW3.out.call hb4
    have HK4 := Lib.hid (HK2.out.trans (HK23.out.trans hk34))
    have HI4 := Lib.hid (bin_kp HI2.out (HK23.out.trans hk34))
    have HIM4 := Lib.hid (bin_kp HIM2.out (HK23.out.trans hk34))
    have i5 : (1 : Int) ≤ (cap : Int) := by omega
    have e6 : ((sz : Nat) : Int) = (ka : Int) + 1 + 4 := by have := HSZ.out; omega
    clear hka hina hkb hinb hl hin hb4 hc1 hc2 hg1 c2 c3 c4 hk34 C3
    go_wp2_with fail
    refine (bytes_equal_same _ qa q ka ma c xs HX.out HA.out HI4.out).mono ?_
    rintro e wx ⟨rfl, rfl⟩
    go_wp2_with fail
    refine (bytes_equal_same _ q4 qm l4 d4 cm ms HXM.out HL4.out HIM4.out).mono ?_
    rintro e wx ⟨rfl, rfl⟩
    go_wp2_with fail
    refine (sessionLive_any _).mono ?_
    rintro e w5 ⟨rfl, hb5⟩
    have HB5 := Lib.hid hb5
    clear hb5
    go_wp2_with fail
    go_ret
    exact ⟨rfl, HK4.out.call HB5.out⟩
  · have i4 : (n : Int) ≤ 252 := by omega
    obtain ⟨sz, hsz⟩ : ∃ sz, sz = n + 1 := ⟨_, rfl⟩
    have HF := Lib.hid (show (fixedW xs).length = sz by unfold fixedW; rw [hx, if_neg h252, hsz]; simp [hx])
    have HR := Lib.hid (rdFixed_mk xs ms (by omega))
    have HBY := Lib.hid ((bys_fixed hb).app hbm)
    have CL := Lib.hid (clone_any w q n c xs hi hx (by omega))
    clear hi hx hb hn him hxm hbm hm
    have HSZ := Lib.hid hsz
    clear hsz h252
    go_enter Tryd.func10, Tryd.ntmps10
    go_wp2_with fail
    refine CL.out.mono ?_
    rintro e w1 ⟨q1, d1, rfl, hown, hb1⟩
    have HO1 := Lib.hid (bin_of_own hown)
    have HK := Lib.hid (show Kp w w1 from hb1)
    clear hown hb1
    go_wp2_with fail
    generalize hW : w1.alloc (.cells #[.int .i64 5, .slice q1 n d1, .slice none 0 0, .int .i64 0, .int .u64 0, .int .u8 0, .int .u8 0, .bool false, .bool false] 31) = W1
    have hB : Blk W1 w1.heap.size 31 #[.int .i64 5, .slice q1 n d1, .slice none 0 0, .int .i64 0, .int .u64 0, .int .u8 0, .int .u8 0, .bool false, .bool false] := hW ▸ Blk.new w1 _ _
    have HKW := Lib.hid (show Kp w W1 from hW ▸ HK.out.alloc _)
    have C1 := Lib.hid (put1 W1 w1.heap.size ⟨5, q1, n, d1, xs, none, 0, 0, [], 0, 0, 0, 0, false, false⟩ false 64 hB (hW ▸ bin_alloc HO1.out _) (Lib.BytesIn.nil _ _ _) (ok_clr _ _ _ _ _ (by omega) HX.out (by have := HN.out; omega)) (by decide) (by decide) (fun _ => by decide))
    clear hW hB
    refine C1.out.mono ?_
    rintro e w2 ⟨q2, l2, d2, rfl, hl2, hown2, hb2⟩
    replace hl2 : (fixedW xs).length = l2 := hl2
    rw [HF.out] at hl2
    subst hl2
    have HP2 := Lib.hid (show Lib.BytesIn w2 q2 sz (fixedW xs) from bin_of_own hown2)
    have hk2 := HKW.out.call hb2
    have HK2 := Lib.hid hk2
    have HI2 := Lib.hid (bin_kp HI.out hk2)
    have HIM2 := Lib.hid (bin_kp HIM.out hk2)
    clear hown2 hb2 hk2 C1
    go_wp2_with fail
    generalize hW : w2.alloc (.cells #[.slice q2 sz d2, .slice qm m cm] 23) = W2
    have hB : Blk W2 w2.heap.size 23 #[.slice q2 sz d2, .slice qm m cm] := hW ▸ Blk.new w2 _ _
    have HKW2 := Lib.hid (show Kp w2 W2 from hW ▸ (Kp.refl w2).alloc _)
    have C2 := Lib.hid (concat2 W2 w2.heap.size 23 q2 qm sz d2 m cm (fixedW xs) ms hB (hW ▸ bin_alloc HP2.out _) HF.out (hW ▸ bin_alloc HIM2.out _) HXM.out (by have := HSZ.out; have := HN.out; have := HM.out; omega))
    clear hW hB
    refine C2.out.mono ?_
    rintro e w3 ⟨q3, l3, d3, rfl, hl3, hown3, hb3⟩
    have HL3 := Lib.hid hl3
    have HP3 := Lib.hid (bin_of_own hown3)
    have HK23 := Lib.hid (HKW2.out.call hb3)
    clear hl3 hown3 hb3 C2
    go_wp2_with fail
    generalize hW : w3.alloc (.cells #[.int .i64 8, .int .i64 0, .bool false, .bool false] 33) = W3
    have hB : Blk W3 w3.heap.size 33 #[.int .i64 8, .int .i64 0, .bool false, .bool false] := hW ▸ Blk.new w3 _ _
    have HKW3 := Lib.hid (show Kp w3 W3 from hW ▸ (Kp.refl w3).alloc _)
    have C3 := Lib.hid (get1 W3 w3.heap.size ⟨8, 0, false, false⟩ q3 l3 d3 (fixedW xs ++ ms) false ⟨xs, [], 0, noText⟩ ms hB (hW ▸ bin_alloc HP3.out _) HL3.out HBY.out (by have h1 := HL3.out; have := HF.out; have := HSZ.out; have := HXM.out; have := HN.out; have := HM.out; rw [List.length_append] at h1; omega)
      (.inr (.inr (.inr (.inr (.inr (.inr (.inl ⟨rfl, xs, HR.out, rfl⟩))))))))
    clear hW hB
    refine C3.out.mono ?_
    rintro e w4 ⟨g, cap, qa, ka, ma, qb, kb, mb, q4, l4, d4, rfl, hc1, hc2, hg1, hg2, c0, c1, c2, c3, c4, hka, hina, hkb, hinb, hl, hin, hb4⟩
    have hka' : ka = n := by rw [← hka]; exact HX.out
    have hl4 : l4 = m := by rw [← hl]; exact HXM.out
    subst hka' hl4
    have HA := Lib.hid hina
    have HL4 := Lib.hid hin
    have hk34 := HKW3.out.call hb4
    have HK4 := Lib.hid (HK2.out.trans (HK23.out.trans hk34))
    have HI4 := Lib.hid (bin_kp HI2.out (HK23.out.trans hk34))
    have HIM4 := Lib.hid (bin_kp HIM2.out (HK23.out.trans hk34))
    have i5 : (1 : Int) ≤ (cap : Int) := by omega
    have e6 : ((sz : Nat) : Int) = (ka : Int) + 1 := by have := HSZ.out; omega
    clear hka hina hkb hinb hl hin hb4 hc1 hc2 hg1 c2 c3 c4 hk34 C3
    go_wp2_with fail
    refine (bytes_equal_same _ qa q ka ma c xs HX.out HA.out HI4.out).mono ?_
    rintro e wx ⟨rfl, rfl⟩
    go_wp2_with fail
    refine (bytes_equal_same _ q4 qm l4 d4 cm ms HXM.out HL4.out HIM4.out).mono ?_
    rintro e wx ⟨rfl, rfl⟩
    go_wp2_with fail
    refine (sessionLive_any _).mono ?_
    rintro e w5 ⟨rfl, hb5⟩
    have HB5 := Lib.hid hb5
    clear hb5
    go_wp2_with fail
    go_ret
    exact ⟨rfl, HK4.out.call HB5.out⟩

set_option maxRecDepth 100000 in
set_option maxHeartbeats 4000000 in
theorem fnSessionFixed_any (q : Option Addr) (n c : Nat) (xs : List Int) (qm : Option Addr) (m cm : Nat) (ms : List Int) (w : World) (hi : Lib.BytesIn w q n xs) (hx : xs.length = n) (hb : Bys xs) (hn : n ≤ maxLen) (him : Lib.BytesIn w qm m ms) (hxm : ms.length = m) (hbm : Bys ms) (hm : m ≤ maxLen) :
    Calls Tryd.prog 10 #[.slice q n c, .slice qm m cm] w fun e w' => e = .returned (.bool true) ∧ Below w.heap.size w w' := by
  by_cases h0 : n ≤ 3000 ∧ m ≤ 1000
  · exact fnSessionFixed_few q n c xs qm m cm ms w hi hx hb h0.1 him hxm hbm h0.2
  unfold maxLen at hn hm
  have i0 : (0 : Int) ≤ (n : Int) := by omega
  have i1 : (n : Int) ≤ 9223372036854775807 := by omega
  have i2 : (0 : Int) ≤ (m : Int) := by omega
  have i3 : (m : Int) ≤ 9223372036854775807 := by omega
  clear hi hx hb him hxm hbm
  by_cases h1 : n ≤ 2147483647 ∧ m ≤ 2147483647
  · have i4 : (n : Int) ≤ 2147483647 := by omega
    have i5 : (m : Int) ≤ 2147483647 := by omega
    by_cases h2 : n ≤ 3000
    all_goals
      first
        | (have i6 : (n : Int) ≤ 3000 := by omega
           have i7 : (1000 : Int) < (m : Int) := by omega)
        | (have i6 : (3000 : Int) < (n : Int) := by omega)
      clear h0 h1 h2 hn hm
      go_enter Tryd.func10, Tryd.ntmps10
      go_wp2_with fail
      refine (sessionLive_any _).mono ?_
      rintro e w5 ⟨rfl, hb5⟩
      have HB5 := Lib.hid hb5
      clear hb5
      go_wp2_with fail
      go_ret
      exact ⟨rfl, HB5.out⟩
  · by_cases h2 : n ≤ 2147483647
    all_goals
      first
        | (have i6 : (n : Int) ≤ 2147483647 := by omega
           have i7 : (2147483647 : Int) < (m : Int) := by omega)
        | (have i6 : (2147483647 : Int) < (n : Int) := by omega)
      clear h0 h1 h2 hn hm
      go_enter Tryd.func10, Tryd.ntmps10
      go_wp2_with fail
      go_ret
      exact ⟨rfl, Below.refl _ _⟩
end Go.Proofs.YtgjfejalinkohaaDoor
