/-
  FnPacketAcceptTorn: the law returns true.
-/
import Derived.Test.YtacmnibhdmeidaaDoorAcc3
import Derived.Test.YtacmnibhdmeidaaDoorOpen
namespace Go.Proofs.YtacmnibhdmeidaaDoor
open Go Go.RowKit Go.ChangeShapes Go.WideShapes

/-- Bytes that are a packet ACCEPT of n bytes of data with others behind them are none. -/
theorem accNil_torn (L xs ys : List Int) (fl : Int) (n k : Nat) (h : Lay L fl n) (hx : xs.length = n) (hy : ys.length = k) (hn : n ≤ 2000) (hk0 : 0 < k) (hk : k ≤ 100) (hfl : bits .and .u8 fl 1 = 0) :
    AccNil ((L ++ xs) ++ ys) := by
  intro w q d hin hd
  have hlen : ((L ++ xs) ++ ys).length = 41 + n + k := by rw [List.length_append, List.length_append, h.len, hx, hy]
  rw [hlen] at hin hd ⊢
  obtain ⟨b, o, rfl, hc⟩ := hin (by omega)
  have hg : ∀ i, i < 41 → ((L ++ xs) ++ ys).getD i 0 = L.getD i 0 := fun i hi => by
    have hl := h.len
    rw [List.append_assoc, List.getD_eq_getElem?_getD, List.getD_eq_getElem?_getD, List.getElem?_append_left (by omega)]
  refine acc_torn b o (41 + n + k) d (fun i => L.getD i 0) w (fun i hi => by have := hc i (by omega); rw [hg i hi] at this; exact this) (fun i => getD_byte h.byte i) (by omega) (by omega) hd ?_ h.h20 h.h21 h.z28 h.z29 h.z30 h.z31 ?_
  · show bits .and .u8 (L.getD 5 0) 1 = 0
    rw [h.f5]; exact hfl
  · show L.getD 18 0 * 256 + L.getD 19 0 ≠ _
    rw [h.n18, h.n19]
    omega

theorem zzFits10_any (a : Ac) (p : Option Addr) (n c : Nat) (w : World) (ha : a.adr.size ≤ maxLen) (hc : n ≤ maxLen) :
    Calls Tryd.prog 5 #[.agg (a.cells (.slice p n c))] w fun e w' => e = .returned (.bool (decide (a.adr.size ≤ 2147483647) && decide (n ≤ 2147483647))) ∧ Kp w w' := by
  unfold maxLen at ha hc
  have i0 : ((a.adr.size : Nat) : Int) ≤ 9223372036854775807 := by omega
  have i1 : ((n : Nat) : Int) ≤ 9223372036854775807 := by omega
  unfold Ac.cells
  by_cases h1 : a.adr.size ≤ 2147483647
  · have g1 : ¬ (2147483647 : Int) < ((a.adr.size : Nat) : Int) := by omega
    by_cases h2 : n ≤ 2147483647
    · have g2 : ¬ (2147483647 : Int) < ((n : Nat) : Int) := by omega
      rw [decide_eq_true h1, decide_eq_true h2]
      clear h1 h2 ha hc
      go_enter Tryd.func5, Tryd.ntmps5
      go_wp2_with fail
      go_ret
      exact ⟨rfl, (Kp.refl w).alloc _⟩
    · have g2 : (2147483647 : Int) < ((n : Nat) : Int) := by omega
      rw [decide_eq_true h1, decide_eq_false h2]
      clear h1 h2 ha hc
      go_enter Tryd.func5, Tryd.ntmps5
      go_wp2_with fail
      go_ret
      exact ⟨rfl, (Kp.refl w).alloc _⟩
  · have g1 : (2147483647 : Int) < ((a.adr.size : Nat) : Int) := by omega
    rw [decide_eq_false h1]
    clear h1 ha hc
    go_enter Tryd.func5, Tryd.ntmps5
    go_wp2_with fail
    go_ret
    exact ⟨by simp, (Kp.refl w).alloc _⟩

theorem and_not1 (f : Int) (h0 : 0 ≤ f) (h1 : f < 256) : bits .and .u8 (bits .andNot .u8 f 1) 1 = 0 ∧ 0 ≤ bits .andNot .u8 f 1 ∧ bits .andNot .u8 f 1 < 256 := by
  obtain ⟨n, rfl⟩ := Int.eq_ofNat_of_zero_le h0
  have hn : n < 256 := by omega
  have key : ∀ n : Fin 256, bits .and .u8 (bits .andNot .u8 ((n.val : Nat) : Int) 1) 1 = 0 ∧ 0 ≤ bits .andNot .u8 ((n.val : Nat) : Int) 1 ∧ bits .andNot .u8 ((n.val : Nat) : Int) 1 < 256 := by decide +kernel
  exact key ⟨n, hn⟩

set_option maxHeartbeats 8000000 in
set_option maxRecDepth 100000 in
/-- Where the guards are passed. -/
theorem fnTorn_main (a : Ac) (p : Option Addr) (n c : Nat) (xs : List Int) (m1 : Int) (q : Option Addr) (k d : Nat) (ys : List Int) (w : World) (ok : a.Ok) (ha : a.adr.size ≤ maxLen) (ha2 : a.adr.size ≤ 2147483647)
    (hi : Lib.BytesIn w p n xs) (hx : xs.length = n) (hn : n ≤ 2000) (hm : 0 ≤ m1 ∧ m1 < 256)
    (hj : Lib.BytesIn w q k ys) (hy : ys.length = k) (hk0 : 0 < k) (hk : k ≤ 100) :
    Calls Tryd.prog 3 #[.agg (a.cells (.slice p n c)), .int .u8 m1, .slice q k d] w fun e w' => e = .returned (.bool true) ∧ Below w.heap.size w w' := by
  obtain ⟨f1, f2, f3⟩ := and_not1 a.fl ok.fl.1 ok.fl.2
  obtain ⟨fl, hfl⟩ : ∃ f, bits .andNot .u8 a.fl 1 = f := ⟨_, rfl⟩
  rw [hfl] at f1 f2 f3
  have ok' : ({ a with ty := 2, fl := fl } : Ac).Ok := ⟨⟨(show (0 : Int) ≤ 2 by decide), (show (2 : Int) < 256 by decide)⟩, ⟨f2, f3⟩, ok.a0, ok.a1, ok.len, ok.ver, ok.neg, ok.hist, ok.su, ok.tu⟩
  have CS := Lib.hid (fun w1 h => specAccept_any { a with ty := 2, fl := fl } p n c false w1 ok' hn xs h hx)
  have HT := Lib.hid (fun L (h : Lay L fl n) => accNil_torn L xs ys fl n k h hx hy hn hk0 hk f1)
  have HI := Lib.hid hi
  have HJ := Lib.hid hj
  have HX := Lib.hid hx
  have HY := Lib.hid hy
  have d1 : decide (a.adr.size ≤ 2147483647) = true := by simpa using ha2
  have d2 : decide (n ≤ 2147483647) = true := by simp; omega
  have CF := Lib.hid (show ∀ w1, Calls Tryd.prog 5 #[.agg (a.cells (.slice p n c))] w1 fun e w' => e = .returned (.bool true) ∧ Kp w1 w' from fun w1 => by have h := zzFits10_any a p n c w1 ha (by unfold maxLen; omega); rw [d1, d2] at h; exact h)
  have e1 : decide ((2000 : Int) < ((n : Nat) : Int)) = false := by simp; omega
  have e2 : (((k : Nat) : Int) == 0) = false := by simp; omega
  have e3 : decide ((100 : Int) < ((k : Nat) : Int)) = false := by simp; omega
  have e4 : decide ((2147483647 : Int) < ((k : Nat) : Int)) = false := by simp; omega
  obtain ⟨r, hr⟩ : ∃ r : Nat, m1 % 32 = (r : Int) := ⟨(m1 % 32).toNat, by omega⟩
  have hr2 : r < 32 := by omega
  have HN := Lib.hid hn
  have HK := Lib.hid hk
  have HK0 := Lib.hid hk0
  clear hi hx hj hy hn hk hk0 ok ok' ha ha2 d1 d2
  unfold Ac.cells at *
  go_enter Tryd.func3, Tryd.ntmps3
  go_wp2_with fail
  generalize hW : w.alloc (.cells #[.int .u32 a.len, .int .u8 a.ty, .int .u8 a.fl, .int .u16 a.off, .int .u16 a.ver, .int .u16 a.neg, .int .u16 a.hist, .int .u8 a.a0, .int .u8 a.a1, .int .u32 a.su, .int .u32 a.tu, .string a.adr, .slice p n c] 28) = W
  have hB := hW ▸ Blk.new w 28 #[.int .u32 a.len, .int .u8 a.ty, .int .u8 a.fl, .int .u16 a.off, .int .u16 a.ver, .int .u16 a.neg, .int .u16 a.hist, .int .u8 a.a0, .int .u8 a.a1, .int .u32 a.su, .int .u32 a.tu, .string a.adr, .slice p n c]
  have hkW : Kp w W := hW ▸ (Kp.refl w).alloc _
  clear hW
  refine (CF.out W).mono ?_
  rintro e w1 ⟨rfl, hk1⟩
  have hB1 := hB.kp hk1
  have q2 : w1.cell? ⟨w.heap.size, 2, none⟩ = some (.int .u8 a.fl) := hB1.cell 2
  have q1 : w1.cell? ⟨w.heap.size, 1, none⟩ = some (.int .u8 a.ty) := hB1.cell 1
  have q12 : w1.cell? ⟨w.heap.size, 12, none⟩ = some (.slice p n c) := hB1.cell 12
  have z1 := hB1.frozen 1
  have z2 := hB1.frozen 2
  have HB1 := Lib.hid hB1
  have HK1 := Lib.hid (hkW.trans hk1)
  clear hB hkW hk1 hB1 CF
  go_upto_region 6 with fail
  have hB2 := (HB1.out.set_ 1 (.int .u8 2)).set_ 2 (.int .u8 fl)
  have hk2 := (HK1.out.set (p := ⟨w.heap.size, 1, none⟩) (Nat.le_refl _) (.int .u8 2)).set (p := ⟨w.heap.size, 2, none⟩) (Nat.le_refl _) (.int .u8 fl)
  clear q1 q2 q12 z1 z2 HB1 HK1
  generalize World.setCell _ ⟨w.heap.size, 2, none⟩ _ = w2 at hB2 hk2 ⊢
  have hB2 : Blk w2 w.heap.size 28 #[.int .u32 a.len, .int .u8 2, .int .u8 fl, .int .u16 a.off, .int .u16 a.ver, .int .u16 a.neg, .int .u16 a.hist, .int .u8 a.a0, .int .u8 a.a1, .int .u32 a.su, .int .u32 a.tu, .string a.adr, .slice p n c] := by simpa using hB2
  have c0 : w2.cell? ⟨w.heap.size, 0, none⟩ = some (.int .u32 a.len) := hB2.cell 0
  have c1 : w2.cell? ⟨w.heap.size, 1, none⟩ = some (.int .u8 2) := hB2.cell 1
  have c2 : w2.cell? ⟨w.heap.size, 2, none⟩ = some (.int .u8 fl) := hB2.cell 2
  have c3 : w2.cell? ⟨w.heap.size, 3, none⟩ = some (.int .u16 a.off) := hB2.cell 3
  have c4 : w2.cell? ⟨w.heap.size, 4, none⟩ = some (.int .u16 a.ver) := hB2.cell 4
  have c5 : w2.cell? ⟨w.heap.size, 5, none⟩ = some (.int .u16 a.neg) := hB2.cell 5
  have c6 : w2.cell? ⟨w.heap.size, 6, none⟩ = some (.int .u16 a.hist) := hB2.cell 6
  have c7 : w2.cell? ⟨w.heap.size, 7, none⟩ = some (.int .u8 a.a0) := hB2.cell 7
  have c8 : w2.cell? ⟨w.heap.size, 8, none⟩ = some (.int .u8 a.a1) := hB2.cell 8
  have c9 : w2.cell? ⟨w.heap.size, 9, none⟩ = some (.int .u32 a.su) := hB2.cell 9
  have c10 : w2.cell? ⟨w.heap.size, 10, none⟩ = some (.int .u32 a.tu) := hB2.cell 10
  have c11 : w2.cell? ⟨w.heap.size, 11, none⟩ = some (.string a.adr) := hB2.cell 11
  have c12 : w2.cell? ⟨w.heap.size, 12, none⟩ = some (.slice p n c) := hB2.cell 12
  have HK2 := Lib.hid hk2
  clear hk2 hB2
  go_wp2_with fail
  refine (CS.out w2 (bin_kp HI.out HK2.out)).mono ?_
  rintro e w3 ⟨v, rfl, ⟨L, hlay, hown⟩, hk3⟩
  obtain ⟨q3, d3, rfl, hin⟩ := bin_own hown
  have hcap := own_cap hown
  have HN3 := Lib.hid (HT.out L hlay)
  have HL := Lib.hid hlay.len
  have HI3 := Lib.hid hin
  have HC3 := Lib.hid hcap
  have HK3 := Lib.hid (HK2.out.trans hk3)
  have g1 : (r : Int) ≤ (d3 : Int) := by omega
  have g2 : (0 : Int) ≤ (r : Int) := by omega
  clear hown hin hlay hk3 hcap HK2 CS c0 c1 c2 c3 c4 c5 c6 c7 c8 c9 c10 c11 c12
  go_wp2_with fail
  have hlr : ((L ++ xs).take r).length = r := by have h1 := HL.out; have h2 := HX.out; rw [List.length_take, List.length_append]; omega
  refine (clone_any w3 q3 r d3 ((L ++ xs).take r) (bin_take HI3.out (by omega)) hlr (by omega)).mono ?_
  rintro e w4 ⟨q4, d4, rfl, hown4, hk4⟩
  have HI4 := Lib.hid (bin_of_own hown4)
  have HI3' := Lib.hid (bin_kp HI3.out hk4)
  have HK4 := Lib.hid (HK3.out.trans hk4)
  have HLR := Lib.hid hlr
  clear hown4 hk4 hlr HI3 HK3
  go_wp2_with fail
  refine (implAcc_nil q4 r d4 _ w4 HI4.out HLR.out (by omega) (accNil_short _ (by rw [HLR.out]; exact hr2))).mono ?_
  rintro e w5 ⟨rfl, hk5⟩
  have HI5 := Lib.hid (bin_kp HI3'.out hk5)
  have HK5 := Lib.hid (HK4.out.trans hk5)
  clear hk5 HI4 HI3' HK4
  go_wp2_with fail
  generalize hW : World.alloc w5 _ = w6
  have hk6 : Kp w5 w6 := hW ▸ (Kp.refl w5).alloc _
  have HI6 := Lib.hid (bin_kp HI5.out hk6)
  have HK6 := Lib.hid (HK5.out.trans hk6)
  clear hW hk6 HI5 HK5
  have hl6 : (L ++ xs).length = 41 + n := by rw [List.length_append, HL.out, HX.out]
  refine (clone_any w6 q3 (41 + n) d3 (L ++ xs) HI6.out hl6 (by have := HN.out; omega)).mono ?_
  rintro e w7 ⟨q7, d7, rfl, hown7, hk7⟩
  have hk7' := HK6.out.trans hk7
  obtain ⟨v1, w8, hrun, hov, hgr, _⟩ := run_append_bytes w7 w6.heap.size _ (41 + n) _ hown7 q k d ys (bin_kp HJ.out hk7') HY.out (by have := HN.out; have := HK.out; omega) hk7.size
  obtain ⟨q8, d8, rfl, hin8⟩ := bin_own hov
  have HR := Lib.hid hrun
  have HI8 := Lib.hid hin8
  have HK8 := Lib.hid (hk7'.grown hgr (fun k' hk' => by have := own_ge hown7 k' hk'; have := HK6.out.size; omega))
  clear hown7 hk7 hk7' hrun hov hgr hin8 HI6 HK6
  go_wp2_with (at_builtin; refine Lib.wpList_append_run _ rfl _ _ _ _ rfl _ _ rfl rfl _ _ HR.out ?_)
  refine (implAcc_nil q8 (41 + n + k) d8 _ w8 HI8.out (by rw [List.length_append, hl6, HY.out]) (by have := HN.out; have := HK.out; omega) HN3.out).mono ?_
  rintro e w9 ⟨rfl, hk9⟩
  have HK9 := Lib.hid (HK8.out.trans hk9)
  clear hk9 HK8 HI8 HR hl6
  go_wp2_with fail
  generalize hW : World.alloc w9 _ = w10
  have HK10 := Lib.hid (HK9.out.trans (show Kp w9 w10 from hW ▸ (Kp.refl w9).alloc _))
  clear hW HK9
  refine (packetAwake_any w10).mono ?_
  rintro e w11 ⟨rfl, hk11⟩
  have HK11 := Lib.hid (HK10.out.call hk11)
  clear hk11 HK10
  go_wp2_with fail
  go_ret
  exact ⟨rfl, HK11.out⟩

set_option maxHeartbeats 4000000 in
set_option maxRecDepth 100000 in
theorem fnTorn_any (a : Ac) (p : Option Addr) (n c : Nat) (xs : List Int) (m1 : Int) (q : Option Addr) (k d : Nat) (ys : List Int) (w : World) (ok : a.Ok) (ha : a.adr.size ≤ maxLen)
    (hi : Lib.BytesIn w p n xs) (hx : xs.length = n) (hnm : n ≤ maxLen) (hm : 0 ≤ m1 ∧ m1 < 256)
    (hj : Lib.BytesIn w q k ys) (hy : ys.length = k) (hkm : k ≤ maxLen) :
    Calls Tryd.prog 3 #[.agg (a.cells (.slice p n c)), .int .u8 m1, .slice q k d] w fun e w' => e = .returned (.bool true) ∧ Below w.heap.size w w' := by
  by_cases hall : a.adr.size ≤ 2147483647 ∧ n ≤ 2000 ∧ 0 < k ∧ k ≤ 100
  · obtain ⟨h1, h2, h3, h4⟩ := hall
    exact fnTorn_main a p n c xs m1 q k d ys w ok ha h1 hi hx h2 hm hj hy h3 h4
  have CF := Lib.hid (fun w1 => zzFits10_any a p n c w1 ha hnm)
  have i1 : ((k : Nat) : Int) ≤ 9223372036854775807 := by unfold maxLen at hkm; omega
  have i2 : ((n : Nat) : Int) ≤ 9223372036854775807 := by unfold maxLen at hnm; omega
  clear hi hx hj hy ok ha hm hkm hnm
  unfold Ac.cells at *
  by_cases hf : a.adr.size ≤ 2147483647 ∧ n ≤ 2147483647
  · have d1 : (decide (a.adr.size ≤ 2147483647) && decide (n ≤ 2147483647)) = true := by simp [hf.1, hf.2]
    have CF := Lib.hid (fun w1 => by have h := CF.out w1; rw [d1] at h; exact h)
    by_cases h4 : k ≤ 2147483647
    · have e4 : decide ((2147483647 : Int) < ((k : Nat) : Int)) = false := by simp; omega
      by_cases h1 : n ≤ 2000
      · have e1 : decide ((2000 : Int) < ((n : Nat) : Int)) = false := by simp; omega
        by_cases h2 : k = 0
        · have e2 : (((k : Nat) : Int) == 0) = true := by simp; omega
          clear hall hf h1 h2 h4
          go_enter Tryd.func3, Tryd.ntmps3
          go_wp2_with fail
          generalize hW : w.alloc (.cells #[.int .u32 a.len, .int .u8 a.ty, .int .u8 a.fl, .int .u16 a.off, .int .u16 a.ver, .int .u16 a.neg, .int .u16 a.hist, .int .u8 a.a0, .int .u8 a.a1, .int .u32 a.su, .int .u32 a.tu, .string a.adr, .slice p n c] 28) = W
          have hB := hW ▸ Blk.new w 28 #[.int .u32 a.len, .int .u8 a.ty, .int .u8 a.fl, .int .u16 a.off, .int .u16 a.ver, .int .u16 a.neg, .int .u16 a.hist, .int .u8 a.a0, .int .u8 a.a1, .int .u32 a.su, .int .u32 a.tu, .string a.adr, .slice p n c]
          have hkW : Kp w W := hW ▸ (Kp.refl w).alloc _
          clear hW
          refine (CF.out W).mono ?_
          rintro e w1 ⟨rfl, hk1⟩
          have hB1 := hB.kp hk1
          have q12 : w1.cell? ⟨w.heap.size, 12, none⟩ = some (.slice p n c) := hB1.cell 12
          have HK1 := Lib.hid (hkW.trans hk1)
          clear hB hkW hk1 hB1 CF
          go_wp2_with fail
          refine (packetAwake_any w1).mono ?_
          rintro e w2 ⟨rfl, hk2⟩
          have HK2 := Lib.hid (HK1.out.call hk2)
          clear hk2 HK1
          go_wp2_with fail
          go_ret
          exact ⟨rfl, HK2.out⟩
        · have e2 : (((k : Nat) : Int) == 0) = false := by simp; omega
          have e3 : decide ((100 : Int) < ((k : Nat) : Int)) = true := by simp; omega
          clear hall hf h1 h2 h4
          go_enter Tryd.func3, Tryd.ntmps3
          go_wp2_with fail
          generalize hW : w.alloc (.cells #[.int .u32 a.len, .int .u8 a.ty, .int .u8 a.fl, .int .u16 a.off, .int .u16 a.ver, .int .u16 a.neg, .int .u16 a.hist, .int .u8 a.a0, .int .u8 a.a1, .int .u32 a.su, .int .u32 a.tu, .string a.adr, .slice p n c] 28) = W
          have hB := hW ▸ Blk.new w 28 #[.int .u32 a.len, .int .u8 a.ty, .int .u8 a.fl, .int .u16 a.off, .int .u16 a.ver, .int .u16 a.neg, .int .u16 a.hist, .int .u8 a.a0, .int .u8 a.a1, .int .u32 a.su, .int .u32 a.tu, .string a.adr, .slice p n c]
          have hkW : Kp w W := hW ▸ (Kp.refl w).alloc _
          clear hW
          refine (CF.out W).mono ?_
          rintro e w1 ⟨rfl, hk1⟩
          have hB1 := hB.kp hk1
          have q12 : w1.cell? ⟨w.heap.size, 12, none⟩ = some (.slice p n c) := hB1.cell 12
          have HK1 := Lib.hid (hkW.trans hk1)
          clear hB hkW hk1 hB1 CF
          go_wp2_with fail
          refine (packetAwake_any w1).mono ?_
          rintro e w2 ⟨rfl, hk2⟩
          have HK2 := Lib.hid (HK1.out.call hk2)
          clear hk2 HK1
          go_wp2_with fail
          go_ret
          exact ⟨rfl, HK2.out⟩
      · have e1 : decide ((2000 : Int) < ((n : Nat) : Int)) = true := by simp; omega
        clear hall hf h1 h4
        go_enter Tryd.func3, Tryd.ntmps3
        go_wp2_with fail
        generalize hW : w.alloc (.cells #[.int .u32 a.len, .int .u8 a.ty, .int .u8 a.fl, .int .u16 a.off, .int .u16 a.ver, .int .u16 a.neg, .int .u16 a.hist, .int .u8 a.a0, .int .u8 a.a1, .int .u32 a.su, .int .u32 a.tu, .string a.adr, .slice p n c] 28) = W
        have hB := hW ▸ Blk.new w 28 #[.int .u32 a.len, .int .u8 a.ty, .int .u8 a.fl, .int .u16 a.off, .int .u16 a.ver, .int .u16 a.neg, .int .u16 a.hist, .int .u8 a.a0, .int .u8 a.a1, .int .u32 a.su, .int .u32 a.tu, .string a.adr, .slice p n c]
        have hkW : Kp w W := hW ▸ (Kp.refl w).alloc _
        clear hW
        refine (CF.out W).mono ?_
        rintro e w1 ⟨rfl, hk1⟩
        have hB1 := hB.kp hk1
        have q12 : w1.cell? ⟨w.heap.size, 12, none⟩ = some (.slice p n c) := hB1.cell 12
        have HK1 := Lib.hid (hkW.trans hk1)
        clear hB hkW hk1 hB1 CF
        go_wp2_with fail
        refine (packetAwake_any w1).mono ?_
        rintro e w2 ⟨rfl, hk2⟩
        have HK2 := Lib.hid (HK1.out.call hk2)
        clear hk2 HK1
        go_wp2_with fail
        go_ret
        exact ⟨rfl, HK2.out⟩
    · have e4 : decide ((2147483647 : Int) < ((k : Nat) : Int)) = true := by simp; omega
      clear hall hf h4
      go_enter Tryd.func3, Tryd.ntmps3
      go_wp2_with fail
      generalize hW : w.alloc (.cells #[.int .u32 a.len, .int .u8 a.ty, .int .u8 a.fl, .int .u16 a.off, .int .u16 a.ver, .int .u16 a.neg, .int .u16 a.hist, .int .u8 a.a0, .int .u8 a.a1, .int .u32 a.su, .int .u32 a.tu, .string a.adr, .slice p n c] 28) = W
      have hB := hW ▸ Blk.new w 28 #[.int .u32 a.len, .int .u8 a.ty, .int .u8 a.fl, .int .u16 a.off, .int .u16 a.ver, .int .u16 a.neg, .int .u16 a.hist, .int .u8 a.a0, .int .u8 a.a1, .int .u32 a.su, .int .u32 a.tu, .string a.adr, .slice p n c]
      have hkW : Kp w W := hW ▸ (Kp.refl w).alloc _
      clear hW
      refine (CF.out W).mono ?_
      rintro e w1 ⟨rfl, hk1⟩
      have hB1 := hB.kp hk1
      have q12 : w1.cell? ⟨w.heap.size, 12, none⟩ = some (.slice p n c) := hB1.cell 12
      have HK1 := Lib.hid (hkW.trans hk1)
      clear hB hkW hk1 hB1 CF
      go_wp2_with fail
      go_ret
      exact ⟨rfl, HK1.out⟩
  · have d1 : (decide (a.adr.size ≤ 2147483647) && decide (n ≤ 2147483647)) = false := by
      rw [← Bool.not_eq_true]; simp only [Bool.and_eq_true, decide_eq_true_eq]; exact hf
    have CF := Lib.hid (fun w1 => by have h := CF.out w1; rw [d1] at h; exact h)
    clear hall hf
    go_enter Tryd.func3, Tryd.ntmps3
    go_wp2_with fail
    generalize hW : w.alloc (.cells #[.int .u32 a.len, .int .u8 a.ty, .int .u8 a.fl, .int .u16 a.off, .int .u16 a.ver, .int .u16 a.neg, .int .u16 a.hist, .int .u8 a.a0, .int .u8 a.a1, .int .u32 a.su, .int .u32 a.tu, .string a.adr, .slice p n c] 28) = W
    have hB := hW ▸ Blk.new w 28 #[.int .u32 a.len, .int .u8 a.ty, .int .u8 a.fl, .int .u16 a.off, .int .u16 a.ver, .int .u16 a.neg, .int .u16 a.hist, .int .u8 a.a0, .int .u8 a.a1, .int .u32 a.su, .int .u32 a.tu, .string a.adr, .slice p n c]
    have hkW : Kp w W := hW ▸ (Kp.refl w).alloc _
    clear hW
    refine (CF.out W).mono ?_
    rintro e w1 ⟨rfl, hk1⟩
    have hB1 := hB.kp hk1
    have q12 : w1.cell? ⟨w.heap.size, 12, none⟩ = some (.slice p n c) := hB1.cell 12
    have HK1 := Lib.hid (hkW.trans hk1)
    clear hB hkW hk1 hB1 CF
    go_wp2_with fail
    go_ret
    exact ⟨rfl, HK1.out⟩

end Go.Proofs.YtacmnibhdmeidaaDoor
