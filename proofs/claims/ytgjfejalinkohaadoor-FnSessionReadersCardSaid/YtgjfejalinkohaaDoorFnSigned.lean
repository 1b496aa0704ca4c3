/-
  FnSessionSigned: a number is written in one way with a sign and without, and read as it is by both readers.
-/
import Derived.Test.YtgjfejalinkohaaDoorSes15
namespace Go.Proofs.YtgjfejalinkohaaDoor
open Go Go.RowKit

theorem partSize_or (s : Nat) : partSize s = 1 ∨ partSize s = 2 ∨ partSize s = 4 ∨ partSize s = 8 := by
  unfold partSize; split
  · simp
  split
  · simp
  split <;> simp
theorem partNum_lt (kd s num : Nat) : partNum kd s num < 256 ^ partSize s := by
  have hp : 0 < 256 ^ partSize s := Nat.pow_pos (by omega)
  have h2 : 2 ≤ 256 ^ partSize s := by rcases partSize_or s with h | h | h | h <;> rw [h] <;> decide
  unfold partNum
  split
  · have := Nat.mod_lt num (show 0 < 256 ^ partSize s / 2 by omega); omega
  · exact Nat.mod_lt _ hp
theorem partNum_half (kd s num : Nat) (h : kd % 6 = 2) : partNum kd s num ≤ 9223372036854775807 := by
  unfold partNum
  rw [if_pos h]
  rcases partSize_or s with h | h | h | h <;> rw [h] <;> omega
theorem partNum_max (kd s num : Nat) : partNum kd s num < 18446744073709551616 := by
  have := partNum_lt kd s num
  rcases partSize_or s with h | h | h | h <;> rw [h] at this <;> omega
theorem numW_len (s : Nat) (b c : Bool) (v : Nat) (hs : s ≤ 8) : (numW s b c v).length ≤ 9 := by
  unfold numW
  split
  · exact packed_len v
  · rw [plain_length]; omega

theorem ok_num (k v : Nat) (big cm : Bool) (hk : k = 1 ∨ k = 2 ∨ k = 4 ∨ k = 8) (hv : v < 256 ^ k) (hv2 : v ≤ 9223372036854775807) : PStep.Ok ⟨2, none, 0, 0, [], none, 0, 0, [], v, 0, k, 0, big, cm⟩ :=
  ⟨by simp, rfl, rfl, by simp, by simp, by simp, fun _ => ⟨hk, v, rfl, hv, hv2⟩, fun h => by dsimp only at h; omega⟩
theorem ok_uns (k v : Nat) (big cm : Bool) (hk : k = 1 ∨ k = 2 ∨ k = 4 ∨ k = 8) (hv : v < 256 ^ k) : PStep.Ok ⟨3, none, 0, 0, [], none, 0, 0, [], 0, v, k, 0, big, cm⟩ :=
  ⟨by simp, rfl, rfl, by simp, by simp, by simp, fun h => by dsimp only at h; omega, fun _ => ⟨hk, v, rfl, hv⟩⟩
/-- What the reading of one number leaves. -/
def NumC (v : Nat) (W : World) (s : Value) (wx : World) : Prop := ∃ g cap, s = .slice (some ⟨g, 0, none⟩) 1 cap ∧ 1 ≤ cap ∧ cap ≤ maxLen ∧ g < wx.heap.size ∧ wx.cell? ⟨g, 0, none⟩ = some (.bool true) ∧ wx.cell? ⟨g, 3, none⟩ = some (.int .i64 (v : Int)) ∧ Kp W wx

set_option maxRecDepth 100000 in
set_option maxHeartbeats 16000000 in
theorem fnSessionSigned_at (num s k v : Nat) (big comp cm : Bool) (w : World) (hnum : num < 18446744073709551616) (hs : s < 256) (hk : partSize s = k) (hv : partNum 2 s num = v) (hcm : cm = (comp && decide (1 < k))) :
    Calls Tryd.prog 6 #[.int .u64 (num : Int), .int .u8 (s : Int), .bool big, .bool comp] w fun e w' => e = .returned (.bool true) ∧ Below w.heap.size w w' := by
  have SZ := Lib.hid (fun w b c (f : Int) q1 q2 k1 c1 k2 c2 => sessionSize_any 2 s num b c f q1 q2 k1 c1 k2 c2 w (by omega) hs hnum)
  rw [hk, hv] at SZ
  have hk4 : k = 1 ∨ k = 2 ∨ k = 4 ∨ k = 8 := hk ▸ partSize_or s
  have hv1 : v < 256 ^ k := hk ▸ hv ▸ partNum_lt 2 s num
  have hv2 : v ≤ 9223372036854775807 := hv ▸ partNum_half 2 s num (by omega)
  have i0 : (0 : Int) ≤ (v : Int) := by omega
  have i1 : (v : Int) ≤ 9223372036854775807 := by omega
  have i2 : (1 : Int) ≤ (k : Int) := by omega
  have i3 : (k : Int) ≤ 8 := by omega
  have HC : Hid (cm = true → 1 < k) := fun h => by rw [hcm] at h; simp at h; exact h.2
  have HV1 := Lib.hid hv1
  have HV2 := Lib.hid hv2
  have HK4 := Lib.hid hk4
  obtain ⟨N, hN⟩ : ∃ N, N = numW k big cm v := ⟨_, rfl⟩
  obtain ⟨l, hl⟩ : ∃ l, l = N.length := ⟨_, rfl⟩
  have HL := Lib.hid hl.symm
  have HL9 := Lib.hid (show l ≤ 9 from by rw [hl, hN]; exact numW_len _ _ _ _ (by omega))
  have HBY := Lib.hid (show Bys N from hN ▸ bys_num _ _ _ _)
  have HR := Lib.hid (show RdInt k cm big N v [] from by have := rdInt_mk k cm big v (by omega) hv1 []; rw [List.append_nil, ← hN] at this; exact this)
  have E2 := Lib.hid (show ∀ ch, stepW false ch ⟨2, none, 0, 0, [], none, 0, 0, [], v, 0, k, 0, big, cm⟩ = N from fun ch => by rw [hN]; simp [stepW])
  have E3 := Lib.hid (show ∀ ch, stepW false ch ⟨3, none, 0, 0, [], none, 0, 0, [], 0, v, k, 0, big, cm⟩ = N from fun ch => by
    rw [hN]
    have : (cm && decide (1 < k)) = cm := by cases h : cm <;> simp; exact HC.out h
    simp [stepW, this])
  have CL := Lib.hid (fun q d w1 (h : Lib.BytesIn w1 q l N) => clone_any w1 q l d N h hl.symm (by have := HL9.out; omega))
  have HCM := Lib.hid hcm
  clear hnum hs hk hv hk4 hv1 hv2 hcm hN hl
  cases comp
  · have hcf : cm = false := by rw [HCM.out, Bool.false_and]
    subst hcf
    clear HCM
    go_enter Tryd.func6, Tryd.ntmps6
    go_wp2_with fail
    refine (SZ.out _ _ _ _ _ _ _ _ _ _).mono ?_
    rintro e w1 ⟨rfl, hb1⟩
    have HK := Lib.hid (show Kp w w1 from hb1)
    clear hb1
    go_wp2_with fail
    generalize hW : w1.alloc (.cells #[.int .i64 2, .slice none 0 0, .slice none 0 0, .int .i64 (v : Int), .int .u64 0, .int .u8 (k : Int), .int .u8 0, .bool big, .bool false] 31) = W1
    have C1 := Lib.hid (put1 W1 w1.heap.size ⟨2, none, 0, 0, [], none, 0, 0, [], v, 0, k, 0, big, false⟩ false 64 (hW ▸ Blk.new w1 _ _) (Lib.BytesIn.nil _ _ _) (Lib.BytesIn.nil _ _ _) (ok_num k v big _ HK4.out HV1.out HV2.out) (by decide) (by decide) (fun _ => by decide))
    have HKW := Lib.hid (show Kp w W1 from hW ▸ HK.out.alloc _)
    clear hW
    refine C1.out.mono ?_
    rintro e w2 ⟨q2, l2, d2, rfl, hl2, hown2, hb2⟩
    rw [E2.out] at hl2 hown2
    obtain rfl : l = l2 := by rw [← hl2]; exact HL.out.symm
    have HA := Lib.hid (bin_of_own hown2)
    have HK2 := Lib.hid (HKW.out.call hb2)
    clear hl2 hown2 hb2 C1
    go_wp2_with fail
    generalize hW : w2.alloc (.cells #[.int .i64 3, .slice none 0 0, .slice none 0 0, .int .i64 0, .int .u64 (v : Int), .int .u8 (k : Int), .int .u8 0, .bool big, .bool false] 31) = W2
    have C1 := Lib.hid (put1 W2 w2.heap.size ⟨3, none, 0, 0, [], none, 0, 0, [], 0, v, k, 0, big, false⟩ false 64 (hW ▸ Blk.new w2 _ _) (Lib.BytesIn.nil _ _ _) (Lib.BytesIn.nil _ _ _) (ok_uns k v big _ HK4.out HV1.out) (by decide) (by decide) (fun _ => by decide))
    have HKW2 := Lib.hid (show Kp w2 W2 from hW ▸ (Kp.refl w2).alloc _)
    clear hW
    refine C1.out.mono ?_
    rintro e w3 ⟨q3, l3, d3, rfl, hl3, hown3, hb3⟩
    rw [E3.out] at hl3 hown3
    obtain rfl : l = l3 := by rw [← hl3]; exact HL.out.symm
    have HB3 := Lib.hid (bin_of_own hown3)
    have hk23 := HKW2.out.call hb3
    have HA3 := Lib.hid (bin_kp HA.out hk23)
    have HK3 := Lib.hid (HK2.out.trans hk23)
    clear hl3 hown3 hb3 C1 hk23
    go_wp2_with fail
    generalize hX : w3.alloc (.cells #[.int .i64 4, .int .i64 (k : Int), .bool big, .bool false] 33) = X
    obtain ⟨tb, htb⟩ : ∃ tb, tb = w3.heap.size := ⟨_, rfl⟩
    have HT1 := Lib.hid (show Blk X tb 33 #[.int .i64 4, .int .i64 (k : Int), .bool big, .bool false] from by rw [htb, ← hX]; exact Blk.new w3 _ _)
    have HKX := Lib.hid (show Kp w3 X from hX ▸ (Kp.refl w3).alloc _)
    have HAX := Lib.hid (bin_kp HA3.out HKX.out)
    have HTB := Lib.hid htb
    rw [← htb]
    clear hX htb
    go_cut [13] (fun s wx => NumC v X s wx)
    case first =>
      have x0 : X.cell? ⟨tb, 0, none⟩ = some (.int .i64 4) := HT1.out.cell 0
      have x1 : X.cell? ⟨tb, 1, none⟩ = some (.int .i64 (k : Int)) := HT1.out.cell 1
      have x2 : X.cell? ⟨tb, 2, none⟩ = some (.bool big) := HT1.out.cell 2
      have x3 : X.cell? ⟨tb, 3, none⟩ = some (.bool false) := HT1.out.cell 3
      have htb := HT1.out.lt
      go_region_held3 (fun w' => w'.cell? ⟨tb, 0, none⟩ = some (.int .i64 4) ∧ w'.cell? ⟨tb, 1, none⟩ = some (.int .i64 (k : Int)) ∧ w'.cell? ⟨tb, 2, none⟩ = some (.bool big) ∧ w'.cell? ⟨tb, 3, none⟩ = some (.bool false)) (go_keep)
        (first
          | (go_at_call 15; refine (CL.out _ _ _ (by first | exact HAX.out | exact bin_alloc HAX.out _)).mono ?_; rintro e wk ⟨q5, d5, rfl, hown, hb⟩; have HO5 := Lib.hid (bin_of_own hown); have HB5 := Lib.hid hb; have hkk : Kp X wk := (by first | exact (Kp.refl X).call hb | exact (Kp.refl X).drew.call hb | exact ((Kp.refl X).alloc _).call hb | exact ((Kp.refl X).alloc _).drew.call hb | exact ((Kp.refl X).drew.alloc _).call hb); have HKK := Lib.hid hkk; have y0 : wk.cell? ⟨tb, 0, none⟩ = some (.int .i64 4) := (HT1.out.kp hkk).cell 0; have y1 : wk.cell? ⟨tb, 1, none⟩ = some (.int .i64 (k : Int)) := (HT1.out.kp hkk).cell 1; have y2 : wk.cell? ⟨tb, 2, none⟩ = some (.bool big) := (HT1.out.kp hkk).cell 2; have y3 : wk.cell? ⟨tb, 3, none⟩ = some (.bool false) := (HT1.out.kp hkk).cell 3; have hs5 := hkk.size; have htk : tb < wk.heap.size := (by omega); clear hown hb hkk x0 x1 x2 x3)
          | (go_at_call 16; refine (get1 _ _ ⟨4, k, big, false⟩ q5 l d5 N false ⟨[], [], v, noText⟩ [] (by first | exact Blk.new wk _ _ | exact (Blk.new _ _ _).old HB5.out | exact (Blk.new _ _ _).drew.old HB5.out) (by first | exact bin_alloc HO5.out _ | exact HO5.out) HL.out HBY.out (by have := HL9.out; omega) (.inr (.inr (.inr (.inr (.inl ⟨Or.inl rfl, fun _ => by have := HK4.out; dsimp only; omega, _, HR.out, rfl⟩)))))).mono ?_; rintro e wg ⟨g, cap, qa, ka, ma, qb, kb, mb, q6, l6, d6, rfl, hc1, hc2, hg1, hg2, c0, c1, c2, c3, c4, hka, hina, hkb, hinb, hl, hin, hb6⟩; have HC0 := Lib.hid c0; have HC3 := Lib.hid c3; have hkg : Kp wk wg := (by first | exact ((Kp.refl wk).alloc _).call hb6 | exact (Kp.refl wk).call hb6); have HKG := Lib.hid (HKK.out.trans hkg); have z0 : wg.cell? ⟨tb, 0, none⟩ = some (.int .i64 4) := (HT1.out.kp HKG.out).cell 0; have z1 : wg.cell? ⟨tb, 1, none⟩ = some (.int .i64 (k : Int)) := (HT1.out.kp HKG.out).cell 1; have z2 : wg.cell? ⟨tb, 2, none⟩ = some (.bool big) := (HT1.out.kp HKG.out).cell 2; have z3 : wg.cell? ⟨tb, 3, none⟩ = some (.bool false) := (HT1.out.kp HKG.out).cell 3; clear c0 c1 c2 c3 c4 hka hina hkb hinb hl hin hb6 hkg y0 y1 y2 y3 hg1))
      all_goals
        go_wp2_with fail
        go_meet
        exact ⟨g, cap, rfl, hc1, hc2, hg2, HC0.out, HC3.out, HKG.out⟩
    case rest =>
      obtain ⟨g, cap, rfl, hc1, hc2, hg2, c0, c3, hkx⟩ := hcut
      have HKC := Lib.hid hkx
      have HC0 := Lib.hid c0
      have HC3 := Lib.hid c3
      have HTC := Lib.hid (HT1.out.kp hkx)
      have z0 : wc.cell? ⟨tb, 0, none⟩ = some (.int .i64 4) := HTC.out.cell 0
      have f0 : wc.frozen? ⟨tb, 0, none⟩ = false := HTC.out.frozen 0
      have htg : tb < X.heap.size := HT1.out.lt
      clear hkx c0 c3
      go_wp2_with fail
      generalize hY : wc.setCell ⟨tb, 0, none⟩ (.int .i64 5) = Y
      have HT2 := Lib.hid (show Blk Y tb 33 #[.int .i64 5, .int .i64 (k : Int), .bool big, .bool false] from by have := HTC.out.set_ 0 (.int .i64 5); rw [hY] at this; simpa using this)
      have hsY : Y.heap.size = wc.heap.size := by rw [← hY]; simp [World.setCell]
      have hne : g ≠ tb := by
        rintro rfl
        have h1 := HTC.out.cell 0
        rw [HC0.out] at h1
        simp at h1
      have HY0 := Lib.hid (show Y.cell? ⟨g, 0, none⟩ = some (.bool true) from by rw [← hY, World.cell?_setCell_other _ _ _ _ (fun e => hne (by injection e with e1; exact e1.symm))]; exact HC0.out)
      have HY3 := Lib.hid (show Y.cell? ⟨g, 3, none⟩ = some (.int .i64 (v : Int)) from by rw [← hY, World.cell?_setCell_other _ _ _ _ (fun e => hne (by injection e with e1; exact e1.symm))]; exact HC3.out)
      have HAC := Lib.hid (bin_kp HAX.out HKC.out)
      have HBC := Lib.hid (bin_kp (bin_kp HB3.out HKX.out) HKC.out)
      have hkeep : ∀ (q : Option Addr) (j : Nat) (ds : List Int), Lib.BytesIn wc q j ds → Lib.BytesIn Y q j ds := fun q j ds h => bin_nb HTC.out (fun o y => by
        match o with
        | 0 => simp
        | 1 => simp
        | 2 => simp
        | 3 => simp
        | o + 4 => simp) h (fun b _ hb => by rw [← hY]; exact Below.heap_setCell _ ⟨tb, 0, none⟩ _ _ hb)
      have HAY := Lib.hid (hkeep _ _ _ HAC.out)
      have HBY' := Lib.hid (hkeep _ _ _ HBC.out)
      have HKY := Lib.hid (show Below w.heap.size w Y from by rw [← hY]; exact Kp.set ((HK3.out.trans HKX.out).trans HKC.out) (by have := HK3.out.size; have h1 := HTB.out; dsimp only; omega) _)
      have hg2Y : g < Y.heap.size := by omega
      have HG2Y := Lib.hid hg2Y
      clear hY z0 f0 hkeep hne hsY
      go_cut [15] (fun s wx => NumC v Y s wx)
      case first =>
        have x0 : Y.cell? ⟨tb, 0, none⟩ = some (.int .i64 5) := HT2.out.cell 0
        have x1 : Y.cell? ⟨tb, 1, none⟩ = some (.int .i64 (k : Int)) := HT2.out.cell 1
        have x2 : Y.cell? ⟨tb, 2, none⟩ = some (.bool big) := HT2.out.cell 2
        have x3 : Y.cell? ⟨tb, 3, none⟩ = some (.bool false) := HT2.out.cell 3
        have htb := HT2.out.lt
        go_region_held3 (fun w' => w'.cell? ⟨tb, 0, none⟩ = some (.int .i64 5) ∧ w'.cell? ⟨tb, 1, none⟩ = some (.int .i64 (k : Int)) ∧ w'.cell? ⟨tb, 2, none⟩ = some (.bool big) ∧ w'.cell? ⟨tb, 3, none⟩ = some (.bool false)) (go_keep)
          (first
            | (go_at_call 15; refine (CL.out _ _ _ (by first | exact HAY.out | exact bin_alloc HAY.out _)).mono ?_; rintro e wk ⟨q5, d5, rfl, hown, hb⟩; have HO5 := Lib.hid (bin_of_own hown); have HB5 := Lib.hid hb; have hkk : Kp Y wk := (by first | exact (Kp.refl Y).call hb | exact (Kp.refl Y).drew.call hb | exact ((Kp.refl Y).alloc _).call hb | exact ((Kp.refl Y).alloc _).drew.call hb | exact ((Kp.refl Y).drew.alloc _).call hb); have HKK := Lib.hid hkk; have y0 : wk.cell? ⟨tb, 0, none⟩ = some (.int .i64 5) := (HT2.out.kp hkk).cell 0; have y1 : wk.cell? ⟨tb, 1, none⟩ = some (.int .i64 (k : Int)) := (HT2.out.kp hkk).cell 1; have y2 : wk.cell? ⟨tb, 2, none⟩ = some (.bool big) := (HT2.out.kp hkk).cell 2; have y3 : wk.cell? ⟨tb, 3, none⟩ = some (.bool false) := (HT2.out.kp hkk).cell 3; have hs5 := hkk.size; have htk : tb < wk.heap.size := (by omega); clear hown hb hkk x0 x1 x2 x3)
            | (go_at_call 16; refine (get1 _ _ ⟨5, k, big, false⟩ q5 l d5 N false ⟨[], [], v, noText⟩ [] (by first | exact Blk.new wk _ _ | exact (Blk.new _ _ _).old HB5.out | exact (Blk.new _ _ _).drew.old HB5.out) (by first | exact bin_alloc HO5.out _ | exact HO5.out) HL.out HBY.out (by have := HL9.out; omega) (.inr (.inr (.inr (.inr (.inl ⟨Or.inr rfl, fun _ => by have := HK4.out; dsimp only; omega, _, HR.out, rfl⟩)))))).mono ?_; rintro e wg ⟨g, cap, qa, ka, ma, qb, kb, mb, q6, l6, d6, rfl, hc1, hc2, hg1, hg2, c0, c1, c2, c3, c4, hka, hina, hkb, hinb, hl, hin, hb6⟩; have HC0 := Lib.hid c0; have HC3 := Lib.hid c3; have hkg : Kp wk wg := (by first | exact ((Kp.refl wk).alloc _).call hb6 | exact (Kp.refl wk).call hb6); have HKG := Lib.hid (HKK.out.trans hkg); have z0 : wg.cell? ⟨tb, 0, none⟩ = some (.int .i64 5) := (HT2.out.kp HKG.out).cell 0; have z1 : wg.cell? ⟨tb, 1, none⟩ = some (.int .i64 (k : Int)) := (HT2.out.kp HKG.out).cell 1; have z2 : wg.cell? ⟨tb, 2, none⟩ = some (.bool big) := (HT2.out.kp HKG.out).cell 2; have z3 : wg.cell? ⟨tb, 3, none⟩ = some (.bool false) := (HT2.out.kp HKG.out).cell 3; clear c0 c1 c2 c3 c4 hka hina hkb hinb hl hin hb6 hkg y0 y1 y2 y3 hg1))
        all_goals
          go_wp2_with fail
          go_meet
          exact ⟨g, cap, rfl, hc1, hc2, hg2, HC0.out, HC3.out, HKG.out⟩
      case rest =>
        obtain ⟨h, cap2, rfl, hd1, hd2, hh2, c0, c3, hkx⟩ := hcut
        have a0 : wc.cell? ⟨g, 0, none⟩ = some (.bool true) := below_some hkx HY0.out
        have a3 : wc.cell? ⟨g, 3, none⟩ = some (.int .i64 (v : Int)) := below_some hkx HY3.out
        have HKZ := Lib.hid (Kp.call HKY.out hkx)
        have HA4 := Lib.hid (bin_kp HAY.out hkx)
        have HB4 := Lib.hid (bin_kp HBY'.out hkx)
        have j0 : (1 : Int) ≤ (cap : Int) := by omega
        have j1 : (1 : Int) ≤ (cap2 : Int) := by omega
        clear hkx
        go_wp2_with fail
        refine (bytes_equal_same wc q2 q3 l d2 d3 N HL.out HA4.out HB4.out).mono ?_
        rintro e wx ⟨rfl, rfl⟩
        go_wp2_with fail
        refine (sessionLive_any _).mono ?_
        rintro e w5 ⟨rfl, hb5⟩
        have HB5 := Lib.hid hb5
        clear hb5
        go_wp2_with fail
        go_ret
        exact ⟨rfl, Kp.call HKZ.out HB5.out⟩
  · have e1 : decide ((1 : Int) < (k : Int)) = cm := by rw [HCM.out, Bool.true_and]; exact decide_eq_decide.2 (by omega)
    clear HCM
    go_enter Tryd.func6, Tryd.ntmps6
    go_wp2_with fail
    refine (SZ.out _ _ _ _ _ _ _ _ _ _).mono ?_
    rintro e w1 ⟨rfl, hb1⟩
    have HK := Lib.hid (show Kp w w1 from hb1)
    clear hb1
    go_wp2_with fail
    generalize hW : w1.alloc (.cells #[.int .i64 2, .slice none 0 0, .slice none 0 0, .int .i64 (v : Int), .int .u64 0, .int .u8 (k : Int), .int .u8 0, .bool big, .bool cm] 31) = W1
    have C1 := Lib.hid (put1 W1 w1.heap.size ⟨2, none, 0, 0, [], none, 0, 0, [], v, 0, k, 0, big, cm⟩ false 64 (hW ▸ Blk.new w1 _ _) (Lib.BytesIn.nil _ _ _) (Lib.BytesIn.nil _ _ _) (ok_num k v big _ HK4.out HV1.out HV2.out) (by decide) (by decide) (fun _ => by decide))
    have HKW := Lib.hid (show Kp w W1 from hW ▸ HK.out.alloc _)
    clear hW
    refine C1.out.mono ?_
    rintro e w2 ⟨q2, l2, d2, rfl, hl2, hown2, hb2⟩
    rw [E2.out] at hl2 hown2
    obtain rfl : l = l2 := by rw [← hl2]; exact HL.out.symm
    have HA := Lib.hid (bin_of_own hown2)
    have HK2 := Lib.hid (HKW.out.call hb2)
    clear hl2 hown2 hb2 C1
    go_wp2_with fail
    generalize hW : w2.alloc (.cells #[.int .i64 3, .slice none 0 0, .slice none 0 0, .int .i64 0, .int .u64 (v : Int), .int .u8 (k : Int), .int .u8 0, .bool big, .bool cm] 31) = W2
    have C1 := Lib.hid (put1 W2 w2.heap.size ⟨3, none, 0, 0, [], none, 0, 0, [], 0, v, k, 0, big, cm⟩ false 64 (hW ▸ Blk.new w2 _ _) (Lib.BytesIn.nil _ _ _) (Lib.BytesIn.nil _ _ _) (ok_uns k v big _ HK4.out HV1.out) (by decide) (by decide) (fun _ => by decide))
    have HKW2 := Lib.hid (show Kp w2 W2 from hW ▸ (Kp.refl w2).alloc _)
    clear hW
    refine C1.out.mono ?_
    rintro e w3 ⟨q3, l3, d3, rfl, hl3, hown3, hb3⟩
    rw [E3.out] at hl3 hown3
    obtain rfl : l = l3 := by rw [← hl3]; exact HL.out.symm
    have HB3 := Lib.hid (bin_of_own hown3)
    have hk23 := HKW2.out.call hb3
    have HA3 := Lib.hid (bin_kp HA.out hk23)
    have HK3 := Lib.hid (HK2.out.trans hk23)
    clear hl3 hown3 hb3 C1 hk23
    go_wp2_with fail
    generalize hX : w3.alloc (.cells #[.int .i64 4, .int .i64 (k : Int), .bool big, .bool cm] 33) = X
    obtain ⟨tb, htb⟩ : ∃ tb, tb = w3.heap.size := ⟨_, rfl⟩
    have HT1 := Lib.hid (show Blk X tb 33 #[.int .i64 4, .int .i64 (k : Int), .bool big, .bool cm] from by rw [htb, ← hX]; exact Blk.new w3 _ _)
    have HKX := Lib.hid (show Kp w3 X from hX ▸ (Kp.refl w3).alloc _)
    have HAX := Lib.hid (bin_kp HA3.out HKX.out)
    have HTB := Lib.hid htb
    rw [← htb]
    clear hX htb
    go_cut [13] (fun s wx => NumC v X s wx)
    case first =>
      have x0 : X.cell? ⟨tb, 0, none⟩ = some (.int .i64 4) := HT1.out.cell 0
      have x1 : X.cell? ⟨tb, 1, none⟩ = some (.int .i64 (k : Int)) := HT1.out.cell 1
      have x2 : X.cell? ⟨tb, 2, none⟩ = some (.bool big) := HT1.out.cell 2
      have x3 : X.cell? ⟨tb, 3, none⟩ = some (.bool cm) := HT1.out.cell 3
      have htb := HT1.out.lt
      go_region_held3 (fun w' => w'.cell? ⟨tb, 0, none⟩ = some (.int .i64 4) ∧ w'.cell? ⟨tb, 1, none⟩ = some (.int .i64 (k : Int)) ∧ w'.cell? ⟨tb, 2, none⟩ = some (.bool big) ∧ w'.cell? ⟨tb, 3, none⟩ = some (.bool cm)) (go_keep)
        (first
          | (go_at_call 15; refine (CL.out _ _ _ (by first | exact HAX.out | exact bin_alloc HAX.out _)).mono ?_; rintro e wk ⟨q5, d5, rfl, hown, hb⟩; have HO5 := Lib.hid (bin_of_own hown); have HB5 := Lib.hid hb; have hkk : Kp X wk := (by first | exact (Kp.refl X).call hb | exact (Kp.refl X).drew.call hb | exact ((Kp.refl X).alloc _).call hb | exact ((Kp.refl X).alloc _).drew.call hb | exact ((Kp.refl X).drew.alloc _).call hb); have HKK := Lib.hid hkk; have y0 : wk.cell? ⟨tb, 0, none⟩ = some (.int .i64 4) := (HT1.out.kp hkk).cell 0; have y1 : wk.cell? ⟨tb, 1, none⟩ = some (.int .i64 (k : Int)) := (HT1.out.kp hkk).cell 1; have y2 : wk.cell? ⟨tb, 2, none⟩ = some (.bool big) := (HT1.out.kp hkk).cell 2; have y3 : wk.cell? ⟨tb, 3, none⟩ = some (.bool cm) := (HT1.out.kp hkk).cell 3; have hs5 := hkk.size; have htk : tb < wk.heap.size := (by omega); clear hown hb hkk x0 x1 x2 x3)
          | (go_at_call 16; refine (get1 _ _ ⟨4, k, big, cm⟩ q5 l d5 N false ⟨[], [], v, noText⟩ [] (by first | exact Blk.new wk _ _ | exact (Blk.new _ _ _).old HB5.out | exact (Blk.new _ _ _).drew.old HB5.out) (by first | exact bin_alloc HO5.out _ | exact HO5.out) HL.out HBY.out (by have := HL9.out; omega) (.inr (.inr (.inr (.inr (.inl ⟨Or.inl rfl, fun _ => by have := HK4.out; dsimp only; omega, _, HR.out, rfl⟩)))))).mono ?_; rintro e wg ⟨g, cap, qa, ka, ma, qb, kb, mb, q6, l6, d6, rfl, hc1, hc2, hg1, hg2, c0, c1, c2, c3, c4, hka, hina, hkb, hinb, hl, hin, hb6⟩; have HC0 := Lib.hid c0; have HC3 := Lib.hid c3; have hkg : Kp wk wg := (by first | exact ((Kp.refl wk).alloc _).call hb6 | exact (Kp.refl wk).call hb6); have HKG := Lib.hid (HKK.out.trans hkg); have z0 : wg.cell? ⟨tb, 0, none⟩ = some (.int .i64 4) := (HT1.out.kp HKG.out).cell 0; have z1 : wg.cell? ⟨tb, 1, none⟩ = some (.int .i64 (k : Int)) := (HT1.out.kp HKG.out).cell 1; have z2 : wg.cell? ⟨tb, 2, none⟩ = some (.bool big) := (HT1.out.kp HKG.out).cell 2; have z3 : wg.cell? ⟨tb, 3, none⟩ = some (.bool cm) := (HT1.out.kp HKG.out).cell 3; clear c0 c1 c2 c3 c4 hka hina hkb hinb hl hin hb6 hkg y0 y1 y2 y3 hg1))
      all_goals
        go_wp2_with fail
        go_meet
        exact ⟨g, cap, rfl, hc1, hc2, hg2, HC0.out, HC3.out, HKG.out⟩
    case rest =>
      obtain ⟨g, cap, rfl, hc1, hc2, hg2, c0, c3, hkx⟩ := hcut
      have HKC := Lib.hid hkx
      have HC0 := Lib.hid c0
      have HC3 := Lib.hid c3
      have HTC := Lib.hid (HT1.out.kp hkx)
      have z0 : wc.cell? ⟨tb, 0, none⟩ = some (.int .i64 4) := HTC.out.cell 0
      have f0 : wc.frozen? ⟨tb, 0, none⟩ = false := HTC.out.frozen 0
      have htg : tb < X.heap.size := HT1.out.lt
      clear hkx c0 c3
      go_wp2_with fail
      generalize hY : wc.setCell ⟨tb, 0, none⟩ (.int .i64 5) = Y
      have HT2 := Lib.hid (show Blk Y tb 33 #[.int .i64 5, .int .i64 (k : Int), .bool big, .bool cm] from by have := HTC.out.set_ 0 (.int .i64 5); rw [hY] at this; simpa using this)
      have hsY : Y.heap.size = wc.heap.size := by rw [← hY]; simp [World.setCell]
      have hne : g ≠ tb := by
        rintro rfl
        have h1 := HTC.out.cell 0
        rw [HC0.out] at h1
        simp at h1
      have HY0 := Lib.hid (show Y.cell? ⟨g, 0, none⟩ = some (.bool true) from by rw [← hY, World.cell?_setCell_other _ _ _ _ (fun e => hne (by injection e with e1; exact e1.symm))]; exact HC0.out)
      have HY3 := Lib.hid (show Y.cell? ⟨g, 3, none⟩ = some (.int .i64 (v : Int)) from by rw [← hY, World.cell?_setCell_other _ _ _ _ (fun e => hne (by injection e with e1; exact e1.symm))]; exact HC3.out)
      have HAC := Lib.hid (bin_kp HAX.out HKC.out)
      have HBC := Lib.hid (bin_kp (bin_kp HB3.out HKX.out) HKC.out)
      have hkeep : ∀ (q : Option Addr) (j : Nat) (ds : List Int), Lib.BytesIn wc q j ds → Lib.BytesIn Y q j ds := fun q j ds h => bin_nb HTC.out (fun o y => by
        match o with
        | 0 => simp
        | 1 => simp
        | 2 => simp
        | 3 => simp
        | o + 4 => simp) h (fun b _ hb => by rw [← hY]; exact Below.heap_setCell _ ⟨tb, 0, none⟩ _ _ hb)
      have HAY := Lib.hid (hkeep _ _ _ HAC.out)
      have HBY' := Lib.hid (hkeep _ _ _ HBC.out)
      have HKY := Lib.hid (show Below w.heap.size w Y from by rw [← hY]; exact Kp.set ((HK3.out.trans HKX.out).trans HKC.out) (by have := HK3.out.size; have h1 := HTB.out; dsimp only; omega) _)
      have hg2Y : g < Y.heap.size := by omega
      have HG2Y := Lib.hid hg2Y
      clear hY z0 f0 hkeep hne hsY
      go_cut [15] (fun s wx => NumC v Y s wx)
      case first =>
        have x0 : Y.cell? ⟨tb, 0, none⟩ = some (.int .i64 5) := HT2.out.cell 0
        have x1 : Y.cell? ⟨tb, 1, none⟩ = some (.int .i64 (k : Int)) := HT2.out.cell 1
        have x2 : Y.cell? ⟨tb, 2, none⟩ = some (.bool big) := HT2.out.cell 2
        have x3 : Y.cell? ⟨tb, 3, none⟩ = some (.bool cm) := HT2.out.cell 3
        have htb := HT2.out.lt
        go_region_held3 (fun w' => w'.cell? ⟨tb, 0, none⟩ = some (.int .i64 5) ∧ w'.cell? ⟨tb, 1, none⟩ = some (.int .i64 (k : Int)) ∧ w'.cell? ⟨tb, 2, none⟩ = some (.bool big) ∧ w'.cell? ⟨tb, 3, none⟩ = some (.bool cm)) (go_keep)
          (first
            | (go_at_call 15; refine (CL.out _ _ _ (by first | exact HAY.out | exact bin_alloc HAY.out _)).mono ?_; rintro e wk ⟨q5, d5, rfl, hown, hb⟩; have HO5 := Lib.hid (bin_of_own hown); have HB5 := Lib.hid hb; have hkk : Kp Y wk := (by first | exact (Kp.refl Y).call hb | exact (Kp.refl Y).drew.call hb | exact ((Kp.refl Y).alloc _).call hb | exact ((Kp.refl Y).alloc _).drew.call hb | exact ((Kp.refl Y).drew.alloc _).call hb); have HKK := Lib.hid hkk; have y0 : wk.cell? ⟨tb, 0, none⟩ = some (.int .i64 5) := (HT2.out.kp hkk).cell 0; have y1 : wk.cell? ⟨tb, 1, none⟩ = some (.int .i64 (k : Int)) := (HT2.out.kp hkk).cell 1; have y2 : wk.cell? ⟨tb, 2, none⟩ = some (.bool big) := (HT2.out.kp hkk).cell 2; have y3 : wk.cell? ⟨tb, 3, none⟩ = some (.bool cm) := (HT2.out.kp hkk).cell 3; have hs5 := hkk.size; have htk : tb < wk.heap.size := (by omega); clear hown hb hkk x0 x1 x2 x3)
            | (go_at_call 16; refine (get1 _ _ ⟨5, k, big, cm⟩ q5 l d5 N false ⟨[], [], v, noText⟩ [] (by first | exact Blk.new wk _ _ | exact (Blk.new _ _ _).old HB5.out | exact (Blk.new _ _ _).drew.old HB5.out) (by first | exact bin_alloc HO5.out _ | exact HO5.out) HL.out HBY.out (by have := HL9.out; omega) (.inr (.inr (.inr (.inr (.inl ⟨Or.inr rfl, fun _ => by have := HK4.out; dsimp only; omega, _, HR.out, rfl⟩)))))).mono ?_; rintro e wg ⟨g, cap, qa, ka, ma, qb, kb, mb, q6, l6, d6, rfl, hc1, hc2, hg1, hg2, c0, c1, c2, c3, c4, hka, hina, hkb, hinb, hl, hin, hb6⟩; have HC0 := Lib.hid c0; have HC3 := Lib.hid c3; have hkg : Kp wk wg := (by first | exact ((Kp.refl wk).alloc _).call hb6 | exact (Kp.refl wk).call hb6); have HKG := Lib.hid (HKK.out.trans hkg); have z0 : wg.cell? ⟨tb, 0, none⟩ = some (.int .i64 5) := (HT2.out.kp HKG.out).cell 0; have z1 : wg.cell? ⟨tb, 1, none⟩ = some (.int .i64 (k : Int)) := (HT2.out.kp HKG.out).cell 1; have z2 : wg.cell? ⟨tb, 2, none⟩ = some (.bool big) := (HT2.out.kp HKG.out).cell 2; have z3 : wg.cell? ⟨tb, 3, none⟩ = some (.bool cm) := (HT2.out.kp HKG.out).cell 3; clear c0 c1 c2 c3 c4 hka hina hkb hinb hl hin hb6 hkg y0 y1 y2 y3 hg1))
        all_goals
          go_wp2_with fail
          go_meet
          exact ⟨g, cap, rfl, hc1, hc2, hg2, HC0.out, HC3.out, HKG.out⟩
      case rest =>
        obtain ⟨h, cap2, rfl, hd1, hd2, hh2, c0, c3, hkx⟩ := hcut
        have a0 : wc.cell? ⟨g, 0, none⟩ = some (.bool true) := below_some hkx HY0.out
        have a3 : wc.cell? ⟨g, 3, none⟩ = some (.int .i64 (v : Int)) := below_some hkx HY3.out
        have HKZ := Lib.hid (Kp.call HKY.out hkx)
        have HA4 := Lib.hid (bin_kp HAY.out hkx)
        have HB4 := Lib.hid (bin_kp HBY'.out hkx)
        have j0 : (1 : Int) ≤ (cap : Int) := by omega
        have j1 : (1 : Int) ≤ (cap2 : Int) := by omega
        clear hkx
        go_wp2_with fail
        refine (bytes_equal_same wc q2 q3 l d2 d3 N HL.out HA4.out HB4.out).mono ?_
        rintro e wx ⟨rfl, rfl⟩
        go_wp2_with fail
        refine (sessionLive_any _).mono ?_
        rintro e w5 ⟨rfl, hb5⟩
        have HB5 := Lib.hid hb5
        clear hb5
        go_wp2_with fail
        go_ret
        exact ⟨rfl, Kp.call HKZ.out HB5.out⟩
theorem fnSessionSigned_any (num s : Nat) (big comp : Bool) (w : World) (hnum : num < 18446744073709551616) (hs : s < 256) :
    Calls Tryd.prog 6 #[.int .u64 (num : Int), .int .u8 (s : Int), .bool big, .bool comp] w fun e w' => e = .returned (.bool true) ∧ Below w.heap.size w w' :=
  fnSessionSigned_at num s _ _ big comp _ w hnum hs rfl rfl rfl
end Go.Proofs.YtgjfejalinkohaaDoor
