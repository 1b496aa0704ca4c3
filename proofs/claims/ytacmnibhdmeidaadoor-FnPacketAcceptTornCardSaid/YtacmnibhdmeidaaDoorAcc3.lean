/-
  AcceptRead of bytes that tell another length of the data than they have (printed by mkacc3.py).
-/
import Derived.Test.YtacmnibhdmeidaaDoorAcc3a
namespace Go.Proofs.YtacmnibhdmeidaaDoor
open Go Go.RowKit

set_option maxRecDepth 100000 in
set_option maxHeartbeats 16000000 in
theorem acc_torn (b o n c : Nat) (x : Nat → Int) (w : World) (hc : ∀ i, i < 41 → w.cell? ⟨b, o + i, none⟩ = some (.int .u8 (x i))) (hr : ∀ i, 0 ≤ x i ∧ x i < 256) (hn : 41 < n) (hnm : n ≤ 4000) (hnc : n ≤ c)
    (h5 : bits .and .u8 (x 5) 1 = 0) (h20 : x 20 = 0) (h21 : x 21 = 41) (h28 : x 28 = 0) (h29 : x 29 = 0) (h30 : x 30 = 0) (h31 : x 31 = 0) (hd : x 18 * 256 + x 19 ≠ ((n - 41 : Nat) : Int)) :
    Calls Tryd.prog 38 #[.slice (some ⟨b, o, none⟩) n c] w (NilPost w) := by
  have hbw : b < w.heap.size := heap_lt_of_cell (hc 0 (by omega))
  have HC := Lib.hid (show ∀ (W : World), Kp w W → ∀ i, i < 41 → W.cell? ⟨b, o + i, none⟩ = some (.int .u8 (x i)) from fun W hk i hi => (hk.below.cell (p := ⟨b, o + i, none⟩) (heap_lt_of_cell (hc i hi))).trans (hc i hi))
  obtain ⟨x0, hx0⟩ : ∃ y, x 0 = y := ⟨_, rfl⟩
  have r0 := hr 0
  rw [hx0] at r0
  have HX0 := Lib.hid hx0
  obtain ⟨x1, hx1⟩ : ∃ y, x 1 = y := ⟨_, rfl⟩
  have r1 := hr 1
  rw [hx1] at r1
  have HX1 := Lib.hid hx1
  obtain ⟨x4, hx4⟩ : ∃ y, x 4 = y := ⟨_, rfl⟩
  have r4 := hr 4
  rw [hx4] at r4
  have HX4 := Lib.hid hx4
  obtain ⟨x5, hx5⟩ : ∃ y, x 5 = y := ⟨_, rfl⟩
  have r5 := hr 5
  rw [hx5] at r5
  have HX5 := Lib.hid hx5
  obtain ⟨x8, hx8⟩ : ∃ y, x 8 = y := ⟨_, rfl⟩
  have r8 := hr 8
  rw [hx8] at r8
  have HX8 := Lib.hid hx8
  obtain ⟨x9, hx9⟩ : ∃ y, x 9 = y := ⟨_, rfl⟩
  have r9 := hr 9
  rw [hx9] at r9
  have HX9 := Lib.hid hx9
  obtain ⟨x10, hx10⟩ : ∃ y, x 10 = y := ⟨_, rfl⟩
  have r10 := hr 10
  rw [hx10] at r10
  have HX10 := Lib.hid hx10
  obtain ⟨x11, hx11⟩ : ∃ y, x 11 = y := ⟨_, rfl⟩
  have r11 := hr 11
  rw [hx11] at r11
  have HX11 := Lib.hid hx11
  obtain ⟨x12, hx12⟩ : ∃ y, x 12 = y := ⟨_, rfl⟩
  have r12 := hr 12
  rw [hx12] at r12
  have HX12 := Lib.hid hx12
  obtain ⟨x13, hx13⟩ : ∃ y, x 13 = y := ⟨_, rfl⟩
  have r13 := hr 13
  rw [hx13] at r13
  have HX13 := Lib.hid hx13
  obtain ⟨x14, hx14⟩ : ∃ y, x 14 = y := ⟨_, rfl⟩
  have r14 := hr 14
  rw [hx14] at r14
  have HX14 := Lib.hid hx14
  obtain ⟨x15, hx15⟩ : ∃ y, x 15 = y := ⟨_, rfl⟩
  have r15 := hr 15
  rw [hx15] at r15
  have HX15 := Lib.hid hx15
  obtain ⟨x16, hx16⟩ : ∃ y, x 16 = y := ⟨_, rfl⟩
  have r16 := hr 16
  rw [hx16] at r16
  have HX16 := Lib.hid hx16
  obtain ⟨x17, hx17⟩ : ∃ y, x 17 = y := ⟨_, rfl⟩
  have r17 := hr 17
  rw [hx17] at r17
  have HX17 := Lib.hid hx17
  obtain ⟨x18, hx18⟩ : ∃ y, x 18 = y := ⟨_, rfl⟩
  have r18 := hr 18
  rw [hx18] at r18
  have HX18 := Lib.hid hx18
  obtain ⟨x19, hx19⟩ : ∃ y, x 19 = y := ⟨_, rfl⟩
  have r19 := hr 19
  rw [hx19] at r19
  have HX19 := Lib.hid hx19
  have HX20 := Lib.hid h20
  have HX21 := Lib.hid h21
  obtain ⟨x22, hx22⟩ : ∃ y, x 22 = y := ⟨_, rfl⟩
  have r22 := hr 22
  rw [hx22] at r22
  have HX22 := Lib.hid hx22
  obtain ⟨x23, hx23⟩ : ∃ y, x 23 = y := ⟨_, rfl⟩
  have r23 := hr 23
  rw [hx23] at r23
  have HX23 := Lib.hid hx23
  have HX28 := Lib.hid h28
  have HX29 := Lib.hid h29
  have HX30 := Lib.hid h30
  have HX31 := Lib.hid h31
  obtain ⟨x32, hx32⟩ : ∃ y, x 32 = y := ⟨_, rfl⟩
  have r32 := hr 32
  rw [hx32] at r32
  have HX32 := Lib.hid hx32
  obtain ⟨x33, hx33⟩ : ∃ y, x 33 = y := ⟨_, rfl⟩
  have r33 := hr 33
  rw [hx33] at r33
  have HX33 := Lib.hid hx33
  obtain ⟨x34, hx34⟩ : ∃ y, x 34 = y := ⟨_, rfl⟩
  have r34 := hr 34
  rw [hx34] at r34
  have HX34 := Lib.hid hx34
  obtain ⟨x35, hx35⟩ : ∃ y, x 35 = y := ⟨_, rfl⟩
  have r35 := hr 35
  rw [hx35] at r35
  have HX35 := Lib.hid hx35
  obtain ⟨x36, hx36⟩ : ∃ y, x 36 = y := ⟨_, rfl⟩
  have r36 := hr 36
  rw [hx36] at r36
  have HX36 := Lib.hid hx36
  obtain ⟨x37, hx37⟩ : ∃ y, x 37 = y := ⟨_, rfl⟩
  have r37 := hr 37
  rw [hx37] at r37
  have HX37 := Lib.hid hx37
  obtain ⟨x38, hx38⟩ : ∃ y, x 38 = y := ⟨_, rfl⟩
  have r38 := hr 38
  rw [hx38] at r38
  have HX38 := Lib.hid hx38
  obtain ⟨x39, hx39⟩ : ∃ y, x 39 = y := ⟨_, rfl⟩
  have r39 := hr 39
  rw [hx39] at r39
  have HX39 := Lib.hid hx39
  rw [hx5] at h5
  rw [hx18, hx19] at hd
  obtain ⟨v0, hv0, v0a, v0b, v0w⟩ := u16v x0 x1 r0 r1
  have Hv0 := Lib.hid hv0
  obtain ⟨v8, hv8, v8a, v8b, v8w⟩ := u16v x8 x9 r8 r9
  have Hv8 := Lib.hid hv8
  obtain ⟨v10, hv10, v10a, v10b, v10w⟩ := u16v x10 x11 r10 r11
  have Hv10 := Lib.hid hv10
  obtain ⟨v12, hv12, v12a, v12b, v12w⟩ := u16v x12 x13 r12 r13
  have Hv12 := Lib.hid hv12
  obtain ⟨v14, hv14, v14a, v14b, v14w⟩ := u16v x14 x15 r14 r15
  have Hv14 := Lib.hid hv14
  obtain ⟨v16, hv16, v16a, v16b, v16w⟩ := u16v x16 x17 r16 r17
  have Hv16 := Lib.hid hv16
  obtain ⟨v18, hv18, v18a, v18b, v18w⟩ := u16v x18 x19 r18 r19
  have Hv18 := Lib.hid hv18
  rw [hv18] at hd
  have R0 := Lib.hid r0
  have R1 := Lib.hid r1
  have R4 := Lib.hid r4
  have R5 := Lib.hid r5
  have R8 := Lib.hid r8
  have R9 := Lib.hid r9
  have R10 := Lib.hid r10
  have R11 := Lib.hid r11
  have R12 := Lib.hid r12
  have R13 := Lib.hid r13
  have R14 := Lib.hid r14
  have R15 := Lib.hid r15
  have R16 := Lib.hid r16
  have R17 := Lib.hid r17
  have R18 := Lib.hid r18
  have R19 := Lib.hid r19
  have R22 := Lib.hid r22
  have R23 := Lib.hid r23
  have R32 := Lib.hid r32
  have R33 := Lib.hid r33
  have R34 := Lib.hid r34
  have R35 := Lib.hid r35
  have R36 := Lib.hid r36
  have R37 := Lib.hid r37
  have R38 := Lib.hid r38
  have R39 := Lib.hid r39
  clear hc hr h20 h21 h28 h29 h30 h31 r0 hx0 r1 hx1 r4 hx4 r5 hx5 r8 hx8 r9 hx9 r10 hx10 r11 hx11 r12 hx12 r13 hx13 r14 hx14 r15 hx15 r16 hx16 r17 hx17 r18 hx18 r19 hx19 r22 hx22 r23 hx23 r32 hx32 r33 hx33 r34 hx34 r35 hx35 r36 hx36 r37 hx37 r38 hx38 r39 hx39 hv0 hv8 hv10 hv12 hv14 hv16 hv18
  clear v8w v10w v16w v18w
  have n4 : (4 : Int) ≤ ((n : Nat) : Int) := by omega
  have n5 : (5 : Int) ≤ ((n : Nat) : Int) := by omega
  have n8 : (8 : Int) ≤ ((n : Nat) : Int) := by omega
  have n10 : (10 : Int) ≤ ((n : Nat) : Int) := by omega
  have n12 : (12 : Int) ≤ ((n : Nat) : Int) := by omega
  have n14 : (14 : Int) ≤ ((n : Nat) : Int) := by omega
  have n16 : (16 : Int) ≤ ((n : Nat) : Int) := by omega
  have n18 : (18 : Int) ≤ ((n : Nat) : Int) := by omega
  have n20 : (20 : Int) ≤ ((n : Nat) : Int) := by omega
  have n22 : (22 : Int) ≤ ((n : Nat) : Int) := by omega
  have n23 : (23 : Int) ≤ ((n : Nat) : Int) := by omega
  have n28 : (28 : Int) ≤ ((n : Nat) : Int) := by omega
  have n30 : (30 : Int) ≤ ((n : Nat) : Int) := by omega
  have n32 : (32 : Int) ≤ ((n : Nat) : Int) := by omega
  have n36 : (36 : Int) ≤ ((n : Nat) : Int) := by omega
  have n41 : (41 : Int) ≤ ((n : Nat) : Int) := by omega
  have m4 : (4 : Int) < ((n : Nat) : Int) := by omega
  have m5 : (5 : Int) < ((n : Nat) : Int) := by omega
  have m22 : (22 : Int) < ((n : Nat) : Int) := by omega
  have m23 : (23 : Int) < ((n : Nat) : Int) := by omega
  have nc : ((n : Nat) : Int) ≤ ((c : Nat) : Int) := by omega
  have e8 : (c = 8) = False := by simp; omega
  have e10 : (c = 10) = False := by simp; omega
  have e12 : (c = 12) = False := by simp; omega
  have e14 : (c = 14) = False := by simp; omega
  have e16 : (c = 16) = False := by simp; omega
  have e18 : (c = 18) = False := by simp; omega
  have e20 : (c = 20) = False := by simp; omega
  have e28 : (c = 28) = False := by simp; omega
  have e30 : (c = 30) = False := by simp; omega
  have e32 : (c = 32) = False := by simp; omega
  have e36 : (c = 36) = False := by simp; omega
  have e41 : (c = 41) = False := by simp; omega
  have hl32 : ¬ ((n : Nat) : Int) < 32 := by omega
  have HN := Lib.hid (show 41 < n from hn)
  have HNC := Lib.hid hnc
  have HNM := Lib.hid hnm
  go_enter Tryd.func38, Tryd.ntmps38
  go_wp2_with fail
  have HC228 := Lib.hid (show w.drew.cell? ⟨b, o + 28, none⟩ = some (.int .u8 0) from by have h := HC.out w.drew ((Kp.refl w)).drew 28 (by omega); rw [HX28.out] at h; exact h)
  have HC328 := Lib.hid (show w.drew.cell? ⟨b, o + 29, none⟩ = some (.int .u8 0) from by have h := HC.out w.drew ((Kp.refl w)).drew 29 (by omega); rw [HX29.out] at h; exact h)
  go_region_held3 (fun _ => True) (trivial) (first | (go_at_call 63; refine (get16 b (o + 28) (n - 28) (c - 28) 0 0 _ (by have := HN.out; omega) (by exact HC228.out) (by exact HC328.out) (by decide) (by decide)).mono ?_; rintro e w1 ⟨rfl, hb⟩; have HKw1 := Lib.hid (show Kp w w1 from ((Kp.refl w)).drew.call hb); clear hb))
  clear HC228 HC328
  go_wp2_with fail
  have HC230 := Lib.hid (show w1.drew.cell? ⟨b, o + 30, none⟩ = some (.int .u8 0) from by have h := HC.out w1.drew (HKw1.out).drew 30 (by omega); rw [HX30.out] at h; exact h)
  have HC330 := Lib.hid (show w1.drew.cell? ⟨b, o + 31, none⟩ = some (.int .u8 0) from by have h := HC.out w1.drew (HKw1.out).drew 31 (by omega); rw [HX31.out] at h; exact h)
  go_region_held3 (fun _ => True) (trivial) (first | (go_at_call 63; refine (get16 b (o + 30) (n - 30) (c - 30) 0 0 _ (by have := HN.out; omega) (by exact HC230.out) (by exact HC330.out) (by decide) (by decide)).mono ?_; rintro e w2 ⟨rfl, hb⟩; have HKw2 := Lib.hid (show Kp w w2 from (HKw1.out).drew.call hb); clear hb))
  clear HC230 HC330 HKw1
  go_wp2_with fail
  go_cut [6] (fun s6 wx => ∃ pk cx, s6 = .pointer (some ⟨pk, 0, none⟩) ∧ Made w v0 x4 x5 v8 v10 v16 x22 x23 v12 v14 (.slice none 0 0) pk cx wx)
  case first =>
    have HQ0 := Lib.hid (show ∀ W : World, Kp w W → W.cell? ⟨b, o, none⟩ = some (.int .u8 x0) from fun W h => by have h := HC.out W h 0 (by omega); rw [HX0.out] at h; exact h)
    have HQ1 := Lib.hid (show ∀ W : World, Kp w W → W.cell? ⟨b, o + 1, none⟩ = some (.int .u8 x1) from fun W h => by have h := HC.out W h 1 (by omega); rw [HX1.out] at h; exact h)
    have HQ4 := Lib.hid (show ∀ W : World, Kp w W → W.cell? ⟨b, o + 4, none⟩ = some (.int .u8 x4) from fun W h => by have h := HC.out W h 4 (by omega); rw [HX4.out] at h; exact h)
    have HQ5 := Lib.hid (show ∀ W : World, Kp w W → W.cell? ⟨b, o + 5, none⟩ = some (.int .u8 x5) from fun W h => by have h := HC.out W h 5 (by omega); rw [HX5.out] at h; exact h)
    have HQ8 := Lib.hid (show ∀ W : World, Kp w W → W.cell? ⟨b, o + 8, none⟩ = some (.int .u8 x8) from fun W h => by have h := HC.out W h 8 (by omega); rw [HX8.out] at h; exact h)
    have HQ9 := Lib.hid (show ∀ W : World, Kp w W → W.cell? ⟨b, o + 9, none⟩ = some (.int .u8 x9) from fun W h => by have h := HC.out W h 9 (by omega); rw [HX9.out] at h; exact h)
    have HQ10 := Lib.hid (show ∀ W : World, Kp w W → W.cell? ⟨b, o + 10, none⟩ = some (.int .u8 x10) from fun W h => by have h := HC.out W h 10 (by omega); rw [HX10.out] at h; exact h)
    have HQ11 := Lib.hid (show ∀ W : World, Kp w W → W.cell? ⟨b, o + 11, none⟩ = some (.int .u8 x11) from fun W h => by have h := HC.out W h 11 (by omega); rw [HX11.out] at h; exact h)
    have HQ12 := Lib.hid (show ∀ W : World, Kp w W → W.cell? ⟨b, o + 12, none⟩ = some (.int .u8 x12) from fun W h => by have h := HC.out W h 12 (by omega); rw [HX12.out] at h; exact h)
    have HQ13 := Lib.hid (show ∀ W : World, Kp w W → W.cell? ⟨b, o + 13, none⟩ = some (.int .u8 x13) from fun W h => by have h := HC.out W h 13 (by omega); rw [HX13.out] at h; exact h)
    have HQ14 := Lib.hid (show ∀ W : World, Kp w W → W.cell? ⟨b, o + 14, none⟩ = some (.int .u8 x14) from fun W h => by have h := HC.out W h 14 (by omega); rw [HX14.out] at h; exact h)
    have HQ15 := Lib.hid (show ∀ W : World, Kp w W → W.cell? ⟨b, o + 15, none⟩ = some (.int .u8 x15) from fun W h => by have h := HC.out W h 15 (by omega); rw [HX15.out] at h; exact h)
    have HQ16 := Lib.hid (show ∀ W : World, Kp w W → W.cell? ⟨b, o + 16, none⟩ = some (.int .u8 x16) from fun W h => by have h := HC.out W h 16 (by omega); rw [HX16.out] at h; exact h)
    have HQ17 := Lib.hid (show ∀ W : World, Kp w W → W.cell? ⟨b, o + 17, none⟩ = some (.int .u8 x17) from fun W h => by have h := HC.out W h 17 (by omega); rw [HX17.out] at h; exact h)
    have HQ20 := Lib.hid (show ∀ W : World, Kp w W → W.cell? ⟨b, o + 20, none⟩ = some (.int .u8 0) from fun W h => by have h := HC.out W h 20 (by omega); rw [HX20.out] at h; exact h)
    have HQ21 := Lib.hid (show ∀ W : World, Kp w W → W.cell? ⟨b, o + 21, none⟩ = some (.int .u8 41) from fun W h => by have h := HC.out W h 21 (by omega); rw [HX21.out] at h; exact h)
    have HQ22 := Lib.hid (show ∀ W : World, Kp w W → W.cell? ⟨b, o + 22, none⟩ = some (.int .u8 x22) from fun W h => by have h := HC.out W h 22 (by omega); rw [HX22.out] at h; exact h)
    have HQ23 := Lib.hid (show ∀ W : World, Kp w W → W.cell? ⟨b, o + 23, none⟩ = some (.int .u8 x23) from fun W h => by have h := HC.out W h 23 (by omega); rw [HX23.out] at h; exact h)
    have hsz := HKw2.out.size
    have c4 := HQ4.out w2 HKw2.out
    have c5 := HQ5.out w2 HKw2.out
    have c22 := HQ22.out w2 HKw2.out
    have c23 := HQ23.out w2 HKw2.out
    refine wp_region_noPanic ?_
    refine wp_region_held_drew (S := fun w' => w'.cell? ⟨b, o + 4, none⟩ = some (.int .u8 x4) ∧ w'.cell? ⟨b, o + 5, none⟩ = some (.int .u8 x5) ∧ w'.cell? ⟨b, o + 22, none⟩ = some (.int .u8 x22) ∧ w'.cell? ⟨b, o + 23, none⟩ = some (.int .u8 x23)) (by kernel_rfl) ⟨c4, c5, c22, c23⟩ (fun hHeld => ?_)
    refine wpAnyH_take (i := 0) (v := ?_) (by simp only [List.getElem?_toArray, List.getElem?_cons_zero] <;> rfl) (by kernel_rfl) (by kernel_rfl) (by kernel_rfl) (fun _ _ _ h => h) (.inl ⟨by rfl, ?_⟩) (by assumption) ?_
    rotate_left 1
    · intro wz hSw; (try dsimp only at hSw); go_simp; (try with_reducible rfl)
    try simp only [Act.put, List.setIfInBounds_toArray, List.set_cons_zero, List.set_cons_succ]
    refine wpAnyH_take (i := 1) (v := ?_) (by simp only [List.getElem?_toArray, List.getElem?_cons_zero, List.getElem?_cons_succ] <;> rfl) (by kernel_rfl) (by kernel_rfl) (by kernel_rfl) (fun _ _ _ h => h) (.inl ⟨by rfl, ?_⟩) (by assumption) ?_
    rotate_left 1
    · intro wz hSw; (try dsimp only at hSw); go_simp; (try with_reducible rfl)
    try simp only [Act.put, List.setIfInBounds_toArray, List.set_cons_zero, List.set_cons_succ]
    refine wpAnyH_take (i := 2) (v := ?_) (by simp only [List.getElem?_toArray, List.getElem?_cons_zero, List.getElem?_cons_succ] <;> rfl) (by kernel_rfl) (by kernel_rfl) (by kernel_rfl) (fun _ _ _ h => h) (.inl ⟨by rfl, ?_⟩) (by assumption) ?_
    rotate_left 1
    · intro wz hSw; (try dsimp only at hSw); go_simp; (try with_reducible rfl)
    try simp only [Act.put, List.setIfInBounds_toArray, List.set_cons_zero, List.set_cons_succ]
    refine wpAnyH_take (i := 4) (v := ?_) (by simp only [List.getElem?_toArray, List.getElem?_cons_zero, List.getElem?_cons_succ] <;> rfl) (by kernel_rfl) (by kernel_rfl) (by kernel_rfl) (fun _ _ _ h => h) (.inl ⟨by rfl, ?_⟩) (by assumption) ?_
    rotate_left 1
    · intro wz hSw; (try dsimp only at hSw); go_simp; (try with_reducible rfl)
    try simp only [Act.put, List.setIfInBounds_toArray, List.set_cons_zero, List.set_cons_succ]
    refine wpAnyH_take (i := 5) (v := ?_) (by simp only [List.getElem?_toArray, List.getElem?_cons_zero, List.getElem?_cons_succ] <;> rfl) (by kernel_rfl) (by kernel_rfl) (by kernel_rfl) (fun _ _ _ h => h) (.inl ⟨by rfl, ?_⟩) (by assumption) ?_
    rotate_left 1
    · intro wz hSw; (try dsimp only at hSw); go_simp; (try with_reducible rfl)
    try simp only [Act.put, List.setIfInBounds_toArray, List.set_cons_zero, List.set_cons_succ]
    refine wpAnyH_take (i := 6) (v := ?_) (by simp only [List.getElem?_toArray, List.getElem?_cons_zero, List.getElem?_cons_succ] <;> rfl) (by kernel_rfl) (by kernel_rfl) (by kernel_rfl) (fun _ _ _ h => h) (.inl ⟨by rfl, ?_⟩) (by assumption) ?_
    rotate_left 1
    · intro wz hSw; (try dsimp only at hSw); go_simp; (try with_reducible rfl)
    try simp only [Act.put, List.setIfInBounds_toArray, List.set_cons_zero, List.set_cons_succ]
    refine wpAnyH_take (i := 8) (v := ?_) (by simp only [List.getElem?_toArray, List.getElem?_cons_zero, List.getElem?_cons_succ] <;> rfl) (by kernel_rfl) (by kernel_rfl) (by kernel_rfl) (fun _ _ _ h => h) (.inl ⟨by rfl, ?_⟩) (by assumption) ?_
    rotate_left 1
    · intro wz hSw; (try dsimp only at hSw); go_simp; (try with_reducible rfl)
    try simp only [Act.put, List.setIfInBounds_toArray, List.set_cons_zero, List.set_cons_succ]
    refine wpAnyH_take (i := 9) (v := ?_) (by simp only [List.getElem?_toArray, List.getElem?_cons_zero, List.getElem?_cons_succ] <;> rfl) (by kernel_rfl) (by kernel_rfl) (by kernel_rfl) (fun _ _ _ h => h) (.inl ⟨by rfl, ?_⟩) (by assumption) ?_
    rotate_left 1
    · intro wz hSw; (try dsimp only at hSw); go_simp; (try with_reducible rfl)
    try simp only [Act.put, List.setIfInBounds_toArray, List.set_cons_zero, List.set_cons_succ]
    refine wpAnyH_take (i := 10) (v := ?_) (by simp only [List.getElem?_toArray, List.getElem?_cons_zero, List.getElem?_cons_succ] <;> rfl) (by kernel_rfl) (by kernel_rfl) (by kernel_rfl) (fun _ _ _ h => h) (.inl ⟨by rfl, ?_⟩) (by assumption) ?_
    rotate_left 1
    · intro wz hSw; (try dsimp only at hSw); go_simp; (try with_reducible rfl)
    try simp only [Act.put, List.setIfInBounds_toArray, List.set_cons_zero, List.set_cons_succ]
    refine wpAnyH_take (i := 12) (v := ?_) (by simp only [List.getElem?_toArray, List.getElem?_cons_zero, List.getElem?_cons_succ] <;> rfl) (by kernel_rfl) (by kernel_rfl) (by kernel_rfl) (fun _ _ _ h => h) (.inl ⟨by rfl, ?_⟩) (by assumption) ?_
    rotate_left 1
    · intro wz hSw; (try dsimp only at hSw); go_simp; (try with_reducible rfl)
    try simp only [Act.put, List.setIfInBounds_toArray, List.set_cons_zero, List.set_cons_succ]
    refine wpAnyH_take (i := 13) (v := ?_) (by simp only [List.getElem?_toArray, List.getElem?_cons_zero, List.getElem?_cons_succ] <;> rfl) (by kernel_rfl) (by kernel_rfl) (by kernel_rfl) (fun _ _ _ h => h) (.inl ⟨by rfl, ?_⟩) (by assumption) ?_
    rotate_left 1
    · intro wz hSw; (try dsimp only at hSw); go_simp; (try with_reducible rfl)
    try simp only [Act.put, List.setIfInBounds_toArray, List.set_cons_zero, List.set_cons_succ]
    refine wpAnyH_take (i := 14) (v := ?_) (by simp only [List.getElem?_toArray, List.getElem?_cons_zero, List.getElem?_cons_succ] <;> rfl) (by kernel_rfl) (by kernel_rfl) (by kernel_rfl) (fun _ _ _ h => h) (.inl ⟨by rfl, ?_⟩) (by assumption) ?_
    rotate_left 1
    · intro wz hSw; (try dsimp only at hSw); go_simp; (try with_reducible rfl)
    try simp only [Act.put, List.setIfInBounds_toArray, List.set_cons_zero, List.set_cons_succ]
    refine wpAnyH_take (i := 15) (v := ?_) (by simp only [List.getElem?_toArray, List.getElem?_cons_zero, List.getElem?_cons_succ] <;> rfl) (by kernel_rfl) (by kernel_rfl) (by kernel_rfl) (fun _ _ _ h => h) (.inl ⟨by rfl, ?_⟩) (by assumption) ?_
    rotate_left 1
    · intro wz hSw; (try dsimp only at hSw); go_simp; (try with_reducible rfl)
    try simp only [Act.put, List.setIfInBounds_toArray, List.set_cons_zero, List.set_cons_succ]
    refine wpAnyH_take (i := 16) (v := ?_) (by simp only [List.getElem?_toArray, List.getElem?_cons_zero, List.getElem?_cons_succ] <;> rfl) (by kernel_rfl) (by kernel_rfl) (by kernel_rfl) (fun _ _ _ h => h) (.inl ⟨by rfl, ?_⟩) (by assumption) ?_
    rotate_left 1
    · intro wz hSw; (try dsimp only at hSw); go_simp; (try with_reducible rfl)
    try simp only [Act.put, List.setIfInBounds_toArray, List.set_cons_zero, List.set_cons_succ]
    refine wpAnyH_take (i := 17) (v := ?_) (by simp only [List.getElem?_toArray, List.getElem?_cons_zero, List.getElem?_cons_succ] <;> rfl) (by kernel_rfl) (by kernel_rfl) (by kernel_rfl) (fun _ _ _ h => h) (.inl ⟨by rfl, ?_⟩) (by assumption) ?_
    rotate_left 1
    · intro wz hSw; (try dsimp only at hSw); go_simp; (try with_reducible rfl)
    try simp only [Act.put, List.setIfInBounds_toArray, List.set_cons_zero, List.set_cons_succ]
    refine wpAnyH_take (i := 18) (v := ?_) (by simp only [List.getElem?_toArray, List.getElem?_cons_zero, List.getElem?_cons_succ] <;> rfl) (by kernel_rfl) (by kernel_rfl) (by kernel_rfl) (fun _ _ _ h => h) (.inl ⟨by rfl, ?_⟩) (by assumption) ?_
    rotate_left 1
    · intro wz hSw; (try dsimp only at hSw); go_simp; (try with_reducible rfl)
    try simp only [Act.put, List.setIfInBounds_toArray, List.set_cons_zero, List.set_cons_succ]
    refine wpAnyH_take (i := 19) (v := ?_) (by simp only [List.getElem?_toArray, List.getElem?_cons_zero, List.getElem?_cons_succ] <;> rfl) (by kernel_rfl) (by kernel_rfl) (by kernel_rfl) (fun _ _ _ h => h) (.inl ⟨by rfl, ?_⟩) (by assumption) ?_
    rotate_left 1
    · intro wz hSw; (try dsimp only at hSw); go_simp; (try with_reducible rfl)
    try simp only [Act.put, List.setIfInBounds_toArray, List.set_cons_zero, List.set_cons_succ]
    refine wpAnyH_take (i := 20) (v := ?_) (by simp only [List.getElem?_toArray, List.getElem?_cons_zero, List.getElem?_cons_succ] <;> rfl) (by kernel_rfl) (by kernel_rfl) (by kernel_rfl) (fun _ _ _ h => h) (.inl ⟨by rfl, ?_⟩) (by assumption) ?_
    rotate_left 1
    · intro wz hSw; (try dsimp only at hSw); go_simp; (try with_reducible rfl)
    try simp only [Act.put, List.setIfInBounds_toArray, List.set_cons_zero, List.set_cons_succ]
    refine wpAnyH_take (i := 21) (v := ?_) (by simp only [List.getElem?_toArray, List.getElem?_cons_zero, List.getElem?_cons_succ] <;> rfl) (by kernel_rfl) (by kernel_rfl) (by kernel_rfl) (fun _ _ _ h => h) (.inl ⟨by rfl, ?_⟩) (by assumption) ?_
    rotate_left 1
    · intro wz hSw; (try dsimp only at hSw); go_simp; (try with_reducible rfl)
    try simp only [Act.put, List.setIfInBounds_toArray, List.set_cons_zero, List.set_cons_succ]
    refine wpAnyH_take (i := 24) (v := ?_) (by simp only [List.getElem?_toArray, List.getElem?_cons_zero, List.getElem?_cons_succ] <;> rfl) (by kernel_rfl) (by kernel_rfl) (by kernel_rfl) (fun _ _ _ h => h) (.inl ⟨by rfl, ?_⟩) (by assumption) ?_
    rotate_left 1
    · intro wz hSw; (try dsimp only at hSw); go_simp; (try with_reducible rfl)
    try simp only [Act.put, List.setIfInBounds_toArray, List.set_cons_zero, List.set_cons_succ]
    refine wpAnyH_take (i := 25) (v := ?_) (by simp only [List.getElem?_toArray, List.getElem?_cons_zero, List.getElem?_cons_succ] <;> rfl) (by kernel_rfl) (by kernel_rfl) (by kernel_rfl) (fun _ _ _ h => h) (.inl ⟨by rfl, ?_⟩) (by assumption) ?_
    rotate_left 1
    · intro wz hSw; (try dsimp only at hSw); go_simp; (try with_reducible rfl)
    try simp only [Act.put, List.setIfInBounds_toArray, List.set_cons_zero, List.set_cons_succ]
    refine wpAnyH_take (i := 26) (v := ?_) (by simp only [List.getElem?_toArray, List.getElem?_cons_zero, List.getElem?_cons_succ] <;> rfl) (by kernel_rfl) (by kernel_rfl) (by kernel_rfl) (fun _ _ _ h => h) (.inl ⟨by rfl, ?_⟩) (by assumption) ?_
    rotate_left 1
    · intro wz hSw; (try dsimp only at hSw); go_simp; (try with_reducible rfl)
    try simp only [Act.put, List.setIfInBounds_toArray, List.set_cons_zero, List.set_cons_succ]
    refine wpAnyH_take (i := 31) (v := ?_) (by simp only [List.getElem?_toArray, List.getElem?_cons_zero, List.getElem?_cons_succ] <;> rfl) (by kernel_rfl) (by kernel_rfl) (by kernel_rfl) (fun _ _ _ h => h) (.inl ⟨by rfl, ?_⟩) (by assumption) ?_
    rotate_left 1
    · intro wz hSw; (try dsimp only at hSw); go_simp; (try with_reducible rfl)
    try simp only [Act.put, List.setIfInBounds_toArray, List.set_cons_zero, List.set_cons_succ]
    refine wpAnyH_take (i := 32) (v := ?_) (by simp only [List.getElem?_toArray, List.getElem?_cons_zero, List.getElem?_cons_succ] <;> rfl) (by kernel_rfl) (by kernel_rfl) (by kernel_rfl) (fun _ _ _ h => h) (.inl ⟨by rfl, ?_⟩) (by assumption) ?_
    rotate_left 1
    · intro wz hSw; (try dsimp only at hSw); go_simp; (try with_reducible rfl)
    try simp only [Act.put, List.setIfInBounds_toArray, List.set_cons_zero, List.set_cons_succ]
    refine wpAnyH_take (i := 33) (v := ?_) (by simp only [List.getElem?_toArray, List.getElem?_cons_zero, List.getElem?_cons_succ] <;> rfl) (by kernel_rfl) (by kernel_rfl) (by kernel_rfl) (fun _ _ _ h => h) (.inl ⟨by rfl, ?_⟩) (by assumption) ?_
    rotate_left 1
    · intro wz hSw; (try dsimp only at hSw); go_simp; (try with_reducible rfl)
    try simp only [Act.put, List.setIfInBounds_toArray, List.set_cons_zero, List.set_cons_succ]
    refine wpAnyH_take (i := 35) (v := ?_) (by simp only [List.getElem?_toArray, List.getElem?_cons_zero, List.getElem?_cons_succ] <;> rfl) (by kernel_rfl) (by kernel_rfl) (by kernel_rfl) (fun _ _ _ h => h) (.inl ⟨by rfl, ?_⟩) (by assumption) ?_
    rotate_left 1
    · intro wz hSw; (try dsimp only at hSw); go_simp; (try with_reducible rfl)
    try simp only [Act.put, List.setIfInBounds_toArray, List.set_cons_zero, List.set_cons_succ]
    refine wpAnyH_take (i := 36) (v := ?_) (by simp only [List.getElem?_toArray, List.getElem?_cons_zero, List.getElem?_cons_succ] <;> rfl) (by kernel_rfl) (by kernel_rfl) (by kernel_rfl) (fun _ _ _ h => h) (.inl ⟨by rfl, ?_⟩) (by assumption) ?_
    rotate_left 1
    · intro wz hSw; (try dsimp only at hSw); go_simp; (try with_reducible rfl)
    try simp only [Act.put, List.setIfInBounds_toArray, List.set_cons_zero, List.set_cons_succ]
    refine wpAnyH_take (i := 39) (v := ?_) (by simp only [List.getElem?_toArray, List.getElem?_cons_zero, List.getElem?_cons_succ] <;> rfl) (by kernel_rfl) (by kernel_rfl) (by kernel_rfl) (fun _ _ _ h => h) (.inl ⟨by rfl, ?_⟩) (by assumption) ?_
    rotate_left 1
    · intro wz hSw; (try dsimp only at hSw); go_simp; (try with_reducible rfl)
    try simp only [Act.put, List.setIfInBounds_toArray, List.set_cons_zero, List.set_cons_succ]
    refine wpAnyH_take (i := 40) (v := ?_) (by simp only [List.getElem?_toArray, List.getElem?_cons_zero, List.getElem?_cons_succ] <;> rfl) (by kernel_rfl) (by kernel_rfl) (by kernel_rfl) (fun _ _ _ h => h) (.inl ⟨by rfl, ?_⟩) (by assumption) ?_
    rotate_left 1
    · intro wz hSw; (try dsimp only at hSw); go_simp; (try with_reducible rfl)
    try simp only [Act.put, List.setIfInBounds_toArray, List.set_cons_zero, List.set_cons_succ]
    refine wpAnyH_take (i := 41) (v := ?_) (by simp only [List.getElem?_toArray, List.getElem?_cons_zero, List.getElem?_cons_succ] <;> rfl) (by kernel_rfl) (by kernel_rfl) (by kernel_rfl) (fun _ _ _ h => h) (.inl ⟨by rfl, ?_⟩) (by assumption) ?_
    rotate_left 1
    · intro wz hSw; (try dsimp only at hSw); go_simp; (try with_reducible rfl)
    try simp only [Act.put, List.setIfInBounds_toArray, List.set_cons_zero, List.set_cons_succ]
    refine wpAnyH_take (i := 42) (v := ?_) (by simp only [List.getElem?_toArray, List.getElem?_cons_zero, List.getElem?_cons_succ] <;> rfl) (by kernel_rfl) (by kernel_rfl) (by kernel_rfl) (fun _ _ _ h => h) (.inl ⟨by rfl, ?_⟩) (by assumption) ?_
    rotate_left 1
    · intro wz hSw; (try dsimp only at hSw); go_simp; (try with_reducible rfl)
    try simp only [Act.put, List.setIfInBounds_toArray, List.set_cons_zero, List.set_cons_succ]
    refine wpAnyH_take (i := 43) (v := ?_) (by simp only [List.getElem?_toArray, List.getElem?_cons_zero, List.getElem?_cons_succ] <;> rfl) (by kernel_rfl) (by kernel_rfl) (by kernel_rfl) (fun _ _ _ h => h) (.inl ⟨by rfl, ?_⟩) (by assumption) ?_
    rotate_left 1
    · intro wz hSw; (try dsimp only at hSw); go_simp; (try with_reducible rfl)
    try simp only [Act.put, List.setIfInBounds_toArray, List.set_cons_zero, List.set_cons_succ]
    refine wpAnyH_take (i := 44) (v := ?_) (by simp only [List.getElem?_toArray, List.getElem?_cons_zero, List.getElem?_cons_succ] <;> rfl) (by kernel_rfl) (by kernel_rfl) (by kernel_rfl) (fun _ _ _ h => h) (.inl ⟨by rfl, ?_⟩) (by assumption) ?_
    rotate_left 1
    · intro wz hSw; (try dsimp only at hSw); go_simp; (try with_reducible rfl)
    try simp only [Act.put, List.setIfInBounds_toArray, List.set_cons_zero, List.set_cons_succ]
    refine acc_region8 v0 x4 x5 v8 v10 v16 x22 x23 v12 v14 _ _ _ ?_ v0w v12w v14w ?_ ?_ ?_ ?_ ?_ ?_ ?_ ?_ ?_ ?_ ?_ ?_ ?_ ?_ ?_ ?_ ?_ ?_ ?_ ?_ ?_ ?_ ?_ ?_ ?_ ?_ ?_ ?_ ?_ ?_ ?_ ?_ ?_ ?_ ?_ ?_ _ ?_
    · exact fun W hk => ⟨HQ4.out W (HKw2.out.drew.trans hk), HQ5.out W (HKw2.out.drew.trans hk), HQ22.out W (HKw2.out.drew.trans hk), HQ23.out W (HKw2.out.drew.trans hk)⟩
    · kernel_rfl
    · kernel_rfl
    · exact (fun W hk => (get16 b (o + 8) (n - 8) (c - 8) x8 x9 W (by have := HN.out; omega) (HQ8.out W (HKw2.out.drew.trans hk)) (HQ9.out W (HKw2.out.drew.trans hk)) (by exact R8.out) (by exact R9.out)).mono (fun e w' h => ⟨_, h.1, by rw [Hv8.out], h.2⟩))
    · exact (OpAt.of (by simp only [List.getElem?_toArray, List.getElem?_cons_zero, List.getElem?_cons_succ] <;> rfl) (by kernel_rfl))
    · exact (fun W hk => (get16 b (o + 10) (n - 10) (c - 10) x10 x11 W (by have := HN.out; omega) (HQ10.out W (HKw2.out.drew.trans hk)) (HQ11.out W (HKw2.out.drew.trans hk)) (by exact R10.out) (by exact R11.out)).mono (fun e w' h => ⟨_, h.1, by rw [Hv10.out], h.2⟩))
    · exact (OpAt.of (by simp only [List.getElem?_toArray, List.getElem?_cons_zero, List.getElem?_cons_succ] <;> rfl) (by kernel_rfl))
    · exact (fun W hk => (get16 b (o + 16) (n - 16) (c - 16) x16 x17 W (by have := HN.out; omega) (HQ16.out W (HKw2.out.drew.trans hk)) (HQ17.out W (HKw2.out.drew.trans hk)) (by exact R16.out) (by exact R17.out)).mono (fun e w' h => ⟨_, h.1, by rw [Hv16.out], h.2⟩))
    · exact (OpAt.of (by simp only [List.getElem?_toArray, List.getElem?_cons_zero, List.getElem?_cons_succ] <;> rfl) (by kernel_rfl))
    · exact (fun W hk => (get16 b (o + 12) (n - 12) (c - 12) x12 x13 W (by have := HN.out; omega) (HQ12.out W (HKw2.out.drew.trans hk)) (HQ13.out W (HKw2.out.drew.trans hk)) (by exact R12.out) (by exact R13.out)).mono (fun e w' h => ⟨_, h.1, by rw [Hv12.out], h.2⟩))
    · exact (OpAt.of (by simp only [List.getElem?_toArray, List.getElem?_cons_zero, List.getElem?_cons_succ] <;> rfl) (by kernel_rfl))
    · exact (OpAt.of (by simp only [List.getElem?_toArray, List.getElem?_cons_zero, List.getElem?_cons_succ] <;> rfl) (by kernel_rfl))
    · exact (fun W hk => (get16 b (o + 14) (n - 14) (c - 14) x14 x15 W (by have := HN.out; omega) (HQ14.out W (HKw2.out.drew.trans hk)) (HQ15.out W (HKw2.out.drew.trans hk)) (by exact R14.out) (by exact R15.out)).mono (fun e w' h => ⟨_, h.1, by rw [Hv14.out], h.2⟩))
    · exact (OpAt.of (by simp only [List.getElem?_toArray, List.getElem?_cons_zero, List.getElem?_cons_succ] <;> rfl) (by kernel_rfl))
    · exact (OpAt.of (by simp only [List.getElem?_toArray, List.getElem?_cons_zero, List.getElem?_cons_succ] <;> rfl) (by kernel_rfl))
    · exact (OpAt.of (by simp only [List.getElem?_toArray, List.getElem?_cons_zero, List.getElem?_cons_succ] <;> rfl) (by kernel_rfl))
    · exact (OpAt.of (by simp only [List.getElem?_toArray, List.getElem?_cons_zero, List.getElem?_cons_succ] <;> rfl) (by kernel_rfl))
    · exact (fun W hk => (get16 b (o + 20) (n - 20) (c - 20) 0 41 W (by have := HN.out; omega) (HQ20.out W (HKw2.out.drew.trans hk)) (HQ21.out W (HKw2.out.drew.trans hk)) (by decide) (by decide)).mono (fun e w' h => ⟨_, h.1, rfl, h.2⟩))
    · exact (OpAt.of (by simp only [List.getElem?_toArray, List.getElem?_cons_zero, List.getElem?_cons_succ] <;> rfl) (by kernel_rfl))
    · exact (fun W hk => (get16 b o n c x0 x1 W (by have := HN.out; omega) (HQ0.out W (HKw2.out.drew.trans hk)) (HQ1.out W (HKw2.out.drew.trans hk)) (by exact R0.out) (by exact R1.out)).mono (fun e w' h => ⟨_, h.1, by rw [Hv0.out], h.2⟩))
    · exact (OpAt.of (by simp only [List.getElem?_toArray, List.getElem?_cons_zero, List.getElem?_cons_succ] <;> rfl) (by kernel_rfl))
    · exact (OpAt.of (by simp only [List.getElem?_toArray, List.getElem?_cons_zero, List.getElem?_cons_succ] <;> rfl) (by kernel_rfl))
    · exact (OpAt.of (by simp only [List.getElem?_toArray, List.getElem?_cons_zero, List.getElem?_cons_succ] <;> rfl) (by kernel_rfl))
    · exact (OpAt.of (by simp only [List.getElem?_toArray, List.getElem?_cons_zero, List.getElem?_cons_succ] <;> rfl) (by kernel_rfl))
    · exact (OpAt.of (by simp only [List.getElem?_toArray, List.getElem?_cons_zero, List.getElem?_cons_succ] <;> rfl) (by kernel_rfl))
    · exact (OpAt.of (by simp only [List.getElem?_toArray, List.getElem?_cons_zero, List.getElem?_cons_succ] <;> rfl) (by kernel_rfl))
    · rfl
    · rfl
    · rfl
    · rfl
    · rfl
    · kernel_rfl
    · kernel_rfl
    · kernel_rfl
    · kernel_rfl
    · kernel_rfl
    rotate_left 1
    · exact Nat.le_of_eq (by kernel_rfl)
    intro y43 y47 y51 y62 y63 y67 y68 y69 y70 y74 y77 y78 y85 y86 pk cx wx hM
    simp only [List.foldl_cons, List.foldl_nil, List.setIfInBounds_toArray, List.set_cons_zero, List.set_cons_succ]
    simp only [NoPanic, Exit.then]
    go_wp2_with fail
    go_meet
    exact ⟨pk, cx, rfl, hM.from HKw2.out.drew⟩
  case rest =>
    obtain ⟨pk, cx, rfl, hmade⟩ := hcut
    have hpc : pk ≠ cx := hmade.2.2.1
    have hcp : cx ≠ pk := fun e => hpc e.symm
    have HM := Lib.hid hmade
    have p0 : wc.cell? ⟨pk, 0, none⟩ = some (.int .u16 41) := hmade.1.cell 0
    have f5 := hmade.1.frozen 5
    have p5 : wc.cell? ⟨pk, 5, none⟩ = some (.slice none 0 0) := hmade.1.cell 5
    clear hmade HKw2
    go_upto_region 10 with fail
    obtain ⟨r, hr⟩ : ∃ r, n - 41 = r := ⟨_, rfl⟩
    have hrw : IntKind.u16.wrap (r : Int) = (r : Int) := by rw [wrap_u16]; have := HNM.out; omega
    rw [hr] at hd
    have h9 := HM.out.setv (.slice (some ⟨b, o + 41, none⟩) (n - 41) (c - 41))
    rw [hr] at h9 ⊢
    generalize World.setCell wc _ _ = w5 at h9 ⊢
    have H5 := Lib.hid h9
    clear h9 HM p0 f5 p5 hr
    have p4 : w5.cell? ⟨pk, 4, none⟩ = some (.pointer (some ⟨cx, 0, none⟩)) := H5.out.1.cell 4
    have c2 : w5.cell? ⟨cx, 2, none⟩ = some (.int .u16 v8) := H5.out.2.1.cell 2
    by_cases hv3 : 315 ≤ v8
    · go_wp2_with fail
      have HD32 := Lib.hid (show w5.drew.cell? ⟨b, o + 32, none⟩ = some (.int .u8 x32) from by have h := HC.out w5.drew (H5.out.2.2.2.2.2).drew 32 (by omega); rw [HX32.out] at h; exact h)
      have HD33 := Lib.hid (show w5.drew.cell? ⟨b, o + 33, none⟩ = some (.int .u8 x33) from by have h := HC.out w5.drew (H5.out.2.2.2.2.2).drew 33 (by omega); rw [HX33.out] at h; exact h)
      have HD34 := Lib.hid (show w5.drew.cell? ⟨b, o + 34, none⟩ = some (.int .u8 x34) from by have h := HC.out w5.drew (H5.out.2.2.2.2.2).drew 34 (by omega); rw [HX34.out] at h; exact h)
      have HD35 := Lib.hid (show w5.drew.cell? ⟨b, o + 35, none⟩ = some (.int .u8 x35) from by have h := HC.out w5.drew (H5.out.2.2.2.2.2).drew 35 (by omega); rw [HX35.out] at h; exact h)
      go_region_held3 (fun w' => w'.cell? ⟨pk, 4, none⟩ = some (.pointer (some ⟨cx, 0, none⟩))) (first | with_reducible assumption | go_keep) (first | (go_at_call 64; refine (get32 b (o + 32) (n - 32) (c - 32) x32 x33 x34 x35 _ (by have := HN.out; omega) (by exact HD32.out) (by exact HD33.out) (by exact HD34.out) (by exact HD35.out) (by exact R32.out) (by exact R33.out) (by exact R34.out) (by exact R35.out)).mono ?_; rintro e w6 ⟨rfl, hb⟩; have H6 := Lib.hid (show Made w v0 x4 x5 v8 v10 v16 x22 x23 v12 v14 (.slice (some ⟨b, o + 41, none⟩) r (c - 41)) pk cx w6 from H5.out.drew.kp hb); have hp6 : w6.cell? ⟨pk, 4, none⟩ = some (.pointer (some ⟨cx, 0, none⟩)) := H6.out.1.cell 4; have hf6 := H6.out.2.1.frozen 12; have hc6 : w6.cell? ⟨cx, 12, none⟩ = some (.int .u32 v12) := H6.out.2.1.cell 12; clear hb))
      obtain ⟨s32, hs32⟩ : ∃ y, ((x32 * 256 + x33) * 256 + x34) * 256 + x35 = y := ⟨_, rfl⟩
      rw [hs32]
      clear hs32
      have h7 := H6.out.ssu s32
      clear hp6 hf6 hc6 H6 HD32 HD33 HD34 HD35 H5 p4 c2
      generalize World.setCell w6 _ _ = w7 at h7 ⊢
      have H7 := Lib.hid h7
      clear h7
      have p4 : w7.cell? ⟨pk, 4, none⟩ = some (.pointer (some ⟨cx, 0, none⟩)) := H7.out.1.cell 4
      go_wp2_with fail
      have HD36 := Lib.hid (show w7.drew.cell? ⟨b, o + 36, none⟩ = some (.int .u8 x36) from by have h := HC.out w7.drew (H7.out.2.2.2.2.2).drew 36 (by omega); rw [HX36.out] at h; exact h)
      have HD37 := Lib.hid (show w7.drew.cell? ⟨b, o + 37, none⟩ = some (.int .u8 x37) from by have h := HC.out w7.drew (H7.out.2.2.2.2.2).drew 37 (by omega); rw [HX37.out] at h; exact h)
      have HD38 := Lib.hid (show w7.drew.cell? ⟨b, o + 38, none⟩ = some (.int .u8 x38) from by have h := HC.out w7.drew (H7.out.2.2.2.2.2).drew 38 (by omega); rw [HX38.out] at h; exact h)
      have HD39 := Lib.hid (show w7.drew.cell? ⟨b, o + 39, none⟩ = some (.int .u8 x39) from by have h := HC.out w7.drew (H7.out.2.2.2.2.2).drew 39 (by omega); rw [HX39.out] at h; exact h)
      go_region_held3 (fun w' => w'.cell? ⟨pk, 4, none⟩ = some (.pointer (some ⟨cx, 0, none⟩))) (first | with_reducible assumption | go_keep) (first | (go_at_call 64; refine (get32 b (o + 36) (n - 36) (c - 36) x36 x37 x38 x39 _ (by have := HN.out; omega) (by exact HD36.out) (by exact HD37.out) (by exact HD38.out) (by exact HD39.out) (by exact R36.out) (by exact R37.out) (by exact R38.out) (by exact R39.out)).mono ?_; rintro e w8 ⟨rfl, hb⟩; have H8 := Lib.hid (show Made w v0 x4 x5 v8 v10 v16 x22 x23 s32 v14 (.slice (some ⟨b, o + 41, none⟩) r (c - 41)) pk cx w8 from H7.out.drew.kp hb); have hp8 : w8.cell? ⟨pk, 4, none⟩ = some (.pointer (some ⟨cx, 0, none⟩)) := H8.out.1.cell 4; have hf8 := H8.out.2.1.frozen 13; have hc8 : w8.cell? ⟨cx, 13, none⟩ = some (.int .u32 v14) := H8.out.2.1.cell 13; clear hb))
      obtain ⟨s36, hs36⟩ : ∃ y, ((x36 * 256 + x37) * 256 + x38) * 256 + x39 = y := ⟨_, rfl⟩
      rw [hs36]
      clear hs36
      have h9 := H8.out.stu s36
      clear hp8 hf8 hc8 H8 HD36 HD37 HD38 HD39 H7 p4
      generalize World.setCell w8 _ _ = w10 at h9 ⊢
      have H10 := Lib.hid h9
      clear h9
      have p3 : w10.cell? ⟨pk, 3, none⟩ = some (.int .u8 x5) := H10.out.1.cell 3
      have p4 : w10.cell? ⟨pk, 4, none⟩ = some (.pointer (some ⟨cx, 0, none⟩)) := H10.out.1.cell 4
      have c12 : w10.cell? ⟨cx, 12, none⟩ = some (.int .u32 s32) := H10.out.2.1.cell 12
      have c13 : w10.cell? ⟨cx, 13, none⟩ = some (.int .u32 s36) := H10.out.2.1.cell 13
      have f12 := H10.out.2.1.frozen 12
      go_wp2_with fail
      go_quiet (fail)
      generalize hQ : World.drewN w10 _ = wq at *
      have HQ := Lib.hid (show Made w v0 x4 x5 v8 v10 v16 x22 x23 s32 s36 (.slice (some ⟨b, o + 41, none⟩) r (c - 41)) pk cx wq from hQ ▸ H10.out.kp ((Kp.refl w10).drewN _))
      clear hQ p3 p4 c12 c13 f12 H10
      by_cases ht : s36 < s32
      · have p4 : wq.cell? ⟨pk, 4, none⟩ = some (.pointer (some ⟨cx, 0, none⟩)) := HQ.out.1.cell 4
        have c12 : wq.cell? ⟨cx, 12, none⟩ = some (.int .u32 s32) := HQ.out.2.1.cell 12
        have c13 : wq.cell? ⟨cx, 13, none⟩ = some (.int .u32 s36) := HQ.out.2.1.cell 13
        have f12 := HQ.out.2.1.frozen 12
        go_wp2_with fail
        go_region
        have hS := (HQ.out.ssu s36).drew
        clear p4 c12 c13 f12 HQ
        generalize World.drew _ = ws at hS ⊢
        have HS := Lib.hid hS
        clear hS
        have p5 : ws.cell? ⟨pk, 5, none⟩ = some (.slice (some ⟨b, o + 41, none⟩) r (c - 41)) := HS.out.1.cell 5
        have p5d : ws.drew.cell? ⟨pk, 5, none⟩ = some (.slice (some ⟨b, o + 41, none⟩) r (c - 41)) := p5
        go_wp2_with fail
        have HD18 := Lib.hid (show ws.drew.cell? ⟨b, o + 18, none⟩ = some (.int .u8 x18) from by have h := HC.out ws.drew (HS.out.2.2.2.2.2).drew 18 (by omega); rw [HX18.out] at h; exact h)
        have HD19 := Lib.hid (show ws.drew.cell? ⟨b, o + 19, none⟩ = some (.int .u8 x19) from by have h := HC.out ws.drew (HS.out.2.2.2.2.2).drew 19 (by omega); rw [HX19.out] at h; exact h)
        go_region_held3 (fun w' => w'.cell? ⟨pk, 5, none⟩ = some (.slice (some ⟨b, o + 41, none⟩) r (c - 41))) (first | with_reducible assumption | go_keep) (first | (go_at_call 63; refine (get16 b (o + 18) (n - 18) (c - 18) x18 x19 _ (by have := HN.out; omega) (by exact HD18.out) (by exact HD19.out) (by exact R18.out) (by exact R19.out)).mono ?_; rintro e w9 ⟨rfl, hb⟩; have HK9 := Lib.hid (show Kp w w9 from (HS.out.2.2.2.2.2).drew.call hb); have hp9 : w9.cell? ⟨pk, 5, none⟩ = some (.slice (some ⟨b, o + 41, none⟩) r (c - 41)) := (HS.out.drew.kp hb).1.cell 5; rw [Hv18.out]; clear hb))
        go_wp2_with fail
        go_ret
        exact ⟨rfl, HK9.out⟩
      · go_wp2_with fail
        have p5 : wq.cell? ⟨pk, 5, none⟩ = some (.slice (some ⟨b, o + 41, none⟩) r (c - 41)) := HQ.out.1.cell 5
        have p5d : wq.drew.cell? ⟨pk, 5, none⟩ = some (.slice (some ⟨b, o + 41, none⟩) r (c - 41)) := p5
        go_wp2_with fail
        have HD18 := Lib.hid (show wq.drew.cell? ⟨b, o + 18, none⟩ = some (.int .u8 x18) from by have h := HC.out wq.drew (HQ.out.2.2.2.2.2).drew 18 (by omega); rw [HX18.out] at h; exact h)
        have HD19 := Lib.hid (show wq.drew.cell? ⟨b, o + 19, none⟩ = some (.int .u8 x19) from by have h := HC.out wq.drew (HQ.out.2.2.2.2.2).drew 19 (by omega); rw [HX19.out] at h; exact h)
        go_region_held3 (fun w' => w'.cell? ⟨pk, 5, none⟩ = some (.slice (some ⟨b, o + 41, none⟩) r (c - 41))) (first | with_reducible assumption | go_keep) (first | (go_at_call 63; refine (get16 b (o + 18) (n - 18) (c - 18) x18 x19 _ (by have := HN.out; omega) (by exact HD18.out) (by exact HD19.out) (by exact R18.out) (by exact R19.out)).mono ?_; rintro e w9 ⟨rfl, hb⟩; have HK9 := Lib.hid (show Kp w w9 from (HQ.out.2.2.2.2.2).drew.call hb); have hp9 : w9.cell? ⟨pk, 5, none⟩ = some (.slice (some ⟨b, o + 41, none⟩) r (c - 41)) := (HQ.out.drew.kp hb).1.cell 5; rw [Hv18.out]; clear hb))
        go_wp2_with fail
        go_ret
        exact ⟨rfl, HK9.out⟩
    · go_upto_region 13 with fail
      clear p4 c2
      have p3 : w5.cell? ⟨pk, 3, none⟩ = some (.int .u8 x5) := H5.out.1.cell 3
      have p4 : w5.cell? ⟨pk, 4, none⟩ = some (.pointer (some ⟨cx, 0, none⟩)) := H5.out.1.cell 4
      have c12 : w5.cell? ⟨cx, 12, none⟩ = some (.int .u32 v12) := H5.out.2.1.cell 12
      have c13 : w5.cell? ⟨cx, 13, none⟩ = some (.int .u32 v14) := H5.out.2.1.cell 13
      have f12 := H5.out.2.1.frozen 12
      go_wp2_with fail
      go_quiet (fail)
      generalize hQ : World.drewN w5 _ = wq at *
      have HQ := Lib.hid (show Made w v0 x4 x5 v8 v10 v16 x22 x23 v12 v14 (.slice (some ⟨b, o + 41, none⟩) r (c - 41)) pk cx wq from hQ ▸ H5.out.kp ((Kp.refl w5).drewN _))
      clear hQ p3 p4 c12 c13 f12 H5
      by_cases ht : v14 < v12
      · have p4 : wq.cell? ⟨pk, 4, none⟩ = some (.pointer (some ⟨cx, 0, none⟩)) := HQ.out.1.cell 4
        have c12 : wq.cell? ⟨cx, 12, none⟩ = some (.int .u32 v12) := HQ.out.2.1.cell 12
        have c13 : wq.cell? ⟨cx, 13, none⟩ = some (.int .u32 v14) := HQ.out.2.1.cell 13
        have f12 := HQ.out.2.1.frozen 12
        go_wp2_with fail
        go_region
        have hS := (HQ.out.ssu v14).drew
        clear p4 c12 c13 f12 HQ
        generalize World.drew _ = ws at hS ⊢
        have HS := Lib.hid hS
        clear hS
        have p5 : ws.cell? ⟨pk, 5, none⟩ = some (.slice (some ⟨b, o + 41, none⟩) r (c - 41)) := HS.out.1.cell 5
        have p5d : ws.drew.cell? ⟨pk, 5, none⟩ = some (.slice (some ⟨b, o + 41, none⟩) r (c - 41)) := p5
        go_wp2_with fail
        have HD18 := Lib.hid (show ws.drew.cell? ⟨b, o + 18, none⟩ = some (.int .u8 x18) from by have h := HC.out ws.drew (HS.out.2.2.2.2.2).drew 18 (by omega); rw [HX18.out] at h; exact h)
        have HD19 := Lib.hid (show ws.drew.cell? ⟨b, o + 19, none⟩ = some (.int .u8 x19) from by have h := HC.out ws.drew (HS.out.2.2.2.2.2).drew 19 (by omega); rw [HX19.out] at h; exact h)
        go_region_held3 (fun w' => w'.cell? ⟨pk, 5, none⟩ = some (.slice (some ⟨b, o + 41, none⟩) r (c - 41))) (first | with_reducible assumption | go_keep) (first | (go_at_call 63; refine (get16 b (o + 18) (n - 18) (c - 18) x18 x19 _ (by have := HN.out; omega) (by exact HD18.out) (by exact HD19.out) (by exact R18.out) (by exact R19.out)).mono ?_; rintro e w9 ⟨rfl, hb⟩; have HK9 := Lib.hid (show Kp w w9 from (HS.out.2.2.2.2.2).drew.call hb); have hp9 : w9.cell? ⟨pk, 5, none⟩ = some (.slice (some ⟨b, o + 41, none⟩) r (c - 41)) := (HS.out.drew.kp hb).1.cell 5; rw [Hv18.out]; clear hb))
        go_wp2_with fail
        go_ret
        exact ⟨rfl, HK9.out⟩
      · go_wp2_with fail
        have p5 : wq.cell? ⟨pk, 5, none⟩ = some (.slice (some ⟨b, o + 41, none⟩) r (c - 41)) := HQ.out.1.cell 5
        have p5d : wq.drew.cell? ⟨pk, 5, none⟩ = some (.slice (some ⟨b, o + 41, none⟩) r (c - 41)) := p5
        go_wp2_with fail
        have HD18 := Lib.hid (show wq.drew.cell? ⟨b, o + 18, none⟩ = some (.int .u8 x18) from by have h := HC.out wq.drew (HQ.out.2.2.2.2.2).drew 18 (by omega); rw [HX18.out] at h; exact h)
        have HD19 := Lib.hid (show wq.drew.cell? ⟨b, o + 19, none⟩ = some (.int .u8 x19) from by have h := HC.out wq.drew (HQ.out.2.2.2.2.2).drew 19 (by omega); rw [HX19.out] at h; exact h)
        go_region_held3 (fun w' => w'.cell? ⟨pk, 5, none⟩ = some (.slice (some ⟨b, o + 41, none⟩) r (c - 41))) (first | with_reducible assumption | go_keep) (first | (go_at_call 63; refine (get16 b (o + 18) (n - 18) (c - 18) x18 x19 _ (by have := HN.out; omega) (by exact HD18.out) (by exact HD19.out) (by exact R18.out) (by exact R19.out)).mono ?_; rintro e w9 ⟨rfl, hb⟩; have HK9 := Lib.hid (show Kp w w9 from (HQ.out.2.2.2.2.2).drew.call hb); have hp9 : w9.cell? ⟨pk, 5, none⟩ = some (.slice (some ⟨b, o + 41, none⟩) r (c - 41)) := (HQ.out.drew.kp hb).1.cell 5; rw [Hv18.out]; clear hb))
        go_wp2_with fail
        go_ret
        exact ⟨rfl, HK9.out⟩
end Go.Proofs.YtacmnibhdmeidaaDoor
