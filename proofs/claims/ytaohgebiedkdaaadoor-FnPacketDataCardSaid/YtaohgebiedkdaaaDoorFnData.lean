/-
  FnPacketData: the law returns true for every context and every list of bytes.
-/
import Derived.Test.YtaohgebiedkdaaaDoorDataKit
namespace Go.Proofs.YtaohgebiedkdaaaDoor
open Go Go.RowKit

set_option maxHeartbeats 4000000 in
set_option maxRecDepth 100000 in
theorem fnPacketData_few (c : Cx) (p : Option Addr) (n k : Nat) (xs : List Int) (w : World) (hi : Lib.BytesIn w p n xs) (hx : xs.length = n) (hr : ∀ x ∈ xs, 0 ≤ x ∧ x < 256) (hm : n ≤ 3000) :
    Calls Tryd.prog 5 #[c.val, .slice p n k] w fun e w' => e = .returned (.bool true) ∧ Below w.heap.size w w' := by
  obtain ⟨f1, f2, f3, f4, f5, f6, f7⟩ := dataL_facts c.long n xs hx (by omega) hr
  have i0 : ((n : Nat) : Int) ≤ 3000 := by omega
  have DB := Lib.hid (fun q d w1 h => dataBytes_any c q n d xs w1 h hx (by omega))
  have DR0 : ∀ (q : Option Addr) (d : Nat) (w1 : World), Lib.BytesIn w1 q (10 + n) (dataL c.long ((n : Int) + 10) xs) → Calls Tryd.prog 18 #[c.val, .slice q (10 + n) d] w1 (DRM ((n : Int) + 10) 0 0 n xs w1) := fun q d w1 h => by
    have := dataRead_ok c q (10 + n) d (dataL c.long ((n : Int) + 10) xs) w1 h f1 f2 (by omega) (by omega) f3
    rw [f4, f5, f7, show (if c.long = true then g32 (dataL c.long ((n : Int) + 10) xs) 0 else g16 (dataL c.long ((n : Int) + 10) xs) 0) = (n : Int) + 10 from f6, drm_eq] at this
    exact this
  have DR := Lib.hid DR0
  clear DR0
  have SD := Lib.hid (fun d w1 h => specData_any c p n d xs w1 h hx (by omega))
  have SL := Lib.hid (fun w1 => specLongX_any c w1)
  have SH := Lib.hid (fun b o d w1 h1 h2 h3 => headOfSpec_any c.long b o (10 + n) d 10 (dataL c.long ((n : Int) + 10) xs) w1 h1 f1 f2 h2 h3 (by omega))
  rw [f6, f3, f4] at SH
  unfold headV at SH
  have HX := Lib.hid hx
  have HI := Lib.hid hi
  have HZ := Lib.hid f1
  generalize dataL c.long ((n : Int) + 10) xs = zs at *
  generalize hlong : c.long = long at *
  clear hlong
  clear hi hx hr f1 f2 f3 f4 f5 f6 f7
  unfold Cx.val at *
  go_enter Tryd.func5, Tryd.ntmps5
  go_wp2_with fail
  go_region_held3 (fun w' => w'.cell? ⟨w.heap.size, 0, none⟩ = some (.int .u16 c.v) ∧ w'.cell? ⟨w.heap.size, 1, none⟩ = some (.int .u16 c.lo) ∧ w'.cell? ⟨w.heap.size, 2, none⟩ = some (.int .u16 c.op) ∧ w'.cell? ⟨w.heap.size, 3, none⟩ = some (.int .u16 c.oo) ∧ w'.cell? ⟨w.heap.size, 4, none⟩ = some (.int .u16 c.hi) ∧ w'.cell? ⟨w.heap.size, 5, none⟩ = some (.int .u8 c.a0) ∧ w'.cell? ⟨w.heap.size, 6, none⟩ = some (.int .u8 c.a1) ∧ w'.cell? ⟨w.heap.size, 7, none⟩ = some (.int .u32 c.su) ∧ w'.cell? ⟨w.heap.size, 8, none⟩ = some (.int .u32 c.tu) ∧ w'.cell? ⟨w.heap.size, 9, none⟩ = some (.bool c.cp)) (go_keep)
    (first
      | (go_at_call 14; refine (clone_any _ _ _ _ xs (by exact bin_alloc HI.out _) HX.out (by omega)).mono ?_; rintro e w1 ⟨q1, d1, rfl, hown, hb⟩; obtain ⟨hcl, hfz⟩ := bcell hb; have HQ1 := Lib.hid (bin_of_own hown); have HB1 := Lib.hid hb; have hs1 : w.heap.size < w1.heap.size := (by have := hb.size; simp only [World.size_alloc, World.size_drew] at this; omega); simp only [World.size_alloc, World.size_drew] at hcl; clear hb hown hfz)
      | (go_at_call 17; refine (DB.out _ _ _ (by exact HQ1.out)).mono ?_; rintro e w2 ⟨v, rfl, hov, hb⟩; obtain ⟨hcl2, hfz2⟩ := bcell hb; obtain ⟨q2, d2, rfl, hnd, hdm, hin⟩ := own_pos hov (by omega); have HQ2 := Lib.hid hin; have HB2 := Lib.hid hb; clear hb hov hin hfz2))
  have hb2 : Below w.heap.size w w2 := ((Below.refl w.heap.size w).alloc (Nat.le_refl _) _).drew.trans ((HB1.out.mono (by simp)).trans (HB2.out.mono (by have := HB1.out.size; simp at this; omega)))
  have HK := Lib.hid (((Blk.new w 35 _).drew.old HB1.out).old HB2.out)
  have HP := Lib.hid (bin_below HI.out hb2)
  have HB := Lib.hid hb2
  clear hcl hcl2 hb2 HB1 HB2 HQ1 hs1
  have HND := Lib.hid hnd
  have HDM := Lib.hid hdm
  clear hnd hdm
  go_wp2_with fail
  go_cut [6, 7, 8, 9] (fun s6 s7 s8 s9 wx => CutD w c ((n : Int) + 10) n xs zs (some ⟨q2, 0, none⟩) p s6 s7 s8 s9 wx)
  case first =>
    obtain ⟨b0, b1, b2, b3, b4, b5, b6, b7, b8, b9⟩ := cx_cells HK.out
    have hlt := HK.out.lt
    have hlt2 : w.heap.size < w2.heap.size + 1 := by omega
    have hn1 := Nat.ne_of_lt hlt
    have hn2 := Nat.ne_of_gt hlt
    go_region_held3 (fun w' => w'.cell? ⟨w.heap.size, 0, none⟩ = some (.int .u16 c.v) ∧ w'.cell? ⟨w.heap.size, 1, none⟩ = some (.int .u16 c.lo) ∧ w'.cell? ⟨w.heap.size, 2, none⟩ = some (.int .u16 c.op) ∧ w'.cell? ⟨w.heap.size, 3, none⟩ = some (.int .u16 c.oo) ∧ w'.cell? ⟨w.heap.size, 4, none⟩ = some (.int .u16 c.hi) ∧ w'.cell? ⟨w.heap.size, 5, none⟩ = some (.int .u8 c.a0) ∧ w'.cell? ⟨w.heap.size, 6, none⟩ = some (.int .u8 c.a1) ∧ w'.cell? ⟨w.heap.size, 7, none⟩ = some (.int .u32 c.su) ∧ w'.cell? ⟨w.heap.size, 8, none⟩ = some (.int .u32 c.tu) ∧ w'.cell? ⟨w.heap.size, 9, none⟩ = some (.bool c.cp)) (go_keep)
      (first
        | (go_at_call 14; refine (clone_any _ _ _ _ zs (by first | exact HQ2.out | exact bin_alloc HQ2.out _) HZ.out (by omega)).mono ?_; rintro e w3 ⟨q3, d3, rfl, hown, hb⟩; obtain ⟨hcl, hfz⟩ := bcell hb; have HQ3 := Lib.hid (bin_of_own hown); have HB3 := Lib.hid hb; have hsz := hb.size; try simp only [World.size_alloc, World.size_drew] at hcl hfz hsz; have hs3 : w.heap.size < w3.heap.size := (by omega); have hs4 : w.heap.size < w3.heap.size + 1 := (by omega); have hn3 := Nat.ne_of_lt hs3; have hn4 := Nat.ne_of_gt hs3; try (have hs5 : w2.heap.size < w3.heap.size := (by omega)); clear hb hown)
        | (go_at_call 18; refine (DR.out _ _ _ (by first | exact HQ3.out | exact bin_alloc HQ3.out _)).mono ?_; rintro e w4 ⟨q4, d4, rfl, hown, hb⟩; obtain ⟨hcl4, hfz4⟩ := bcell hb; have HO4 := Lib.hid hown; have HB4 := Lib.hid hb; have hsz4 := hb.size; try rw [World.size_alloc] at hsz4; try simp only [World.size_alloc] at hcl4 hfz4; have hs7 : w.heap.size < w4.heap.size := (by omega); have hs8 : w.heap.size < w4.heap.size + 1 := (by omega); have hn7 := Nat.ne_of_lt hs7; have hn8 := Nat.ne_of_gt hs7; clear hb hown))
    all_goals
      clear hcl hfz hcl4 hfz4
      go_wp2_with fail
      go_meet
    · have h24 := (((Below.refl _ w2).drew).trans HB3.out).trans (HB4.out.mono HB3.out.size)
      exact cutD_mk HK.out HP.out HB.out HQ2.out (h24.alloc h24.size _) (Blk.new _ _ _) (bin_alloc (bin_of_own HO4.out) _)
    · have h23 := ((Below.refl _ w2).drew).trans HB3.out
      have h24 := (h23.alloc h23.size _).trans (HB4.out.mono (by have := h23.size; simp; omega))
      exact cutD_mk HK.out HP.out HB.out HQ2.out (below_set4 h24 h23.size _ _ _ _) (blk_set4 ((Blk.new w3 _ _).old HB4.out) _ _ _ _) (bin_of_own (own_set4 HO4.out (by simp) _ _ _ _))
    · have h23 := ((Below.refl _ w2).alloc (Nat.le_refl _) _).drew.trans (HB3.out.mono (by simp))
      have h24 := h23.trans (HB4.out.mono h23.size)
      exact cutD_mk HK.out HP.out HB.out HQ2.out (below_set4 h24 (Nat.le_refl w2.heap.size) _ _ _ _) (blk_set4 (((Blk.new w2 _ _).drew.old HB3.out).old HB4.out) _ _ _ _) (bin_of_own (own_set4 HO4.out (by have := HB3.out.size; simp at this; omega) _ _ _ _))
  case rest =>
    obtain ⟨hb, r, dr, rfl, rfl, rfl, rfl, HbH, HqR, HqZ, HqP, HkC, HwB⟩ := hcut
    clear HK HP HB HQ2
    obtain ⟨h0, h1, h2, h3⟩ := head_cells HbH
    go_wp2_with fail
    obtain ⟨b0, b1, b2, b3, b4, b5, b6, b7, b8, b9⟩ := cx_cells HkC
    have hl1 := HbH.lt
    have hl2 := HkC.lt
    have HR := Lib.hid HqR
    have HZZ := Lib.hid HqZ
    have HP := Lib.hid HqP
    have HW := Lib.hid HwB
    clear HbH HqR HqZ HqP HkC HwB
    go_region_held3 (fun w' => w'.cell? ⟨w.heap.size, 0, none⟩ = some (.int .u16 c.v) ∧ w'.cell? ⟨w.heap.size, 1, none⟩ = some (.int .u16 c.lo) ∧ w'.cell? ⟨w.heap.size, 2, none⟩ = some (.int .u16 c.op) ∧ w'.cell? ⟨w.heap.size, 3, none⟩ = some (.int .u16 c.oo) ∧ w'.cell? ⟨w.heap.size, 4, none⟩ = some (.int .u16 c.hi) ∧ w'.cell? ⟨w.heap.size, 5, none⟩ = some (.int .u8 c.a0) ∧ w'.cell? ⟨w.heap.size, 6, none⟩ = some (.int .u8 c.a1) ∧ w'.cell? ⟨w.heap.size, 7, none⟩ = some (.int .u32 c.su) ∧ w'.cell? ⟨w.heap.size, 8, none⟩ = some (.int .u32 c.tu) ∧ w'.cell? ⟨w.heap.size, 9, none⟩ = some (.bool c.cp) ∧ w'.cell? ⟨hb, 0, none⟩ = some (.int .u32 ((n : Int) + 10)) ∧ w'.cell? ⟨hb, 1, none⟩ = some (.int .u8 6) ∧ w'.cell? ⟨hb, 2, none⟩ = some (.int .u8 0) ∧ w'.cell? ⟨hb, 3, none⟩ = some (.int .u16 10)) (go_keep)
      (first
        | (go_at_call 20; refine (SD.out _ _ (by exact HP.out)).mono ?_; rintro e w5 ⟨v, rfl, hov, hb5⟩; obtain ⟨hcl, hfz⟩ := bcell hb5; obtain ⟨q5, d5, rfl, hin⟩ := bin_own hov; have HQ5 := Lib.hid hin; have HZ5 := Lib.hid (bin_below (w := wc.drew) HZZ.out hb5); have HR5 := Lib.hid (bin_below (w := wc.drew) HR.out hb5); have HP5 := Lib.hid (bin_below (w := wc.drew) HP.out hb5); have HB5 := Lib.hid hb5; have hl3 : hb < w5.heap.size := (by have := hb5.size; simp only [World.size_drew] at this; omega); have hl4 : w.heap.size < w5.heap.size := (by have := hb5.size; simp only [World.size_drew] at this; omega); simp only [World.size_drew] at hcl; clear hb5 hov hin hfz)
        | (go_at_call 19; refine (bytes_equal_same _ _ _ _ _ _ zs HZ.out HZ5.out HQ5.out).mono ?_; rintro e w6 ⟨rfl, rfl⟩; clear HQ5)
        | (go_at_call 19; refine (bytes_equal_same _ _ _ _ _ _ xs HX.out HR5.out HP5.out).mono ?_; rintro e w6 ⟨rfl, rfl⟩)
        | (go_at_call 22; refine (SL.out _).mono ?_; rintro e w7 ⟨rfl, hb7⟩; obtain ⟨hcl7, hfz7⟩ := bcell hb7; have HB7 := Lib.hid hb7; have hl5 : hb < w7.heap.size := (by have := hb7.size; omega); have hl6 : w.heap.size < w7.heap.size := (by have := hb7.size; omega); clear hb7 hfz7)
        | (go_at_call 21; refine (SH.out _ _ _ _ (by exact bin_cells (bin_below HZ5.out HB7.out)) HND.out HDM.out).mono ?_; rintro e w8 ⟨rfl, hb8⟩; obtain ⟨hcl8, hfz8⟩ := bcell hb8; have HB8 := Lib.hid hb8; have hl7 : hb < w8.heap.size := (by have := hb8.size; omega); have hl8 : w.heap.size < w8.heap.size := (by have := hb8.size; omega); clear hb8 hfz8)
        | (go_at_call 12; refine (packetAwake_any _).mono ?_; rintro e w9 ⟨rfl, hb9⟩; obtain ⟨hcl9, hfz9⟩ := bcell hb9; have HB9 := Lib.hid hb9; clear hb9 hfz9))
    go_wp2
    go_ret
    have e5 := HW.out.drew.trans (HB5.out.mono HW.out.size)
    have e7 := e5.trans (HB7.out.mono e5.size)
    have e8 := e7.trans (HB8.out.mono e7.size)
    exact ⟨rfl, e8.trans (HB9.out.mono e8.size)⟩

theorem fnPacketData_any (c : Cx) (p : Option Addr) (n k : Nat) (xs : List Int) (w : World) (hi : Lib.BytesIn w p n xs) (hx : xs.length = n) (hr : ∀ x ∈ xs, 0 ≤ x ∧ x < 256) :
    Calls Tryd.prog 5 #[c.val, .slice p n k] w fun e w' => e = .returned (.bool true) ∧ Below w.heap.size w w' := by
  by_cases hm : n ≤ 3000
  · exact fnPacketData_few c p n k xs w hi hx hr hm
  by_cases hn : n ≤ 2147483647
  · have i0 : ((n : Nat) : Int) ≤ 2147483647 := by omega
    have i1 : (3000 : Int) < ((n : Nat) : Int) := by omega
    clear hi hx hr
    unfold Cx.val
    go_enter Tryd.func5, Tryd.ntmps5
    go_wp2_with fail
    refine (packetAwake_any _).mono ?_
    rintro e w3 ⟨rfl, hb⟩
    have HB3 := Lib.hid (((Below.refl _ w).alloc (Nat.le_refl _) _).trans (hb.mono (by simp)))
    clear hb
    go_wp2_with fail
    go_ret
    exact ⟨rfl, HB3.out⟩
  · have i0 : (2147483647 : Int) < ((n : Nat) : Int) := by omega
    clear hi hx hr
    unfold Cx.val
    go_enter Tryd.func5, Tryd.ntmps5
    go_wp2_with fail
    go_ret
    exact ⟨rfl, (Below.refl _ w).alloc (Nat.le_refl _) _⟩
end Go.Proofs.YtaohgebiedkdaaaDoor
