/-
  FnNetworkApart: servers with different addresses or ports are told differently.
-/
import Derived.Test.YtmojecgmneodlaaDoorCfg1
import Derived.Deep.RegionHeld3
import Derived.Lib.SlicesS
namespace Go.Proofs.YtmojecgmneodlaaDoor
open Go Go.RowKit

set_option maxRecDepth 100000 in
set_option maxHeartbeats 8000000 in
theorem fnNet_addr (pra a prb b : ByteArray) (pa pb : Int) (w : World) (z1 : pra.size ≤ 2147483647) (z2 : prb.size ≤ 2147483647) (ha : a.size ≤ 300) (hb : b.size ≤ 300) (p0 : -9223372036854775808 ≤ pa) (p1 : pa ≤ 9223372036854775807) (p2 : -9223372036854775808 ≤ pb) (p3 : pb ≤ 9223372036854775807) (ht : Tab w) (hne : a ≠ b) :
    Calls Tryd.prog 5 #[.agg #[.string pra, .string a, .int .i64 pa], .agg #[.string prb, .string b, .int .i64 pb]] w fun e w' => e = .returned (.bool true) ∧ Below w.heap.size w w' := by
  have Z1 := Lib.hid (fun w1 => zzFits1_any pra a pa (by unfold maxLen; omega) (by unfold maxLen; omega) w1)
  rw [decide_eq_true z1, decide_eq_true (show a.size ≤ 2147483647 by omega)] at Z1
  have Z2 := Lib.hid (fun w1 => zzFits1_any prb b pb (by unfold maxLen; omega) (by unfold maxLen; omega) w1)
  rw [decide_eq_true z2, decide_eq_true (show b.size ≤ 2147483647 by omega)] at Z2
  have HS := Lib.hid (show shortL (fun r => if r = 0 then a else b) 2 = true from by simp [shortL]; omega)
  have HM := Lib.hid (show ∀ r, r < 2 → ((fun r => if r = 0 then a else b) r).size ≤ maxLen from fun r _ => by show (if r = 0 then a else b).size ≤ maxLen; split <;> (unfold maxLen; omega))
  obtain ⟨NA, hNA⟩ : ∃ NA, netS a pa = NA := ⟨_, rfl⟩
  obtain ⟨NB, hNB⟩ : ∃ NB, netS b pb = NB := ⟨_, rfl⟩
  have HNA := Lib.hid (fun w1 (hk : Kp w w1) => network_any pra a pa w1 (by omega) p0 p1 (fun w2 hk2 => itoa_any pa p0 p1 w2 (ht.kp (hk.trans hk2))))
  have HNB := Lib.hid (fun w1 (hk : Kp w w1) => network_any prb b pb w1 (by omega) p2 p3 (fun w2 hk2 => itoa_any pb p2 p3 w2 (ht.kp (hk.trans hk2))))
  rw [hNA] at HNA
  rw [hNB] at HNB
  have hN : (NA.toList == NB.toList) = false := by rw [Lib.bytes_beq_false_iff, ← hNA, ← hNB]; exact fun e => hne ((netS_inj _ _ _ _).1 e).1
  have hA : (a.toList == b.toList) = false := by rw [Lib.bytes_beq_false_iff]; exact hne
  clear hNA hNB hne
  clear z1 z2 ha hb p0 p1 p2 p3 ht
  go_enter Tryd.func5, Tryd.ntmps5
  go_wp2_with fail
  generalize hX : (w.alloc (.cells #[.string pra, .string a, .int .i64 pa] 27)).alloc (.cells #[.string prb, .string b, .int .i64 pb] 27) = X
  obtain ⟨b1, hb1⟩ : ∃ b1, b1 = w.heap.size := ⟨_, rfl⟩
  obtain ⟨b2, hb2⟩ : ∃ b2, b2 = w.heap.size + 1 := ⟨_, rfl⟩
  have HB1 := Lib.hid (show Blk X b1 27 #[.string pra, .string a, .int .i64 pa] from by rw [hb1, ← hX]; exact (Blk.new w _ _).alloc _)
  have HB2 := Lib.hid (show Blk X b2 27 #[.string prb, .string b, .int .i64 pb] from by rw [hb2, ← hX]; exact Blk.new2 w _ _ _)
  have HKX := Lib.hid (show Kp w X from hX ▸ ((Kp.refl w).alloc _).alloc _)
  rw [← hb2, ← hb1]
  clear hX hb1 hb2
  refine (Z1.out _).mono ?_
  rintro e w1 ⟨rfl, hk⟩
  have K1 := Lib.hid (show Kp X w1 from hk)
  have u0 : w1.cell? ⟨b2, 0, none⟩ = some (.string prb) := (HB2.out.kp K1.out).cell 0
  have u1 : w1.cell? ⟨b2, 1, none⟩ = some (.string b) := (HB2.out.kp K1.out).cell 1
  have u2 : w1.cell? ⟨b2, 2, none⟩ = some (.int .i64 pb) := (HB2.out.kp K1.out).cell 2
  clear hk
  go_wp2_with fail
  refine (Z2.out _).mono ?_
  rintro e w2 ⟨rfl, hk⟩
  have K2 := Lib.hid (K1.out.trans (show Kp w1 w2 from hk))
  clear hk u0 u1 u2
  have u1 : w2.cell? ⟨b1, 1, none⟩ = some (.string a) := (HB1.out.kp K2.out).cell 1
  have u2 : w2.cell? ⟨b2, 1, none⟩ = some (.string b) := (HB2.out.kp K2.out).cell 1
  go_wp2_with fail
  generalize hW : w2.alloc (.cells #[.string a, .string b] 9) = W3
  have hB3 : Blk W3 w2.heap.size 9 #[.string a, .string b] := hW ▸ Blk.new w2 _ _
  have hk3 : Kp w2 W3 := hW ▸ (Kp.refl w2).alloc _
  have CS := Lib.hid (configShort_any w2.heap.size 2 2 (fun r => if r = 0 then a else b) W3 (fun r hr => by
    rcases (show r = 0 ∨ r = 1 by omega) with rfl | rfl
    · exact hB3.cell 0
    · exact hB3.cell 1) HM.out (by omega))
  rw [HS.out] at CS
  have KX3 := Lib.hid (K2.out.trans hk3)
  have KW3 := Lib.hid (HKX.out.trans KX3.out)
  clear hW hB3 hk3 u1 u2
  refine CS.out.mono ?_
  rintro e wx ⟨rfl, rfl⟩
  clear CS
  have x0 : W3.cell? ⟨b1, 0, none⟩ = some (.string pra) := (HB1.out.kp KX3.out).cell 0
  have x1 : W3.cell? ⟨b1, 1, none⟩ = some (.string a) := (HB1.out.kp KX3.out).cell 1
  have x2 : W3.cell? ⟨b1, 2, none⟩ = some (.int .i64 pa) := (HB1.out.kp KX3.out).cell 2
  have x3 : W3.cell? ⟨b2, 0, none⟩ = some (.string prb) := (HB2.out.kp KX3.out).cell 0
  have x4 : W3.cell? ⟨b2, 1, none⟩ = some (.string b) := (HB2.out.kp KX3.out).cell 1
  have x5 : W3.cell? ⟨b2, 2, none⟩ = some (.int .i64 pb) := (HB2.out.kp KX3.out).cell 2
  go_wp2_with fail
  refine wp_region_noPanic ?_
  refine wp_region_held_drew (S := fun w' => w'.cell? ⟨b1, 0, none⟩ = some (.string pra) ∧ w'.cell? ⟨b1, 1, none⟩ = some (.string a) ∧ w'.cell? ⟨b1, 2, none⟩ = some (.int .i64 pa) ∧ w'.cell? ⟨b2, 0, none⟩ = some (.string prb) ∧ w'.cell? ⟨b2, 1, none⟩ = some (.string b) ∧ w'.cell? ⟨b2, 2, none⟩ = some (.int .i64 pb)) (by kernel_rfl) ⟨x0, x1, x2, x3, x4, x5⟩ (fun hHeld => ?_)
  refine wpAnyH_take (i := 0) (v := ?_) (by simp only [List.getElem?_toArray, List.getElem?_cons_zero] <;> rfl) (by kernel_rfl) (by kernel_rfl) (by kernel_rfl) (fun _ _ _ h => h) (.inl ⟨by rfl, ?_⟩) (by assumption) ?_
  rotate_left 1
  · intro wz hSw; (try dsimp only at hSw); go_simp; (try with_reducible rfl)
  try simp only [Act.put, List.setIfInBounds_toArray, List.set_cons_zero, List.set_cons_succ]
  refine wpAnyH_take (i := 2) (v := ?_) (by simp only [List.getElem?_toArray, List.getElem?_cons_zero, List.getElem?_cons_succ] <;> rfl) (by kernel_rfl) (by kernel_rfl) (by kernel_rfl) (fun _ _ _ h => h) (.inl ⟨by rfl, ?_⟩) (by assumption) ?_
  rotate_left 1
  · intro wz hSw; (try dsimp only at hSw); go_simp; (try with_reducible rfl)
  try simp only [Act.put, List.setIfInBounds_toArray, List.set_cons_zero, List.set_cons_succ]
  refine wpAnyH_take (i := 5) (v := ?_) (by simp only [List.getElem?_toArray, List.getElem?_cons_zero, List.getElem?_cons_succ] <;> rfl) (by kernel_rfl) (by kernel_rfl) (by kernel_rfl) (fun _ _ _ h => h) (.inl ⟨by rfl, ?_⟩) (by assumption) ?_
  rotate_left 1
  · intro wz hSw; (try dsimp only at hSw); go_simp; (try with_reducible rfl)
  try simp only [Act.put, List.setIfInBounds_toArray, List.set_cons_zero, List.set_cons_succ]
  refine wpAnyH_take (i := 6) (v := ?_) (by simp only [List.getElem?_toArray, List.getElem?_cons_zero, List.getElem?_cons_succ] <;> rfl) (by kernel_rfl) (by kernel_rfl) (by kernel_rfl) (fun _ _ _ h => h) (.inl ⟨by rfl, ?_⟩) (by assumption) ?_
  rotate_left 1
  · intro wz hSw; (try dsimp only at hSw); go_simp; (try with_reducible rfl)
  try simp only [Act.put, List.setIfInBounds_toArray, List.set_cons_zero, List.set_cons_succ]
  refine wpAnyH_take (i := 7) (v := ?_) (by simp only [List.getElem?_toArray, List.getElem?_cons_zero, List.getElem?_cons_succ] <;> rfl) (by kernel_rfl) (by kernel_rfl) (by kernel_rfl) (fun _ _ _ h => h) (.inl ⟨by rfl, ?_⟩) (by assumption) ?_
  rotate_left 1
  · intro wz hSw; (try dsimp only at hSw); go_simp; (try with_reducible rfl)
  try simp only [Act.put, List.setIfInBounds_toArray, List.set_cons_zero, List.set_cons_succ]
  refine wpAnyH_take (i := 8) (v := ?_) (by simp only [List.getElem?_toArray, List.getElem?_cons_zero, List.getElem?_cons_succ] <;> rfl) (by kernel_rfl) (by kernel_rfl) (by kernel_rfl) (fun _ _ _ h => h) (.inl ⟨by rfl, ?_⟩) (by assumption) ?_
  rotate_left 1
  · intro wz hSw; (try dsimp only at hSw); go_simp; (try with_reducible rfl)
  try simp only [Act.put, List.setIfInBounds_toArray, List.set_cons_zero, List.set_cons_succ]
  refine wpAnyH_take (i := 9) (v := ?_) (by simp only [List.getElem?_toArray, List.getElem?_cons_zero, List.getElem?_cons_succ] <;> rfl) (by kernel_rfl) (by kernel_rfl) (by kernel_rfl) (fun _ _ _ h => h) (.inl ⟨by rfl, ?_⟩) (by assumption) ?_
  rotate_left 1
  · intro wz hSw; (try dsimp only at hSw); go_simp; (try with_reducible rfl)
  try simp only [Act.put, List.setIfInBounds_toArray, List.set_cons_zero, List.set_cons_succ]
  refine wpAnyH_ready (rs := [1]) (by kernel_rfl) (by simp) ?_
  refine AllReadyH.cons (by simp only [List.getElem?_toArray, List.getElem?_cons_zero, List.getElem?_cons_succ] <;> rfl) (fun K hK => ?_) AllReadyH.nil
  go_simp
  refine (HNA.out _ (by first | exact KW3.out | exact KW3.out.drew)).mono ?_
  rintro e w5 ⟨rfl, hk⟩
  have Kw5 := Lib.hid (KW3.out.trans (show Kp W3 w5 from (by first | exact hk | exact (Kp.refl W3).drew.trans hk)))
  have Qw5 := Lib.hid (show Kp W3 w5 from (by first | exact hk | exact (Kp.refl W3).drew.trans hk))
  have y0 := below_some Qw5.out x0
  have y1 := below_some Qw5.out x1
  have y2 := below_some Qw5.out x2
  have y3 := below_some Qw5.out x3
  have y4 := below_some Qw5.out x4
  have y5 := below_some Qw5.out x5
  clear hk
  go_wp2_with fail
  refine hK.out _ _ ⟨y0, y1, y2, y3, y4, y5⟩ (fun hHeld => ?_)
  clear hK K
  try simp only [Act.put, List.setIfInBounds_toArray, List.set_cons_zero, List.set_cons_succ]
  refine wpAnyH_ready (rs := [3]) (by kernel_rfl) (by simp) ?_
  refine AllReadyH.cons (by simp only [List.getElem?_toArray, List.getElem?_cons_zero, List.getElem?_cons_succ] <;> rfl) (fun K hK => ?_) AllReadyH.nil
  go_simp
  refine (HNB.out _ (by first | exact Kw5.out | exact Kw5.out.drew)).mono ?_
  rintro e w6 ⟨rfl, hk⟩
  have Kw6 := Lib.hid (Kw5.out.trans (show Kp w5 w6 from (by first | exact hk | exact (Kp.refl w5).drew.trans hk)))
  have Qw6 := Lib.hid (show Kp w5 w6 from (by first | exact hk | exact (Kp.refl w5).drew.trans hk))
  have z0 := below_some Qw6.out y0
  have z1 := below_some Qw6.out y1
  have z2 := below_some Qw6.out y2
  have z3 := below_some Qw6.out y3
  have z4 := below_some Qw6.out y4
  have z5 := below_some Qw6.out y5
  clear hk
  go_wp2_with fail
  refine hK.out _ _ ⟨z0, z1, z2, z3, z4, z5⟩ (fun hHeld => ?_)
  clear hK K
  try simp only [Act.put, List.setIfInBounds_toArray, List.set_cons_zero, List.set_cons_succ]
  refine wpAnyH_take (i := 4) (v := ?_) (by simp only [List.getElem?_toArray, List.getElem?_cons_zero, List.getElem?_cons_succ] <;> rfl) (by kernel_rfl) (by kernel_rfl) (by kernel_rfl) (fun _ _ _ h => h) (.inl ⟨by rfl, ?_⟩) (by assumption) ?_
  rotate_left 1
  · intro wz hSw; (try dsimp only at hSw); go_simp; (try with_reducible rfl)
  try simp only [Act.put, List.setIfInBounds_toArray, List.set_cons_zero, List.set_cons_succ]
  refine wpAnyH_take (i := 10) (v := ?_) (by simp only [List.getElem?_toArray, List.getElem?_cons_zero, List.getElem?_cons_succ] <;> rfl) (by kernel_rfl) (by kernel_rfl) (by kernel_rfl) (fun _ _ _ h => h) (.inl ⟨by rfl, ?_⟩) (by assumption) ?_
  rotate_left 1
  · intro wz hSw; (try dsimp only at hSw); go_simp; (try with_reducible rfl)
  try simp only [Act.put, List.setIfInBounds_toArray, List.set_cons_zero, List.set_cons_succ]
  refine wpAnyH_take (i := 11) (v := undef) (by simp only [List.getElem?_toArray, List.getElem?_cons_zero, List.getElem?_cons_succ] <;> rfl) (by kernel_rfl) (by kernel_rfl) (by kernel_rfl) (fun _ _ _ h => h) (.inr ⟨by rfl, rfl⟩) (by assumption) ?_
  try simp only [Act.put, List.setIfInBounds_toArray, List.set_cons_zero, List.set_cons_succ]
  refine wpAnyH_take (i := 12) (v := undef) (by simp only [List.getElem?_toArray, List.getElem?_cons_zero, List.getElem?_cons_succ] <;> rfl) (by kernel_rfl) (by kernel_rfl) (by kernel_rfl) (fun _ _ _ h => h) (.inr ⟨by rfl, rfl⟩) (by assumption) ?_
  try simp only [Act.put, List.setIfInBounds_toArray, List.set_cons_zero, List.set_cons_succ]
  refine wpAnyH_take (i := 13) (v := undef) (by simp only [List.getElem?_toArray, List.getElem?_cons_zero, List.getElem?_cons_succ] <;> rfl) (by kernel_rfl) (by kernel_rfl) (by kernel_rfl) (fun _ _ _ h => h) (.inr ⟨by rfl, rfl⟩) (by assumption) ?_
  try simp only [Act.put, List.setIfInBounds_toArray, List.set_cons_zero, List.set_cons_succ]
  refine wpAnyH_take (i := 14) (v := undef) (by simp only [List.getElem?_toArray, List.getElem?_cons_zero, List.getElem?_cons_succ] <;> rfl) (by kernel_rfl) (by kernel_rfl) (by kernel_rfl) (fun _ _ _ h => h) (.inr ⟨by rfl, rfl⟩) (by assumption) ?_
  try simp only [Act.put, List.setIfInBounds_toArray, List.set_cons_zero, List.set_cons_succ]
  refine wpAnyH_take (i := 15) (v := undef) (by simp only [List.getElem?_toArray, List.getElem?_cons_zero, List.getElem?_cons_succ] <;> rfl) (by kernel_rfl) (by kernel_rfl) (by kernel_rfl) (fun _ _ _ h => h) (.inr ⟨by rfl, rfl⟩) (by assumption) ?_
  try simp only [Act.put, List.setIfInBounds_toArray, List.set_cons_zero, List.set_cons_succ]
  refine wpAnyH_take (i := 16) (v := ?_) (by simp only [List.getElem?_toArray, List.getElem?_cons_zero, List.getElem?_cons_succ] <;> rfl) (by kernel_rfl) (by kernel_rfl) (by kernel_rfl) (fun _ _ _ h => h) (.inl ⟨by rfl, ?_⟩) (by assumption) ?_
  rotate_left 1
  · intro wz hSw; (try dsimp only at hSw); go_simp; (try with_reducible rfl)
  try simp only [Act.put, List.setIfInBounds_toArray, List.set_cons_zero, List.set_cons_succ]
  refine wpAnyH_take (i := 17) (v := ?_) (by simp only [List.getElem?_toArray, List.getElem?_cons_zero, List.getElem?_cons_succ] <;> rfl) (by kernel_rfl) (by kernel_rfl) (by kernel_rfl) (fun _ _ _ h => h) (.inl ⟨by rfl, ?_⟩) (by assumption) ?_
  rotate_left 1
  · intro wz hSw; (try dsimp only at hSw); go_simp; (try with_reducible rfl)
  try simp only [Act.put, List.setIfInBounds_toArray, List.set_cons_zero, List.set_cons_succ]
  refine wpAnyH_take (i := 18) (v := ?_) (by simp only [List.getElem?_toArray, List.getElem?_cons_zero, List.getElem?_cons_succ] <;> rfl) (by kernel_rfl) (by kernel_rfl) (by kernel_rfl) (fun _ _ _ h => h) (.inl ⟨by rfl, ?_⟩) (by assumption) ?_
  rotate_left 1
  · intro wz hSw; (try dsimp only at hSw); go_simp; (try with_reducible rfl)
  try simp only [Act.put, List.setIfInBounds_toArray, List.set_cons_zero, List.set_cons_succ]
  refine wpAnyH_ready (rs := [19]) (by kernel_rfl) (by simp) ?_
  refine AllReadyH.cons (by simp only [List.getElem?_toArray, List.getElem?_cons_zero, List.getElem?_cons_succ] <;> rfl) (fun K hK => ?_) AllReadyH.nil
  go_simp
  refine (configAwake_any _).mono ?_
  rintro e w7 ⟨rfl, hk⟩
  have Kw7 := Lib.hid (Kw6.out.trans (show Kp w6 w7 from (by first | exact hk | exact (Kp.refl w6).drew.trans hk)))
  have Qw7 := Lib.hid (show Kp w6 w7 from (by first | exact hk | exact (Kp.refl w6).drew.trans hk))
  have v0 := below_some Qw7.out z0
  have v1 := below_some Qw7.out z1
  have v2 := below_some Qw7.out z2
  have v3 := below_some Qw7.out z3
  have v4 := below_some Qw7.out z4
  have v5 := below_some Qw7.out z5
  clear hk
  go_wp2_with fail
  refine hK.out _ _ ⟨v0, v1, v2, v3, v4, v5⟩ (fun hHeld => ?_)
  clear hK K
  try simp only [Act.put, List.setIfInBounds_toArray, List.set_cons_zero, List.set_cons_succ]
  refine wpAnyH_take (i := 20) (v := ?_) (by simp only [List.getElem?_toArray, List.getElem?_cons_zero, List.getElem?_cons_succ] <;> rfl) (by kernel_rfl) (by kernel_rfl) (by kernel_rfl) (fun _ _ _ h => h) (.inl ⟨by rfl, ?_⟩) (by assumption) ?_
  rotate_left 1
  · intro wz hSw; (try dsimp only at hSw); go_simp; (try with_reducible rfl)
  try simp only [Act.put, List.setIfInBounds_toArray, List.set_cons_zero, List.set_cons_succ]
  refine wpAnyH_take (i := 21) (v := ?_) (by simp only [List.getElem?_toArray, List.getElem?_cons_zero, List.getElem?_cons_succ] <;> rfl) (by kernel_rfl) (by kernel_rfl) (by kernel_rfl) (fun _ _ _ h => h) (.inl ⟨by rfl, ?_⟩) (by assumption) ?_
  rotate_left 1
  · intro wz hSw; (try dsimp only at hSw); go_simp; (try with_reducible rfl)
  try simp only [Act.put, List.setIfInBounds_toArray, List.set_cons_zero, List.set_cons_succ]
  refine wpAnyH_done (by kernel_rfl) ?_ _
  refine NoPanic.normal ?_
  go_wp2_with fail
  go_ret
  exact ⟨rfl, Kw7.out⟩
set_option maxRecDepth 100000 in
set_option maxHeartbeats 8000000 in
theorem fnNet_port (pra a prb : ByteArray) (pa pb : Int) (w : World) (z1 : pra.size ≤ 2147483647) (z2 : prb.size ≤ 2147483647) (ha : a.size ≤ 300) (p0 : -9223372036854775808 ≤ pa) (p1 : pa ≤ 9223372036854775807) (p2 : -9223372036854775808 ≤ pb) (p3 : pb ≤ 9223372036854775807) (ht : Tab w) (hne : pa ≠ pb) :
    Calls Tryd.prog 5 #[.agg #[.string pra, .string a, .int .i64 pa], .agg #[.string prb, .string a, .int .i64 pb]] w fun e w' => e = .returned (.bool true) ∧ Below w.heap.size w w' := by
  have Z1 := Lib.hid (fun w1 => zzFits1_any pra a pa (by unfold maxLen; omega) (by unfold maxLen; omega) w1)
  rw [decide_eq_true z1, decide_eq_true (show a.size ≤ 2147483647 by omega)] at Z1
  have Z2 := Lib.hid (fun w1 => zzFits1_any prb a pb (by unfold maxLen; omega) (by unfold maxLen; omega) w1)
  rw [decide_eq_true z2, decide_eq_true (show a.size ≤ 2147483647 by omega)] at Z2
  have HS := Lib.hid (show shortL (fun r => if r = 0 then a else a) 2 = true from by simp [shortL]; omega)
  have HM := Lib.hid (show ∀ r, r < 2 → ((fun r => if r = 0 then a else a) r).size ≤ maxLen from fun r _ => by show (if r = 0 then a else a).size ≤ maxLen; split <;> (unfold maxLen; omega))
  obtain ⟨NA, hNA⟩ : ∃ NA, netS a pa = NA := ⟨_, rfl⟩
  obtain ⟨NB, hNB⟩ : ∃ NB, netS a pb = NB := ⟨_, rfl⟩
  have HNA := Lib.hid (fun w1 (hk : Kp w w1) => network_any pra a pa w1 (by omega) p0 p1 (fun w2 hk2 => itoa_any pa p0 p1 w2 (ht.kp (hk.trans hk2))))
  have HNB := Lib.hid (fun w1 (hk : Kp w w1) => network_any prb a pb w1 (by omega) p2 p3 (fun w2 hk2 => itoa_any pb p2 p3 w2 (ht.kp (hk.trans hk2))))
  rw [hNA] at HNA
  rw [hNB] at HNB
  have hN : (NA.toList == NB.toList) = false := by rw [Lib.bytes_beq_false_iff, ← hNA, ← hNB]; exact fun e => hne ((netS_inj _ _ _ _).1 e).2
  have hP : (pa == pb) = false := by rw [beq_eq_false_iff_ne]; exact hne
  clear hNA hNB hne
  clear z1 z2 ha p0 p1 p2 p3 ht
  go_enter Tryd.func5, Tryd.ntmps5
  go_wp2_with fail
  generalize hX : (w.alloc (.cells #[.string pra, .string a, .int .i64 pa] 27)).alloc (.cells #[.string prb, .string a, .int .i64 pb] 27) = X
  obtain ⟨b1, hb1⟩ : ∃ b1, b1 = w.heap.size := ⟨_, rfl⟩
  obtain ⟨b2, hb2⟩ : ∃ b2, b2 = w.heap.size + 1 := ⟨_, rfl⟩
  have HB1 := Lib.hid (show Blk X b1 27 #[.string pra, .string a, .int .i64 pa] from by rw [hb1, ← hX]; exact (Blk.new w _ _).alloc _)
  have HB2 := Lib.hid (show Blk X b2 27 #[.string prb, .string a, .int .i64 pb] from by rw [hb2, ← hX]; exact Blk.new2 w _ _ _)
  have HKX := Lib.hid (show Kp w X from hX ▸ ((Kp.refl w).alloc _).alloc _)
  rw [← hb2, ← hb1]
  clear hX hb1 hb2
  refine (Z1.out _).mono ?_
  rintro e w1 ⟨rfl, hk⟩
  have K1 := Lib.hid (show Kp X w1 from hk)
  have u0 : w1.cell? ⟨b2, 0, none⟩ = some (.string prb) := (HB2.out.kp K1.out).cell 0
  have u1 : w1.cell? ⟨b2, 1, none⟩ = some (.string a) := (HB2.out.kp K1.out).cell 1
  have u2 : w1.cell? ⟨b2, 2, none⟩ = some (.int .i64 pb) := (HB2.out.kp K1.out).cell 2
  clear hk
  go_wp2_with fail
  refine (Z2.out _).mono ?_
  rintro e w2 ⟨rfl, hk⟩
  have K2 := Lib.hid (K1.out.trans (show Kp w1 w2 from hk))
  clear hk u0 u1 u2
  have u1 : w2.cell? ⟨b1, 1, none⟩ = some (.string a) := (HB1.out.kp K2.out).cell 1
  have u2 : w2.cell? ⟨b2, 1, none⟩ = some (.string a) := (HB2.out.kp K2.out).cell 1
  go_wp2_with fail
  generalize hW : w2.alloc (.cells #[.string a, .string a] 9) = W3
  have hB3 : Blk W3 w2.heap.size 9 #[.string a, .string a] := hW ▸ Blk.new w2 _ _
  have hk3 : Kp w2 W3 := hW ▸ (Kp.refl w2).alloc _
  have CS := Lib.hid (configShort_any w2.heap.size 2 2 (fun r => if r = 0 then a else a) W3 (fun r hr => by
    rcases (show r = 0 ∨ r = 1 by omega) with rfl | rfl
    · exact hB3.cell 0
    · exact hB3.cell 1) HM.out (by omega))
  rw [HS.out] at CS
  have KX3 := Lib.hid (K2.out.trans hk3)
  have KW3 := Lib.hid (HKX.out.trans KX3.out)
  clear hW hB3 hk3 u1 u2
  refine CS.out.mono ?_
  rintro e wx ⟨rfl, rfl⟩
  clear CS
  have x0 : W3.cell? ⟨b1, 0, none⟩ = some (.string pra) := (HB1.out.kp KX3.out).cell 0
  have x1 : W3.cell? ⟨b1, 1, none⟩ = some (.string a) := (HB1.out.kp KX3.out).cell 1
  have x2 : W3.cell? ⟨b1, 2, none⟩ = some (.int .i64 pa) := (HB1.out.kp KX3.out).cell 2
  have x3 : W3.cell? ⟨b2, 0, none⟩ = some (.string prb) := (HB2.out.kp KX3.out).cell 0
  have x4 : W3.cell? ⟨b2, 1, none⟩ = some (.string a) := (HB2.out.kp KX3.out).cell 1
  have x5 : W3.cell? ⟨b2, 2, none⟩ = some (.int .i64 pb) := (HB2.out.kp KX3.out).cell 2
  go_wp2_with fail
  refine wp_region_noPanic ?_
  refine wp_region_held_drew (S := fun w' => w'.cell? ⟨b1, 0, none⟩ = some (.string pra) ∧ w'.cell? ⟨b1, 1, none⟩ = some (.string a) ∧ w'.cell? ⟨b1, 2, none⟩ = some (.int .i64 pa) ∧ w'.cell? ⟨b2, 0, none⟩ = some (.string prb) ∧ w'.cell? ⟨b2, 1, none⟩ = some (.string a) ∧ w'.cell? ⟨b2, 2, none⟩ = some (.int .i64 pb)) (by kernel_rfl) ⟨x0, x1, x2, x3, x4, x5⟩ (fun hHeld => ?_)
  refine wpAnyH_take (i := 0) (v := ?_) (by simp only [List.getElem?_toArray, List.getElem?_cons_zero] <;> rfl) (by kernel_rfl) (by kernel_rfl) (by kernel_rfl) (fun _ _ _ h => h) (.inl ⟨by rfl, ?_⟩) (by assumption) ?_
  rotate_left 1
  · intro wz hSw; (try dsimp only at hSw); go_simp; (try with_reducible rfl)
  try simp only [Act.put, List.setIfInBounds_toArray, List.set_cons_zero, List.set_cons_succ]
  refine wpAnyH_take (i := 2) (v := ?_) (by simp only [List.getElem?_toArray, List.getElem?_cons_zero, List.getElem?_cons_succ] <;> rfl) (by kernel_rfl) (by kernel_rfl) (by kernel_rfl) (fun _ _ _ h => h) (.inl ⟨by rfl, ?_⟩) (by assumption) ?_
  rotate_left 1
  · intro wz hSw; (try dsimp only at hSw); go_simp; (try with_reducible rfl)
  try simp only [Act.put, List.setIfInBounds_toArray, List.set_cons_zero, List.set_cons_succ]
  refine wpAnyH_take (i := 5) (v := ?_) (by simp only [List.getElem?_toArray, List.getElem?_cons_zero, List.getElem?_cons_succ] <;> rfl) (by kernel_rfl) (by kernel_rfl) (by kernel_rfl) (fun _ _ _ h => h) (.inl ⟨by rfl, ?_⟩) (by assumption) ?_
  rotate_left 1
  · intro wz hSw; (try dsimp only at hSw); go_simp; (try with_reducible rfl)
  try simp only [Act.put, List.setIfInBounds_toArray, List.set_cons_zero, List.set_cons_succ]
  refine wpAnyH_take (i := 6) (v := ?_) (by simp only [List.getElem?_toArray, List.getElem?_cons_zero, List.getElem?_cons_succ] <;> rfl) (by kernel_rfl) (by kernel_rfl) (by kernel_rfl) (fun _ _ _ h => h) (.inl ⟨by rfl, ?_⟩) (by assumption) ?_
  rotate_left 1
  · intro wz hSw; (try dsimp only at hSw); go_simp; (try with_reducible rfl)
  try simp only [Act.put, List.setIfInBounds_toArray, List.set_cons_zero, List.set_cons_succ]
  refine wpAnyH_take (i := 7) (v := ?_) (by simp only [List.getElem?_toArray, List.getElem?_cons_zero, List.getElem?_cons_succ] <;> rfl) (by kernel_rfl) (by kernel_rfl) (by kernel_rfl) (fun _ _ _ h => h) (.inl ⟨by rfl, ?_⟩) (by assumption) ?_
  rotate_left 1
  · intro wz hSw; (try dsimp only at hSw); go_simp; (try with_reducible rfl)
  try simp only [Act.put, List.setIfInBounds_toArray, List.set_cons_zero, List.set_cons_succ]
  refine wpAnyH_take (i := 8) (v := ?_) (by simp only [List.getElem?_toArray, List.getElem?_cons_zero, List.getElem?_cons_succ] <;> rfl) (by kernel_rfl) (by kernel_rfl) (by kernel_rfl) (fun _ _ _ h => h) (.inl ⟨by rfl, ?_⟩) (by assumption) ?_
  rotate_left 1
  · intro wz hSw; (try dsimp only at hSw); go_simp; (try with_reducible rfl)
  try simp only [Act.put, List.setIfInBounds_toArray, List.set_cons_zero, List.set_cons_succ]
  refine wpAnyH_take (i := 9) (v := ?_) (by simp only [List.getElem?_toArray, List.getElem?_cons_zero, List.getElem?_cons_succ] <;> rfl) (by kernel_rfl) (by kernel_rfl) (by kernel_rfl) (fun _ _ _ h => h) (.inl ⟨by rfl, ?_⟩) (by assumption) ?_
  rotate_left 1
  · intro wz hSw; (try dsimp only at hSw); go_simp; (try with_reducible rfl)
  try simp only [Act.put, List.setIfInBounds_toArray, List.set_cons_zero, List.set_cons_succ]
  refine wpAnyH_ready (rs := [1]) (by kernel_rfl) (by simp) ?_
  refine AllReadyH.cons (by simp only [List.getElem?_toArray, List.getElem?_cons_zero, List.getElem?_cons_succ] <;> rfl) (fun K hK => ?_) AllReadyH.nil
  go_simp
  refine (HNA.out _ (by first | exact KW3.out | exact KW3.out.drew)).mono ?_
  rintro e w5 ⟨rfl, hk⟩
  have Kw5 := Lib.hid (KW3.out.trans (show Kp W3 w5 from (by first | exact hk | exact (Kp.refl W3).drew.trans hk)))
  have Qw5 := Lib.hid (show Kp W3 w5 from (by first | exact hk | exact (Kp.refl W3).drew.trans hk))
  have y0 := below_some Qw5.out x0
  have y1 := below_some Qw5.out x1
  have y2 := below_some Qw5.out x2
  have y3 := below_some Qw5.out x3
  have y4 := below_some Qw5.out x4
  have y5 := below_some Qw5.out x5
  clear hk
  go_wp2_with fail
  refine hK.out _ _ ⟨y0, y1, y2, y3, y4, y5⟩ (fun hHeld => ?_)
  clear hK K
  try simp only [Act.put, List.setIfInBounds_toArray, List.set_cons_zero, List.set_cons_succ]
  refine wpAnyH_ready (rs := [3]) (by kernel_rfl) (by simp) ?_
  refine AllReadyH.cons (by simp only [List.getElem?_toArray, List.getElem?_cons_zero, List.getElem?_cons_succ] <;> rfl) (fun K hK => ?_) AllReadyH.nil
  go_simp
  refine (HNB.out _ (by first | exact Kw5.out | exact Kw5.out.drew)).mono ?_
  rintro e w6 ⟨rfl, hk⟩
  have Kw6 := Lib.hid (Kw5.out.trans (show Kp w5 w6 from (by first | exact hk | exact (Kp.refl w5).drew.trans hk)))
  have Qw6 := Lib.hid (show Kp w5 w6 from (by first | exact hk | exact (Kp.refl w5).drew.trans hk))
  have z0 := below_some Qw6.out y0
  have z1 := below_some Qw6.out y1
  have z2 := below_some Qw6.out y2
  have z3 := below_some Qw6.out y3
  have z4 := below_some Qw6.out y4
  have z5 := below_some Qw6.out y5
  clear hk
  go_wp2_with fail
  refine hK.out _ _ ⟨z0, z1, z2, z3, z4, z5⟩ (fun hHeld => ?_)
  clear hK K
  try simp only [Act.put, List.setIfInBounds_toArray, List.set_cons_zero, List.set_cons_succ]
  refine wpAnyH_take (i := 4) (v := ?_) (by simp only [List.getElem?_toArray, List.getElem?_cons_zero, List.getElem?_cons_succ] <;> rfl) (by kernel_rfl) (by kernel_rfl) (by kernel_rfl) (fun _ _ _ h => h) (.inl ⟨by rfl, ?_⟩) (by assumption) ?_
  rotate_left 1
  · intro wz hSw; (try dsimp only at hSw); go_simp; (try with_reducible rfl)
  try simp only [Act.put, List.setIfInBounds_toArray, List.set_cons_zero, List.set_cons_succ]
  refine wpAnyH_take (i := 10) (v := ?_) (by simp only [List.getElem?_toArray, List.getElem?_cons_zero, List.getElem?_cons_succ] <;> rfl) (by kernel_rfl) (by kernel_rfl) (by kernel_rfl) (fun _ _ _ h => h) (.inl ⟨by rfl, ?_⟩) (by assumption) ?_
  rotate_left 1
  · intro wz hSw; (try dsimp only at hSw); go_simp; (try with_reducible rfl)
  try simp only [Act.put, List.setIfInBounds_toArray, List.set_cons_zero, List.set_cons_succ]
  refine wpAnyH_take (i := 11) (v := ?_) (by simp only [List.getElem?_toArray, List.getElem?_cons_zero, List.getElem?_cons_succ] <;> rfl) (by kernel_rfl) (by kernel_rfl) (by kernel_rfl) (fun _ _ _ h => h) (.inl ⟨by rfl, ?_⟩) (by assumption) ?_
  rotate_left 1
  · intro wz hSw; (try dsimp only at hSw); go_simp; (try with_reducible rfl)
  try simp only [Act.put, List.setIfInBounds_toArray, List.set_cons_zero, List.set_cons_succ]
  refine wpAnyH_take (i := 12) (v := ?_) (by simp only [List.getElem?_toArray, List.getElem?_cons_zero, List.getElem?_cons_succ] <;> rfl) (by kernel_rfl) (by kernel_rfl) (by kernel_rfl) (fun _ _ _ h => h) (.inl ⟨by rfl, ?_⟩) (by assumption) ?_
  rotate_left 1
  · intro wz hSw; (try dsimp only at hSw); go_simp; (try with_reducible rfl)
  try simp only [Act.put, List.setIfInBounds_toArray, List.set_cons_zero, List.set_cons_succ]
  refine wpAnyH_take (i := 13) (v := ?_) (by simp only [List.getElem?_toArray, List.getElem?_cons_zero, List.getElem?_cons_succ] <;> rfl) (by kernel_rfl) (by kernel_rfl) (by kernel_rfl) (fun _ _ _ h => h) (.inl ⟨by rfl, ?_⟩) (by assumption) ?_
  rotate_left 1
  · intro wz hSw; (try dsimp only at hSw); go_simp; (try with_reducible rfl)
  try simp only [Act.put, List.setIfInBounds_toArray, List.set_cons_zero, List.set_cons_succ]
  refine wpAnyH_take (i := 14) (v := ?_) (by simp only [List.getElem?_toArray, List.getElem?_cons_zero, List.getElem?_cons_succ] <;> rfl) (by kernel_rfl) (by kernel_rfl) (by kernel_rfl) (fun _ _ _ h => h) (.inl ⟨by rfl, ?_⟩) (by assumption) ?_
  rotate_left 1
  · intro wz hSw; (try dsimp only at hSw); go_simp; (try with_reducible rfl)
  try simp only [Act.put, List.setIfInBounds_toArray, List.set_cons_zero, List.set_cons_succ]
  refine wpAnyH_take (i := 15) (v := ?_) (by simp only [List.getElem?_toArray, List.getElem?_cons_zero, List.getElem?_cons_succ] <;> rfl) (by kernel_rfl) (by kernel_rfl) (by kernel_rfl) (fun _ _ _ h => h) (.inl ⟨by rfl, ?_⟩) (by assumption) ?_
  rotate_left 1
  · intro wz hSw; (try dsimp only at hSw); go_simp; (try with_reducible rfl)
  try simp only [Act.put, List.setIfInBounds_toArray, List.set_cons_zero, List.set_cons_succ]
  refine wpAnyH_take (i := 16) (v := ?_) (by simp only [List.getElem?_toArray, List.getElem?_cons_zero, List.getElem?_cons_succ] <;> rfl) (by kernel_rfl) (by kernel_rfl) (by kernel_rfl) (fun _ _ _ h => h) (.inl ⟨by rfl, ?_⟩) (by assumption) ?_
  rotate_left 1
  · intro wz hSw; (try dsimp only at hSw); go_simp; (try with_reducible rfl)
  try simp only [Act.put, List.setIfInBounds_toArray, List.set_cons_zero, List.set_cons_succ]
  refine wpAnyH_take (i := 17) (v := ?_) (by simp only [List.getElem?_toArray, List.getElem?_cons_zero, List.getElem?_cons_succ] <;> rfl) (by kernel_rfl) (by kernel_rfl) (by kernel_rfl) (fun _ _ _ h => h) (.inl ⟨by rfl, ?_⟩) (by assumption) ?_
  rotate_left 1
  · intro wz hSw; (try dsimp only at hSw); go_simp; (try with_reducible rfl)
  try simp only [Act.put, List.setIfInBounds_toArray, List.set_cons_zero, List.set_cons_succ]
  refine wpAnyH_take (i := 18) (v := ?_) (by simp only [List.getElem?_toArray, List.getElem?_cons_zero, List.getElem?_cons_succ] <;> rfl) (by kernel_rfl) (by kernel_rfl) (by kernel_rfl) (fun _ _ _ h => h) (.inl ⟨by rfl, ?_⟩) (by assumption) ?_
  rotate_left 1
  · intro wz hSw; (try dsimp only at hSw); go_simp; (try with_reducible rfl)
  try simp only [Act.put, List.setIfInBounds_toArray, List.set_cons_zero, List.set_cons_succ]
  refine wpAnyH_ready (rs := [19]) (by kernel_rfl) (by simp) ?_
  refine AllReadyH.cons (by simp only [List.getElem?_toArray, List.getElem?_cons_zero, List.getElem?_cons_succ] <;> rfl) (fun K hK => ?_) AllReadyH.nil
  go_simp
  refine (configAwake_any _).mono ?_
  rintro e w7 ⟨rfl, hk⟩
  have Kw7 := Lib.hid (Kw6.out.trans (show Kp w6 w7 from (by first | exact hk | exact (Kp.refl w6).drew.trans hk)))
  have Qw7 := Lib.hid (show Kp w6 w7 from (by first | exact hk | exact (Kp.refl w6).drew.trans hk))
  have v0 := below_some Qw7.out z0
  have v1 := below_some Qw7.out z1
  have v2 := below_some Qw7.out z2
  have v3 := below_some Qw7.out z3
  have v4 := below_some Qw7.out z4
  have v5 := below_some Qw7.out z5
  clear hk
  go_wp2_with fail
  refine hK.out _ _ ⟨v0, v1, v2, v3, v4, v5⟩ (fun hHeld => ?_)
  clear hK K
  try simp only [Act.put, List.setIfInBounds_toArray, List.set_cons_zero, List.set_cons_succ]
  refine wpAnyH_take (i := 20) (v := ?_) (by simp only [List.getElem?_toArray, List.getElem?_cons_zero, List.getElem?_cons_succ] <;> rfl) (by kernel_rfl) (by kernel_rfl) (by kernel_rfl) (fun _ _ _ h => h) (.inl ⟨by rfl, ?_⟩) (by assumption) ?_
  rotate_left 1
  · intro wz hSw; (try dsimp only at hSw); go_simp; (try with_reducible rfl)
  try simp only [Act.put, List.setIfInBounds_toArray, List.set_cons_zero, List.set_cons_succ]
  refine wpAnyH_take (i := 21) (v := ?_) (by simp only [List.getElem?_toArray, List.getElem?_cons_zero, List.getElem?_cons_succ] <;> rfl) (by kernel_rfl) (by kernel_rfl) (by kernel_rfl) (fun _ _ _ h => h) (.inl ⟨by rfl, ?_⟩) (by assumption) ?_
  rotate_left 1
  · intro wz hSw; (try dsimp only at hSw); go_simp; (try with_reducible rfl)
  try simp only [Act.put, List.setIfInBounds_toArray, List.set_cons_zero, List.set_cons_succ]
  refine wpAnyH_done (by kernel_rfl) ?_ _
  refine NoPanic.normal ?_
  go_wp2_with fail
  go_ret
  exact ⟨rfl, Kw7.out⟩
set_option maxRecDepth 100000 in
set_option maxHeartbeats 8000000 in
theorem fnNet_same (pra a prb : ByteArray) (pa : Int) (w : World) (z1 : pra.size ≤ 2147483647) (z2 : prb.size ≤ 2147483647) (ha : a.size ≤ 300) (p0 : -9223372036854775808 ≤ pa) (p1 : pa ≤ 9223372036854775807) (ht : Tab w) :
    Calls Tryd.prog 5 #[.agg #[.string pra, .string a, .int .i64 pa], .agg #[.string prb, .string a, .int .i64 pa]] w fun e w' => e = .returned (.bool true) ∧ Below w.heap.size w w' := by
  have Z1 := Lib.hid (fun w1 => zzFits1_any pra a pa (by unfold maxLen; omega) (by unfold maxLen; omega) w1)
  rw [decide_eq_true z1, decide_eq_true (show a.size ≤ 2147483647 by omega)] at Z1
  have Z2 := Lib.hid (fun w1 => zzFits1_any prb a pa (by unfold maxLen; omega) (by unfold maxLen; omega) w1)
  rw [decide_eq_true z2, decide_eq_true (show a.size ≤ 2147483647 by omega)] at Z2
  have HS := Lib.hid (show shortL (fun r => if r = 0 then a else a) 2 = true from by simp [shortL]; omega)
  have HM := Lib.hid (show ∀ r, r < 2 → ((fun r => if r = 0 then a else a) r).size ≤ maxLen from fun r _ => by show (if r = 0 then a else a).size ≤ maxLen; split <;> (unfold maxLen; omega))
  obtain ⟨NA, hNA⟩ : ∃ NA, netS a pa = NA := ⟨_, rfl⟩
  obtain ⟨NB, hNB⟩ : ∃ NB, netS a pa = NB := ⟨_, rfl⟩
  have HNA := Lib.hid (fun w1 (hk : Kp w w1) => network_any pra a pa w1 (by omega) p0 p1 (fun w2 hk2 => itoa_any pa p0 p1 w2 (ht.kp (hk.trans hk2))))
  have HNB := Lib.hid (fun w1 (hk : Kp w w1) => network_any prb a pa w1 (by omega) p0 p1 (fun w2 hk2 => itoa_any pa p0 p1 w2 (ht.kp (hk.trans hk2))))
  rw [hNA] at HNA
  rw [hNB] at HNB
  obtain rfl : NA = NB := hNA.symm.trans hNB
  clear hNA hNB
  clear z1 z2 ha p0 p1 ht
  go_enter Tryd.func5, Tryd.ntmps5
  go_wp2_with fail
  generalize hX : (w.alloc (.cells #[.string pra, .string a, .int .i64 pa] 27)).alloc (.cells #[.string prb, .string a, .int .i64 pa] 27) = X
  obtain ⟨b1, hb1⟩ : ∃ b1, b1 = w.heap.size := ⟨_, rfl⟩
  obtain ⟨b2, hb2⟩ : ∃ b2, b2 = w.heap.size + 1 := ⟨_, rfl⟩
  have HB1 := Lib.hid (show Blk X b1 27 #[.string pra, .string a, .int .i64 pa] from by rw [hb1, ← hX]; exact (Blk.new w _ _).alloc _)
  have HB2 := Lib.hid (show Blk X b2 27 #[.string prb, .string a, .int .i64 pa] from by rw [hb2, ← hX]; exact Blk.new2 w _ _ _)
  have HKX := Lib.hid (show Kp w X from hX ▸ ((Kp.refl w).alloc _).alloc _)
  rw [← hb2, ← hb1]
  clear hX hb1 hb2
  refine (Z1.out _).mono ?_
  rintro e w1 ⟨rfl, hk⟩
  have K1 := Lib.hid (show Kp X w1 from hk)
  have u0 : w1.cell? ⟨b2, 0, none⟩ = some (.string prb) := (HB2.out.kp K1.out).cell 0
  have u1 : w1.cell? ⟨b2, 1, none⟩ = some (.string a) := (HB2.out.kp K1.out).cell 1
  have u2 : w1.cell? ⟨b2, 2, none⟩ = some (.int .i64 pa) := (HB2.out.kp K1.out).cell 2
  clear hk
  go_wp2_with fail
  refine (Z2.out _).mono ?_
  rintro e w2 ⟨rfl, hk⟩
  have K2 := Lib.hid (K1.out.trans (show Kp w1 w2 from hk))
  clear hk u0 u1 u2
  have u1 : w2.cell? ⟨b1, 1, none⟩ = some (.string a) := (HB1.out.kp K2.out).cell 1
  have u2 : w2.cell? ⟨b2, 1, none⟩ = some (.string a) := (HB2.out.kp K2.out).cell 1
  go_wp2_with fail
  generalize hW : w2.alloc (.cells #[.string a, .string a] 9) = W3
  have hB3 : Blk W3 w2.heap.size 9 #[.string a, .string a] := hW ▸ Blk.new w2 _ _
  have hk3 : Kp w2 W3 := hW ▸ (Kp.refl w2).alloc _
  have CS := Lib.hid (configShort_any w2.heap.size 2 2 (fun r => if r = 0 then a else a) W3 (fun r hr => by
    rcases (show r = 0 ∨ r = 1 by omega) with rfl | rfl
    · exact hB3.cell 0
    · exact hB3.cell 1) HM.out (by omega))
  rw [HS.out] at CS
  have KX3 := Lib.hid (K2.out.trans hk3)
  have KW3 := Lib.hid (HKX.out.trans KX3.out)
  clear hW hB3 hk3 u1 u2
  refine CS.out.mono ?_
  rintro e wx ⟨rfl, rfl⟩
  clear CS
  have x0 : W3.cell? ⟨b1, 0, none⟩ = some (.string pra) := (HB1.out.kp KX3.out).cell 0
  have x1 : W3.cell? ⟨b1, 1, none⟩ = some (.string a) := (HB1.out.kp KX3.out).cell 1
  have x2 : W3.cell? ⟨b1, 2, none⟩ = some (.int .i64 pa) := (HB1.out.kp KX3.out).cell 2
  have x3 : W3.cell? ⟨b2, 0, none⟩ = some (.string prb) := (HB2.out.kp KX3.out).cell 0
  have x4 : W3.cell? ⟨b2, 1, none⟩ = some (.string a) := (HB2.out.kp KX3.out).cell 1
  have x5 : W3.cell? ⟨b2, 2, none⟩ = some (.int .i64 pa) := (HB2.out.kp KX3.out).cell 2
  go_wp2_with fail
  refine wp_region_noPanic ?_
  refine wp_region_held_drew (S := fun w' => w'.cell? ⟨b1, 0, none⟩ = some (.string pra) ∧ w'.cell? ⟨b1, 1, none⟩ = some (.string a) ∧ w'.cell? ⟨b1, 2, none⟩ = some (.int .i64 pa) ∧ w'.cell? ⟨b2, 0, none⟩ = some (.string prb) ∧ w'.cell? ⟨b2, 1, none⟩ = some (.string a) ∧ w'.cell? ⟨b2, 2, none⟩ = some (.int .i64 pa)) (by kernel_rfl) ⟨x0, x1, x2, x3, x4, x5⟩ (fun hHeld => ?_)
  refine wpAnyH_take (i := 0) (v := ?_) (by simp only [List.getElem?_toArray, List.getElem?_cons_zero] <;> rfl) (by kernel_rfl) (by kernel_rfl) (by kernel_rfl) (fun _ _ _ h => h) (.inl ⟨by rfl, ?_⟩) (by assumption) ?_
  rotate_left 1
  · intro wz hSw; (try dsimp only at hSw); go_simp; (try with_reducible rfl)
  try simp only [Act.put, List.setIfInBounds_toArray, List.set_cons_zero, List.set_cons_succ]
  refine wpAnyH_take (i := 2) (v := ?_) (by simp only [List.getElem?_toArray, List.getElem?_cons_zero, List.getElem?_cons_succ] <;> rfl) (by kernel_rfl) (by kernel_rfl) (by kernel_rfl) (fun _ _ _ h => h) (.inl ⟨by rfl, ?_⟩) (by assumption) ?_
  rotate_left 1
  · intro wz hSw; (try dsimp only at hSw); go_simp; (try with_reducible rfl)
  try simp only [Act.put, List.setIfInBounds_toArray, List.set_cons_zero, List.set_cons_succ]
  refine wpAnyH_take (i := 5) (v := ?_) (by simp only [List.getElem?_toArray, List.getElem?_cons_zero, List.getElem?_cons_succ] <;> rfl) (by kernel_rfl) (by kernel_rfl) (by kernel_rfl) (fun _ _ _ h => h) (.inl ⟨by rfl, ?_⟩) (by assumption) ?_
  rotate_left 1
  · intro wz hSw; (try dsimp only at hSw); go_simp; (try with_reducible rfl)
  try simp only [Act.put, List.setIfInBounds_toArray, List.set_cons_zero, List.set_cons_succ]
  refine wpAnyH_take (i := 6) (v := ?_) (by simp only [List.getElem?_toArray, List.getElem?_cons_zero, List.getElem?_cons_succ] <;> rfl) (by kernel_rfl) (by kernel_rfl) (by kernel_rfl) (fun _ _ _ h => h) (.inl ⟨by rfl, ?_⟩) (by assumption) ?_
  rotate_left 1
  · intro wz hSw; (try dsimp only at hSw); go_simp; (try with_reducible rfl)
  try simp only [Act.put, List.setIfInBounds_toArray, List.set_cons_zero, List.set_cons_succ]
  refine wpAnyH_take (i := 7) (v := ?_) (by simp only [List.getElem?_toArray, List.getElem?_cons_zero, List.getElem?_cons_succ] <;> rfl) (by kernel_rfl) (by kernel_rfl) (by kernel_rfl) (fun _ _ _ h => h) (.inl ⟨by rfl, ?_⟩) (by assumption) ?_
  rotate_left 1
  · intro wz hSw; (try dsimp only at hSw); go_simp; (try with_reducible rfl)
  try simp only [Act.put, List.setIfInBounds_toArray, List.set_cons_zero, List.set_cons_succ]
  refine wpAnyH_take (i := 8) (v := ?_) (by simp only [List.getElem?_toArray, List.getElem?_cons_zero, List.getElem?_cons_succ] <;> rfl) (by kernel_rfl) (by kernel_rfl) (by kernel_rfl) (fun _ _ _ h => h) (.inl ⟨by rfl, ?_⟩) (by assumption) ?_
  rotate_left 1
  · intro wz hSw; (try dsimp only at hSw); go_simp; (try with_reducible rfl)
  try simp only [Act.put, List.setIfInBounds_toArray, List.set_cons_zero, List.set_cons_succ]
  refine wpAnyH_take (i := 9) (v := ?_) (by simp only [List.getElem?_toArray, List.getElem?_cons_zero, List.getElem?_cons_succ] <;> rfl) (by kernel_rfl) (by kernel_rfl) (by kernel_rfl) (fun _ _ _ h => h) (.inl ⟨by rfl, ?_⟩) (by assumption) ?_
  rotate_left 1
  · intro wz hSw; (try dsimp only at hSw); go_simp; (try with_reducible rfl)
  try simp only [Act.put, List.setIfInBounds_toArray, List.set_cons_zero, List.set_cons_succ]
  refine wpAnyH_ready (rs := [1]) (by kernel_rfl) (by simp) ?_
  refine AllReadyH.cons (by simp only [List.getElem?_toArray, List.getElem?_cons_zero, List.getElem?_cons_succ] <;> rfl) (fun K hK => ?_) AllReadyH.nil
  go_simp
  refine (HNA.out _ (by first | exact KW3.out | exact KW3.out.drew)).mono ?_
  rintro e w5 ⟨rfl, hk⟩
  have Kw5 := Lib.hid (KW3.out.trans (show Kp W3 w5 from (by first | exact hk | exact (Kp.refl W3).drew.trans hk)))
  have Qw5 := Lib.hid (show Kp W3 w5 from (by first | exact hk | exact (Kp.refl W3).drew.trans hk))
  have y0 := below_some Qw5.out x0
  have y1 := below_some Qw5.out x1
  have y2 := below_some Qw5.out x2
  have y3 := below_some Qw5.out x3
  have y4 := below_some Qw5.out x4
  have y5 := below_some Qw5.out x5
  clear hk
  go_wp2_with fail
  refine hK.out _ _ ⟨y0, y1, y2, y3, y4, y5⟩ (fun hHeld => ?_)
  clear hK K
  try simp only [Act.put, List.setIfInBounds_toArray, List.set_cons_zero, List.set_cons_succ]
  refine wpAnyH_ready (rs := [3]) (by kernel_rfl) (by simp) ?_
  refine AllReadyH.cons (by simp only [List.getElem?_toArray, List.getElem?_cons_zero, List.getElem?_cons_succ] <;> rfl) (fun K hK => ?_) AllReadyH.nil
  go_simp
  refine (HNB.out _ (by first | exact Kw5.out | exact Kw5.out.drew)).mono ?_
  rintro e w6 ⟨rfl, hk⟩
  have Kw6 := Lib.hid (Kw5.out.trans (show Kp w5 w6 from (by first | exact hk | exact (Kp.refl w5).drew.trans hk)))
  have Qw6 := Lib.hid (show Kp w5 w6 from (by first | exact hk | exact (Kp.refl w5).drew.trans hk))
  have z0 := below_some Qw6.out y0
  have z1 := below_some Qw6.out y1
  have z2 := below_some Qw6.out y2
  have z3 := below_some Qw6.out y3
  have z4 := below_some Qw6.out y4
  have z5 := below_some Qw6.out y5
  clear hk
  go_wp2_with fail
  refine hK.out _ _ ⟨z0, z1, z2, z3, z4, z5⟩ (fun hHeld => ?_)
  clear hK K
  try simp only [Act.put, List.setIfInBounds_toArray, List.set_cons_zero, List.set_cons_succ]
  refine wpAnyH_take (i := 4) (v := ?_) (by simp only [List.getElem?_toArray, List.getElem?_cons_zero, List.getElem?_cons_succ] <;> rfl) (by kernel_rfl) (by kernel_rfl) (by kernel_rfl) (fun _ _ _ h => h) (.inl ⟨by rfl, ?_⟩) (by assumption) ?_
  rotate_left 1
  · intro wz hSw; (try dsimp only at hSw); go_simp; (try with_reducible rfl)
  try simp only [Act.put, List.setIfInBounds_toArray, List.set_cons_zero, List.set_cons_succ]
  refine wpAnyH_take (i := 10) (v := ?_) (by simp only [List.getElem?_toArray, List.getElem?_cons_zero, List.getElem?_cons_succ] <;> rfl) (by kernel_rfl) (by kernel_rfl) (by kernel_rfl) (fun _ _ _ h => h) (.inl ⟨by rfl, ?_⟩) (by assumption) ?_
  rotate_left 1
  · intro wz hSw; (try dsimp only at hSw); go_simp; (try with_reducible rfl)
  try simp only [Act.put, List.setIfInBounds_toArray, List.set_cons_zero, List.set_cons_succ]
  refine wpAnyH_take (i := 11) (v := ?_) (by simp only [List.getElem?_toArray, List.getElem?_cons_zero, List.getElem?_cons_succ] <;> rfl) (by kernel_rfl) (by kernel_rfl) (by kernel_rfl) (fun _ _ _ h => h) (.inl ⟨by rfl, ?_⟩) (by assumption) ?_
  rotate_left 1
  · intro wz hSw; (try dsimp only at hSw); go_simp; (try with_reducible rfl)
  try simp only [Act.put, List.setIfInBounds_toArray, List.set_cons_zero, List.set_cons_succ]
  refine wpAnyH_take (i := 12) (v := ?_) (by simp only [List.getElem?_toArray, List.getElem?_cons_zero, List.getElem?_cons_succ] <;> rfl) (by kernel_rfl) (by kernel_rfl) (by kernel_rfl) (fun _ _ _ h => h) (.inl ⟨by rfl, ?_⟩) (by assumption) ?_
  rotate_left 1
  · intro wz hSw; (try dsimp only at hSw); go_simp; (try with_reducible rfl)
  try simp only [Act.put, List.setIfInBounds_toArray, List.set_cons_zero, List.set_cons_succ]
  refine wpAnyH_take (i := 13) (v := ?_) (by simp only [List.getElem?_toArray, List.getElem?_cons_zero, List.getElem?_cons_succ] <;> rfl) (by kernel_rfl) (by kernel_rfl) (by kernel_rfl) (fun _ _ _ h => h) (.inl ⟨by rfl, ?_⟩) (by assumption) ?_
  rotate_left 1
  · intro wz hSw; (try dsimp only at hSw); go_simp; (try with_reducible rfl)
  try simp only [Act.put, List.setIfInBounds_toArray, List.set_cons_zero, List.set_cons_succ]
  refine wpAnyH_take (i := 14) (v := ?_) (by simp only [List.getElem?_toArray, List.getElem?_cons_zero, List.getElem?_cons_succ] <;> rfl) (by kernel_rfl) (by kernel_rfl) (by kernel_rfl) (fun _ _ _ h => h) (.inl ⟨by rfl, ?_⟩) (by assumption) ?_
  rotate_left 1
  · intro wz hSw; (try dsimp only at hSw); go_simp; (try with_reducible rfl)
  try simp only [Act.put, List.setIfInBounds_toArray, List.set_cons_zero, List.set_cons_succ]
  refine wpAnyH_take (i := 15) (v := ?_) (by simp only [List.getElem?_toArray, List.getElem?_cons_zero, List.getElem?_cons_succ] <;> rfl) (by kernel_rfl) (by kernel_rfl) (by kernel_rfl) (fun _ _ _ h => h) (.inl ⟨by rfl, ?_⟩) (by assumption) ?_
  rotate_left 1
  · intro wz hSw; (try dsimp only at hSw); go_simp; (try with_reducible rfl)
  try simp only [Act.put, List.setIfInBounds_toArray, List.set_cons_zero, List.set_cons_succ]
  refine wpAnyH_take (i := 16) (v := ?_) (by simp only [List.getElem?_toArray, List.getElem?_cons_zero, List.getElem?_cons_succ] <;> rfl) (by kernel_rfl) (by kernel_rfl) (by kernel_rfl) (fun _ _ _ h => h) (.inl ⟨by rfl, ?_⟩) (by assumption) ?_
  rotate_left 1
  · intro wz hSw; (try dsimp only at hSw); go_simp; (try with_reducible rfl)
  try simp only [Act.put, List.setIfInBounds_toArray, List.set_cons_zero, List.set_cons_succ]
  refine wpAnyH_take (i := 17) (v := ?_) (by simp only [List.getElem?_toArray, List.getElem?_cons_zero, List.getElem?_cons_succ] <;> rfl) (by kernel_rfl) (by kernel_rfl) (by kernel_rfl) (fun _ _ _ h => h) (.inl ⟨by rfl, ?_⟩) (by assumption) ?_
  rotate_left 1
  · intro wz hSw; (try dsimp only at hSw); go_simp; (try with_reducible rfl)
  try simp only [Act.put, List.setIfInBounds_toArray, List.set_cons_zero, List.set_cons_succ]
  refine wpAnyH_take (i := 18) (v := ?_) (by simp only [List.getElem?_toArray, List.getElem?_cons_zero, List.getElem?_cons_succ] <;> rfl) (by kernel_rfl) (by kernel_rfl) (by kernel_rfl) (fun _ _ _ h => h) (.inl ⟨by rfl, ?_⟩) (by assumption) ?_
  rotate_left 1
  · intro wz hSw; (try dsimp only at hSw); go_simp; (try with_reducible rfl)
  try simp only [Act.put, List.setIfInBounds_toArray, List.set_cons_zero, List.set_cons_succ]
  refine wpAnyH_ready (rs := [19]) (by kernel_rfl) (by simp) ?_
  refine AllReadyH.cons (by simp only [List.getElem?_toArray, List.getElem?_cons_zero, List.getElem?_cons_succ] <;> rfl) (fun K hK => ?_) AllReadyH.nil
  go_simp
  refine (configAwake_any _).mono ?_
  rintro e w7 ⟨rfl, hk⟩
  have Kw7 := Lib.hid (Kw6.out.trans (show Kp w6 w7 from (by first | exact hk | exact (Kp.refl w6).drew.trans hk)))
  have Qw7 := Lib.hid (show Kp w6 w7 from (by first | exact hk | exact (Kp.refl w6).drew.trans hk))
  have v0 := below_some Qw7.out z0
  have v1 := below_some Qw7.out z1
  have v2 := below_some Qw7.out z2
  have v3 := below_some Qw7.out z3
  have v4 := below_some Qw7.out z4
  have v5 := below_some Qw7.out z5
  clear hk
  go_wp2_with fail
  refine hK.out _ _ ⟨v0, v1, v2, v3, v4, v5⟩ (fun hHeld => ?_)
  clear hK K
  try simp only [Act.put, List.setIfInBounds_toArray, List.set_cons_zero, List.set_cons_succ]
  refine wpAnyH_take (i := 20) (v := ?_) (by simp only [List.getElem?_toArray, List.getElem?_cons_zero, List.getElem?_cons_succ] <;> rfl) (by kernel_rfl) (by kernel_rfl) (by kernel_rfl) (fun _ _ _ h => h) (.inl ⟨by rfl, ?_⟩) (by assumption) ?_
  rotate_left 1
  · intro wz hSw; (try dsimp only at hSw); go_simp; (try with_reducible rfl)
  try simp only [Act.put, List.setIfInBounds_toArray, List.set_cons_zero, List.set_cons_succ]
  refine wpAnyH_take (i := 21) (v := ?_) (by simp only [List.getElem?_toArray, List.getElem?_cons_zero, List.getElem?_cons_succ] <;> rfl) (by kernel_rfl) (by kernel_rfl) (by kernel_rfl) (fun _ _ _ h => h) (.inl ⟨by rfl, ?_⟩) (by assumption) ?_
  rotate_left 1
  · intro wz hSw; (try dsimp only at hSw); go_simp; (try with_reducible rfl)
  try simp only [Act.put, List.setIfInBounds_toArray, List.set_cons_zero, List.set_cons_succ]
  refine wpAnyH_done (by kernel_rfl) ?_ _
  refine NoPanic.normal ?_
  go_wp2_with fail
  go_ret
  exact ⟨rfl, Kw7.out⟩
end Go.Proofs.YtmojecgmneodlaaDoor
