/-
  IsEqual of a server in a block of its own and of one that stands in a row.
-/
import Derived.Test.YtmojecgmneodlaaDoorCfg3
namespace Go.Proofs.YtmojecgmneodlaaDoor
open Go Go.RowKit

set_option maxRecDepth 100000 in
set_option maxHeartbeats 4000000 in
theorem isEqualAt_yes (b1 b2 i2 : Nat) (p1 a b : ByteArray) (pa pb : Int) (w : World) (h1 : Blk w b1 75 #[.string p1, .string a, .int .i64 pa]) (h2 : w.cell? ⟨b2, i2 + 1, none⟩ = some (.string b)) (h3 : w.cell? ⟨b2, i2 + 2, none⟩ = some (.int .i64 pb)) (ha : a.size ≤ 300) (hb : b.size ≤ 300) (la : plainL a.data.toList = true) (lb : plainL b.data.toList = true) (he : hostEq a.data.toList b.data.toList = true) :
    Calls Tryd.prog 52 #[.pointer (some ⟨b1, 0, none⟩), .pointer (some ⟨b2, i2, none⟩)] w fun e w' => e = .returned (.bool (pa == pb)) ∧ Kp w w' := by
  have x0 : w.cell? ⟨b1, 1, none⟩ = some (.string a) := h1.cell 1
  have x1 : w.cell? ⟨b1, 2, none⟩ = some (.int .i64 pa) := h1.cell 2
  have x2 : w.cell? ⟨b2, i2 + 1, none⟩ = some (.string b) := h2
  have x3 : w.cell? ⟨b2, i2 + 2, none⟩ = some (.int .i64 pb) := h3
  have HUA := Lib.hid (fun w1 => upper_any a w1 ha la)
  have HUB := Lib.hid (fun w1 => upper_any b w1 hb lb)
  have HEF := Lib.hid (fun w1 => fold_any a b w1 ha la lb)
  rw [he] at HEF
  generalize hu : (⟨(Lib.toUpperA a.data.toList).toArray⟩ : ByteArray) = ua at HUA HEF
  generalize hv : (⟨(Lib.toUpperA b.data.toList).toArray⟩ : ByteArray) = ub at HUB HEF
  clear h1 h2 h3 ha hb la lb he hu hv
  go_enter Tryd.func52, Tryd.ntmps52
  go_wp2_with fail
  refine wp_region_noPanic ?_
  refine wp_region_held_drew (S := fun w' => w'.cell? ⟨b1, 1, none⟩ = some (.string a) ∧ w'.cell? ⟨b1, 2, none⟩ = some (.int .i64 pa) ∧ w'.cell? ⟨b2, i2 + 1, none⟩ = some (.string b) ∧ w'.cell? ⟨b2, i2 + 2, none⟩ = some (.int .i64 pb)) (by kernel_rfl) ⟨x0, x1, x2, x3⟩ (fun hHeld => ?_)
  refine wpAnyH_take (i := 0) (v := ?_) (by simp only [List.getElem?_toArray, List.getElem?_cons_zero] <;> rfl) (by kernel_rfl) (by kernel_rfl) (by kernel_rfl) (fun _ _ _ h => h) (.inl ⟨by rfl, ?_⟩) (by assumption) ?_
  rotate_left 1
  · intro wz hSw; (try dsimp only at hSw); go_simp; (try with_reducible rfl)
  try simp only [Act.put, List.setIfInBounds_toArray, List.set_cons_zero, List.set_cons_succ]
  refine wpAnyH_take (i := 1) (v := ?_) (by simp only [List.getElem?_toArray, List.getElem?_cons_zero, List.getElem?_cons_succ] <;> rfl) (by kernel_rfl) (by kernel_rfl) (by kernel_rfl) (fun _ _ _ h => h) (.inl ⟨by rfl, ?_⟩) (by assumption) ?_
  rotate_left 1
  · intro wz hSw; (try dsimp only at hSw); go_simp; (try with_reducible rfl)
  try simp only [Act.put, List.setIfInBounds_toArray, List.set_cons_zero, List.set_cons_succ]
  refine wpAnyH_take (i := 2) (v := ?_) (by simp only [List.getElem?_toArray, List.getElem?_cons_zero, List.getElem?_cons_succ] <;> rfl) (by kernel_rfl) (by kernel_rfl) (by kernel_rfl) (fun _ _ _ h => h) (.inl ⟨by rfl, ?_⟩) (by assumption) ?_
  rotate_left 1
  · intro wz hSw; (try dsimp only at hSw); go_simp; (try with_reducible rfl)
  try simp only [Act.put, List.setIfInBounds_toArray, List.set_cons_zero, List.set_cons_succ]
  refine wpAnyH_take (i := 3) (v := ?_) (by simp only [List.getElem?_toArray, List.getElem?_cons_zero, List.getElem?_cons_succ] <;> rfl) (by kernel_rfl) (by kernel_rfl) (by kernel_rfl) (fun _ _ _ h => h) (.inl ⟨by rfl, ?_⟩) (by assumption) ?_
  rotate_left 1
  · intro wz hSw; (try dsimp only at hSw); go_simp; (try with_reducible rfl)
  try simp only [Act.put, List.setIfInBounds_toArray, List.set_cons_zero, List.set_cons_succ]
  refine wpAnyH_take (i := 5) (v := ?_) (by simp only [List.getElem?_toArray, List.getElem?_cons_zero, List.getElem?_cons_succ] <;> rfl) (by kernel_rfl) (by kernel_rfl) (by kernel_rfl) (fun _ _ _ h => h) (.inl ⟨by rfl, ?_⟩) (by assumption) ?_
  rotate_left 1
  · intro wz hSw; (try dsimp only at hSw); go_simp; (try with_reducible rfl)
  try simp only [Act.put, List.setIfInBounds_toArray, List.set_cons_zero, List.set_cons_succ]
  refine wpAnyH_take (i := 6) (v := ?_) (by simp only [List.getElem?_toArray, List.getElem?_cons_zero, List.getElem?_cons_succ] <;> rfl) (by kernel_rfl) (by kernel_rfl) (by kernel_rfl) (fun _ _ _ h => h) (.inl ⟨by rfl, ?_⟩) (by assumption) ?_
  rotate_left 1
  · intro wz hSw; (try dsimp only at hSw); go_simp; (try with_reducible rfl)
  try simp only [Act.put, List.setIfInBounds_toArray, List.set_cons_zero, List.set_cons_succ]
  refine wpAnyH_take (i := 7) (v := ?_) (by simp only [List.getElem?_toArray, List.getElem?_cons_zero, List.getElem?_cons_succ] <;> rfl) (by kernel_rfl) (by kernel_rfl) (by kernel_rfl) (fun _ _ _ h => h) (.inl ⟨by rfl, ?_⟩) (by assumption) ?_
  rotate_left 1
  · intro wz hSw; (try dsimp only at hSw); go_simp; (try with_reducible rfl)
  try simp only [Act.put, List.setIfInBounds_toArray, List.set_cons_zero, List.set_cons_succ]
  refine wpAnyH_take (i := 8) (v := ?_) (by simp only [List.getElem?_toArray, List.getElem?_cons_zero, List.getElem?_cons_succ] <;> rfl) (by kernel_rfl) (by kernel_rfl) (by kernel_rfl) (fun _ _ _ h => h) (.inl ⟨by rfl, ?_⟩) (by assumption) ?_
  rotate_left 1
  · intro wz hSw; (try dsimp only at hSw); go_simp; (try with_reducible rfl)
  try simp only [Act.put, List.setIfInBounds_toArray, List.set_cons_zero, List.set_cons_succ]
  refine wpAnyH_ready (rs := [4]) (by kernel_rfl) (by simp) ?_
  refine AllReadyH.cons (by simp only [List.getElem?_toArray, List.getElem?_cons_zero, List.getElem?_cons_succ] <;> rfl) (fun K hK => ?_) AllReadyH.nil
  go_simp
  refine (HUA.out _).mono ?_
  rintro e w1 ⟨rfl, hk⟩
  have Qw1 := Lib.hid (show Kp w w1 from (by first | exact hk | exact (Kp.refl w).drew.trans hk))
  have y0 := below_some Qw1.out x0
  have y1 := below_some Qw1.out x1
  have y2 := below_some Qw1.out x2
  have y3 := below_some Qw1.out x3
  clear hk
  go_wp2_with fail
  refine hK.out _ _ ⟨y0, y1, y2, y3⟩ (fun hHeld => ?_)
  clear hK K
  try simp only [Act.put, List.setIfInBounds_toArray, List.set_cons_zero, List.set_cons_succ]
  refine wpAnyH_ready (rs := [9]) (by kernel_rfl) (by simp) ?_
  refine AllReadyH.cons (by simp only [List.getElem?_toArray, List.getElem?_cons_zero, List.getElem?_cons_succ] <;> rfl) (fun K hK => ?_) AllReadyH.nil
  go_simp
  refine (HUB.out _).mono ?_
  rintro e w2 ⟨rfl, hk⟩
  have Qw2 := Lib.hid (show Kp w1 w2 from (by first | exact hk | exact (Kp.refl w1).drew.trans hk))
  have z0 := below_some Qw2.out y0
  have z1 := below_some Qw2.out y1
  have z2 := below_some Qw2.out y2
  have z3 := below_some Qw2.out y3
  clear hk
  go_wp2_with fail
  refine hK.out _ _ ⟨z0, z1, z2, z3⟩ (fun hHeld => ?_)
  clear hK K
  try simp only [Act.put, List.setIfInBounds_toArray, List.set_cons_zero, List.set_cons_succ]
  refine wpAnyH_ready (rs := [10]) (by kernel_rfl) (by simp) ?_
  refine AllReadyH.cons (by simp only [List.getElem?_toArray, List.getElem?_cons_zero, List.getElem?_cons_succ] <;> rfl) (fun K hK => ?_) AllReadyH.nil
  go_simp
  refine (HEF.out _).mono ?_
  rintro e w3 ⟨rfl, rfl⟩
  go_wp2_with fail
  refine hK.out _ _ ⟨z0, z1, z2, z3⟩ (fun hHeld => ?_)
  clear hK K
  try simp only [Act.put, List.setIfInBounds_toArray, List.set_cons_zero, List.set_cons_succ]
  refine wpAnyH_take (i := 11) (v := ?_) (by simp only [List.getElem?_toArray, List.getElem?_cons_zero, List.getElem?_cons_succ] <;> rfl) (by kernel_rfl) (by kernel_rfl) (by kernel_rfl) (fun _ _ _ h => h) (.inl ⟨by rfl, ?_⟩) (by assumption) ?_
  rotate_left 1
  · intro wz hSw; (try dsimp only at hSw); go_simp; (try with_reducible rfl)
  try simp only [Act.put, List.setIfInBounds_toArray, List.set_cons_zero, List.set_cons_succ]
  refine wpAnyH_take (i := 12) (v := ?_) (by simp only [List.getElem?_toArray, List.getElem?_cons_zero, List.getElem?_cons_succ] <;> rfl) (by kernel_rfl) (by kernel_rfl) (by kernel_rfl) (fun _ _ _ h => h) (.inl ⟨by rfl, ?_⟩) (by assumption) ?_
  rotate_left 1
  · intro wz hSw; (try dsimp only at hSw); go_simp; (try with_reducible rfl)
  try simp only [Act.put, List.setIfInBounds_toArray, List.set_cons_zero, List.set_cons_succ]
  refine wpAnyH_take (i := 13) (v := ?_) (by simp only [List.getElem?_toArray, List.getElem?_cons_zero, List.getElem?_cons_succ] <;> rfl) (by kernel_rfl) (by kernel_rfl) (by kernel_rfl) (fun _ _ _ h => h) (.inl ⟨by rfl, ?_⟩) (by assumption) ?_
  rotate_left 1
  · intro wz hSw; (try dsimp only at hSw); go_simp; (try with_reducible rfl)
  try simp only [Act.put, List.setIfInBounds_toArray, List.set_cons_zero, List.set_cons_succ]
  refine wpAnyH_take (i := 14) (v := ?_) (by simp only [List.getElem?_toArray, List.getElem?_cons_zero, List.getElem?_cons_succ] <;> rfl) (by kernel_rfl) (by kernel_rfl) (by kernel_rfl) (fun _ _ _ h => h) (.inl ⟨by rfl, ?_⟩) (by assumption) ?_
  rotate_left 1
  · intro wz hSw; (try dsimp only at hSw); go_simp; (try with_reducible rfl)
  try simp only [Act.put, List.setIfInBounds_toArray, List.set_cons_zero, List.set_cons_succ]
  refine wpAnyH_take (i := 15) (v := ?_) (by simp only [List.getElem?_toArray, List.getElem?_cons_zero, List.getElem?_cons_succ] <;> rfl) (by kernel_rfl) (by kernel_rfl) (by kernel_rfl) (fun _ _ _ h => h) (.inl ⟨by rfl, ?_⟩) (by assumption) ?_
  rotate_left 1
  · intro wz hSw; (try dsimp only at hSw); go_simp; (try with_reducible rfl)
  try simp only [Act.put, List.setIfInBounds_toArray, List.set_cons_zero, List.set_cons_succ]
  refine wpAnyH_take (i := 16) (v := ?_) (by simp only [List.getElem?_toArray, List.getElem?_cons_zero, List.getElem?_cons_succ] <;> rfl) (by kernel_rfl) (by kernel_rfl) (by kernel_rfl) (fun _ _ _ h => h) (.inl ⟨by rfl, ?_⟩) (by assumption) ?_
  rotate_left 1
  · intro wz hSw; (try dsimp only at hSw); go_simp; (try with_reducible rfl)
  try simp only [Act.put, List.setIfInBounds_toArray, List.set_cons_zero, List.set_cons_succ]
  refine wpAnyH_take (i := 17) (v := ?_) (by simp only [List.getElem?_toArray, List.getElem?_cons_zero, List.getElem?_cons_succ] <;> rfl) (by kernel_rfl) (by kernel_rfl) (by kernel_rfl) (fun _ _ _ h => h) (.inl ⟨by rfl, ?_⟩) (by assumption) ?_
  rotate_left 1
  · intro wz hSw; (try dsimp only at hSw); go_simp; (try with_reducible rfl)
  try simp only [Act.put, List.setIfInBounds_toArray, List.set_cons_zero, List.set_cons_succ]
  refine wpAnyH_take (i := 18) (v := ?_) (by simp only [List.getElem?_toArray, List.getElem?_cons_zero, List.getElem?_cons_succ] <;> rfl) (by kernel_rfl) (by kernel_rfl) (by kernel_rfl) (fun _ _ _ h => h) (.inl ⟨by rfl, ?_⟩) (by assumption) ?_
  rotate_left 1
  · intro wz hSw; (try dsimp only at hSw); go_simp; (try with_reducible rfl)
  try simp only [Act.put, List.setIfInBounds_toArray, List.set_cons_zero, List.set_cons_succ]
  refine wpAnyH_take (i := 19) (v := ?_) (by simp only [List.getElem?_toArray, List.getElem?_cons_zero, List.getElem?_cons_succ] <;> rfl) (by kernel_rfl) (by kernel_rfl) (by kernel_rfl) (fun _ _ _ h => h) (.inl ⟨by rfl, ?_⟩) (by assumption) ?_
  rotate_left 1
  · intro wz hSw; (try dsimp only at hSw); go_simp; (try with_reducible rfl)
  try simp only [Act.put, List.setIfInBounds_toArray, List.set_cons_zero, List.set_cons_succ]
  refine wpAnyH_take (i := 20) (v := ?_) (by simp only [List.getElem?_toArray, List.getElem?_cons_zero, List.getElem?_cons_succ] <;> rfl) (by kernel_rfl) (by kernel_rfl) (by kernel_rfl) (fun _ _ _ h => h) (.inl ⟨by rfl, ?_⟩) (by assumption) ?_
  rotate_left 1
  · intro wz hSw; (try dsimp only at hSw); go_simp; (try with_reducible rfl)
  try simp only [Act.put, List.setIfInBounds_toArray, List.set_cons_zero, List.set_cons_succ]
  refine wpAnyH_take (i := 21) (v := ?_) (by simp only [List.getElem?_toArray, List.getElem?_cons_zero, List.getElem?_cons_succ] <;> rfl) (by kernel_rfl) (by kernel_rfl) (by kernel_rfl) (fun _ _ _ h => h) (.inl ⟨by rfl, ?_⟩) (by assumption) ?_
  rotate_left 1
  · intro wz hSw; (try dsimp only at hSw); go_simp; (try with_reducible rfl)
  try simp only [Act.put, List.setIfInBounds_toArray, List.set_cons_zero, List.set_cons_succ]
  refine wpAnyH_take (i := 22) (v := ?_) (by simp only [List.getElem?_toArray, List.getElem?_cons_zero, List.getElem?_cons_succ] <;> rfl) (by kernel_rfl) (by kernel_rfl) (by kernel_rfl) (fun _ _ _ h => h) (.inl ⟨by rfl, ?_⟩) (by assumption) ?_
  rotate_left 1
  · intro wz hSw; (try dsimp only at hSw); go_simp; (try with_reducible rfl)
  try simp only [Act.put, List.setIfInBounds_toArray, List.set_cons_zero, List.set_cons_succ]
  refine wpAnyH_done (by kernel_rfl) ?_ _
  refine NoPanic.normal ?_
  go_wp2_with fail
  go_ret
  exact ⟨rfl, Qw1.out.trans Qw2.out⟩

set_option maxRecDepth 100000 in
set_option maxHeartbeats 4000000 in
theorem isEqualAt_no (b1 b2 i2 : Nat) (p1 a b : ByteArray) (pa pb : Int) (w : World) (h1 : Blk w b1 75 #[.string p1, .string a, .int .i64 pa]) (h2 : w.cell? ⟨b2, i2 + 1, none⟩ = some (.string b)) (h3 : w.cell? ⟨b2, i2 + 2, none⟩ = some (.int .i64 pb)) (ha : a.size ≤ 300) (hb : b.size ≤ 300) (la : plainL a.data.toList = true) (lb : plainL b.data.toList = true) (he : hostEq a.data.toList b.data.toList = false) :
    Calls Tryd.prog 52 #[.pointer (some ⟨b1, 0, none⟩), .pointer (some ⟨b2, i2, none⟩)] w fun e w' => e = .returned (.bool false) ∧ Kp w w' := by
  have x0 : w.cell? ⟨b1, 1, none⟩ = some (.string a) := h1.cell 1
  have x1 : w.cell? ⟨b1, 2, none⟩ = some (.int .i64 pa) := h1.cell 2
  have x2 : w.cell? ⟨b2, i2 + 1, none⟩ = some (.string b) := h2
  have x3 : w.cell? ⟨b2, i2 + 2, none⟩ = some (.int .i64 pb) := h3
  have HUA := Lib.hid (fun w1 => upper_any a w1 ha la)
  have HUB := Lib.hid (fun w1 => upper_any b w1 hb lb)
  have HEF := Lib.hid (fun w1 => fold_any a b w1 ha la lb)
  rw [he] at HEF
  generalize hu : (⟨(Lib.toUpperA a.data.toList).toArray⟩ : ByteArray) = ua at HUA HEF
  generalize hv : (⟨(Lib.toUpperA b.data.toList).toArray⟩ : ByteArray) = ub at HUB HEF
  clear h1 h2 h3 ha hb la lb he hu hv
  go_enter Tryd.func52, Tryd.ntmps52
  go_wp2_with fail
  refine wp_region_noPanic ?_
  refine wp_region_held_drew (S := fun w' => w'.cell? ⟨b1, 1, none⟩ = some (.string a) ∧ w'.cell? ⟨b1, 2, none⟩ = some (.int .i64 pa) ∧ w'.cell? ⟨b2, i2 + 1, none⟩ = some (.string b) ∧ w'.cell? ⟨b2, i2 + 2, none⟩ = some (.int .i64 pb)) (by kernel_rfl) ⟨x0, x1, x2, x3⟩ (fun hHeld => ?_)
  refine wpAnyH_take (i := 0) (v := ?_) (by simp only [List.getElem?_toArray, List.getElem?_cons_zero] <;> rfl) (by kernel_rfl) (by kernel_rfl) (by kernel_rfl) (fun _ _ _ h => h) (.inl ⟨by rfl, ?_⟩) (by assumption) ?_
  rotate_left 1
  · intro wz hSw; (try dsimp only at hSw); go_simp; (try with_reducible rfl)
  try simp only [Act.put, List.setIfInBounds_toArray, List.set_cons_zero, List.set_cons_succ]
  refine wpAnyH_take (i := 1) (v := ?_) (by simp only [List.getElem?_toArray, List.getElem?_cons_zero, List.getElem?_cons_succ] <;> rfl) (by kernel_rfl) (by kernel_rfl) (by kernel_rfl) (fun _ _ _ h => h) (.inl ⟨by rfl, ?_⟩) (by assumption) ?_
  rotate_left 1
  · intro wz hSw; (try dsimp only at hSw); go_simp; (try with_reducible rfl)
  try simp only [Act.put, List.setIfInBounds_toArray, List.set_cons_zero, List.set_cons_succ]
  refine wpAnyH_take (i := 2) (v := ?_) (by simp only [List.getElem?_toArray, List.getElem?_cons_zero, List.getElem?_cons_succ] <;> rfl) (by kernel_rfl) (by kernel_rfl) (by kernel_rfl) (fun _ _ _ h => h) (.inl ⟨by rfl, ?_⟩) (by assumption) ?_
  rotate_left 1
  · intro wz hSw; (try dsimp only at hSw); go_simp; (try with_reducible rfl)
  try simp only [Act.put, List.setIfInBounds_toArray, List.set_cons_zero, List.set_cons_succ]
  refine wpAnyH_take (i := 3) (v := ?_) (by simp only [List.getElem?_toArray, List.getElem?_cons_zero, List.getElem?_cons_succ] <;> rfl) (by kernel_rfl) (by kernel_rfl) (by kernel_rfl) (fun _ _ _ h => h) (.inl ⟨by rfl, ?_⟩) (by assumption) ?_
  rotate_left 1
  · intro wz hSw; (try dsimp only at hSw); go_simp; (try with_reducible rfl)
  try simp only [Act.put, List.setIfInBounds_toArray, List.set_cons_zero, List.set_cons_succ]
  refine wpAnyH_take (i := 5) (v := ?_) (by simp only [List.getElem?_toArray, List.getElem?_cons_zero, List.getElem?_cons_succ] <;> rfl) (by kernel_rfl) (by kernel_rfl) (by kernel_rfl) (fun _ _ _ h => h) (.inl ⟨by rfl, ?_⟩) (by assumption) ?_
  rotate_left 1
  · intro wz hSw; (try dsimp only at hSw); go_simp; (try with_reducible rfl)
  try simp only [Act.put, List.setIfInBounds_toArray, List.set_cons_zero, List.set_cons_succ]
  refine wpAnyH_take (i := 6) (v := ?_) (by simp only [List.getElem?_toArray, List.getElem?_cons_zero, List.getElem?_cons_succ] <;> rfl) (by kernel_rfl) (by kernel_rfl) (by kernel_rfl) (fun _ _ _ h => h) (.inl ⟨by rfl, ?_⟩) (by assumption) ?_
  rotate_left 1
  · intro wz hSw; (try dsimp only at hSw); go_simp; (try with_reducible rfl)
  try simp only [Act.put, List.setIfInBounds_toArray, List.set_cons_zero, List.set_cons_succ]
  refine wpAnyH_take (i := 7) (v := ?_) (by simp only [List.getElem?_toArray, List.getElem?_cons_zero, List.getElem?_cons_succ] <;> rfl) (by kernel_rfl) (by kernel_rfl) (by kernel_rfl) (fun _ _ _ h => h) (.inl ⟨by rfl, ?_⟩) (by assumption) ?_
  rotate_left 1
  · intro wz hSw; (try dsimp only at hSw); go_simp; (try with_reducible rfl)
  try simp only [Act.put, List.setIfInBounds_toArray, List.set_cons_zero, List.set_cons_succ]
  refine wpAnyH_take (i := 8) (v := ?_) (by simp only [List.getElem?_toArray, List.getElem?_cons_zero, List.getElem?_cons_succ] <;> rfl) (by kernel_rfl) (by kernel_rfl) (by kernel_rfl) (fun _ _ _ h => h) (.inl ⟨by rfl, ?_⟩) (by assumption) ?_
  rotate_left 1
  · intro wz hSw; (try dsimp only at hSw); go_simp; (try with_reducible rfl)
  try simp only [Act.put, List.setIfInBounds_toArray, List.set_cons_zero, List.set_cons_succ]
  refine wpAnyH_ready (rs := [4]) (by kernel_rfl) (by simp) ?_
  refine AllReadyH.cons (by simp only [List.getElem?_toArray, List.getElem?_cons_zero, List.getElem?_cons_succ] <;> rfl) (fun K hK => ?_) AllReadyH.nil
  go_simp
  refine (HUA.out _).mono ?_
  rintro e w1 ⟨rfl, hk⟩
  have Qw1 := Lib.hid (show Kp w w1 from (by first | exact hk | exact (Kp.refl w).drew.trans hk))
  have y0 := below_some Qw1.out x0
  have y1 := below_some Qw1.out x1
  have y2 := below_some Qw1.out x2
  have y3 := below_some Qw1.out x3
  clear hk
  go_wp2_with fail
  refine hK.out _ _ ⟨y0, y1, y2, y3⟩ (fun hHeld => ?_)
  clear hK K
  try simp only [Act.put, List.setIfInBounds_toArray, List.set_cons_zero, List.set_cons_succ]
  refine wpAnyH_ready (rs := [9]) (by kernel_rfl) (by simp) ?_
  refine AllReadyH.cons (by simp only [List.getElem?_toArray, List.getElem?_cons_zero, List.getElem?_cons_succ] <;> rfl) (fun K hK => ?_) AllReadyH.nil
  go_simp
  refine (HUB.out _).mono ?_
  rintro e w2 ⟨rfl, hk⟩
  have Qw2 := Lib.hid (show Kp w1 w2 from (by first | exact hk | exact (Kp.refl w1).drew.trans hk))
  have z0 := below_some Qw2.out y0
  have z1 := below_some Qw2.out y1
  have z2 := below_some Qw2.out y2
  have z3 := below_some Qw2.out y3
  clear hk
  go_wp2_with fail
  refine hK.out _ _ ⟨z0, z1, z2, z3⟩ (fun hHeld => ?_)
  clear hK K
  try simp only [Act.put, List.setIfInBounds_toArray, List.set_cons_zero, List.set_cons_succ]
  refine wpAnyH_ready (rs := [10]) (by kernel_rfl) (by simp) ?_
  refine AllReadyH.cons (by simp only [List.getElem?_toArray, List.getElem?_cons_zero, List.getElem?_cons_succ] <;> rfl) (fun K hK => ?_) AllReadyH.nil
  go_simp
  refine (HEF.out _).mono ?_
  rintro e w3 ⟨rfl, rfl⟩
  go_wp2_with fail
  refine hK.out _ _ ⟨z0, z1, z2, z3⟩ (fun hHeld => ?_)
  clear hK K
  try simp only [Act.put, List.setIfInBounds_toArray, List.set_cons_zero, List.set_cons_succ]
  refine wpAnyH_take (i := 11) (v := ?_) (by simp only [List.getElem?_toArray, List.getElem?_cons_zero, List.getElem?_cons_succ] <;> rfl) (by kernel_rfl) (by kernel_rfl) (by kernel_rfl) (fun _ _ _ h => h) (.inl ⟨by rfl, ?_⟩) (by assumption) ?_
  rotate_left 1
  · intro wz hSw; (try dsimp only at hSw); go_simp; (try with_reducible rfl)
  try simp only [Act.put, List.setIfInBounds_toArray, List.set_cons_zero, List.set_cons_succ]
  refine wpAnyH_take (i := 12) (v := undef) (by simp only [List.getElem?_toArray, List.getElem?_cons_zero, List.getElem?_cons_succ] <;> rfl) (by kernel_rfl) (by kernel_rfl) (by kernel_rfl) (fun _ _ _ h => h) (.inr ⟨by rfl, rfl⟩) (by assumption) ?_
  try simp only [Act.put, List.setIfInBounds_toArray, List.set_cons_zero, List.set_cons_succ]
  refine wpAnyH_take (i := 13) (v := undef) (by simp only [List.getElem?_toArray, List.getElem?_cons_zero, List.getElem?_cons_succ] <;> rfl) (by kernel_rfl) (by kernel_rfl) (by kernel_rfl) (fun _ _ _ h => h) (.inr ⟨by rfl, rfl⟩) (by assumption) ?_
  try simp only [Act.put, List.setIfInBounds_toArray, List.set_cons_zero, List.set_cons_succ]
  refine wpAnyH_take (i := 14) (v := undef) (by simp only [List.getElem?_toArray, List.getElem?_cons_zero, List.getElem?_cons_succ] <;> rfl) (by kernel_rfl) (by kernel_rfl) (by kernel_rfl) (fun _ _ _ h => h) (.inr ⟨by rfl, rfl⟩) (by assumption) ?_
  try simp only [Act.put, List.setIfInBounds_toArray, List.set_cons_zero, List.set_cons_succ]
  refine wpAnyH_take (i := 15) (v := undef) (by simp only [List.getElem?_toArray, List.getElem?_cons_zero, List.getElem?_cons_succ] <;> rfl) (by kernel_rfl) (by kernel_rfl) (by kernel_rfl) (fun _ _ _ h => h) (.inr ⟨by rfl, rfl⟩) (by assumption) ?_
  try simp only [Act.put, List.setIfInBounds_toArray, List.set_cons_zero, List.set_cons_succ]
  refine wpAnyH_take (i := 16) (v := undef) (by simp only [List.getElem?_toArray, List.getElem?_cons_zero, List.getElem?_cons_succ] <;> rfl) (by kernel_rfl) (by kernel_rfl) (by kernel_rfl) (fun _ _ _ h => h) (.inr ⟨by rfl, rfl⟩) (by assumption) ?_
  try simp only [Act.put, List.setIfInBounds_toArray, List.set_cons_zero, List.set_cons_succ]
  refine wpAnyH_take (i := 17) (v := undef) (by simp only [List.getElem?_toArray, List.getElem?_cons_zero, List.getElem?_cons_succ] <;> rfl) (by kernel_rfl) (by kernel_rfl) (by kernel_rfl) (fun _ _ _ h => h) (.inr ⟨by rfl, rfl⟩) (by assumption) ?_
  try simp only [Act.put, List.setIfInBounds_toArray, List.set_cons_zero, List.set_cons_succ]
  refine wpAnyH_take (i := 18) (v := undef) (by simp only [List.getElem?_toArray, List.getElem?_cons_zero, List.getElem?_cons_succ] <;> rfl) (by kernel_rfl) (by kernel_rfl) (by kernel_rfl) (fun _ _ _ h => h) (.inr ⟨by rfl, rfl⟩) (by assumption) ?_
  try simp only [Act.put, List.setIfInBounds_toArray, List.set_cons_zero, List.set_cons_succ]
  refine wpAnyH_take (i := 19) (v := undef) (by simp only [List.getElem?_toArray, List.getElem?_cons_zero, List.getElem?_cons_succ] <;> rfl) (by kernel_rfl) (by kernel_rfl) (by kernel_rfl) (fun _ _ _ h => h) (.inr ⟨by rfl, rfl⟩) (by assumption) ?_
  try simp only [Act.put, List.setIfInBounds_toArray, List.set_cons_zero, List.set_cons_succ]
  refine wpAnyH_take (i := 20) (v := undef) (by simp only [List.getElem?_toArray, List.getElem?_cons_zero, List.getElem?_cons_succ] <;> rfl) (by kernel_rfl) (by kernel_rfl) (by kernel_rfl) (fun _ _ _ h => h) (.inr ⟨by rfl, rfl⟩) (by assumption) ?_
  try simp only [Act.put, List.setIfInBounds_toArray, List.set_cons_zero, List.set_cons_succ]
  refine wpAnyH_take (i := 21) (v := ?_) (by simp only [List.getElem?_toArray, List.getElem?_cons_zero, List.getElem?_cons_succ] <;> rfl) (by kernel_rfl) (by kernel_rfl) (by kernel_rfl) (fun _ _ _ h => h) (.inl ⟨by rfl, ?_⟩) (by assumption) ?_
  rotate_left 1
  · intro wz hSw; (try dsimp only at hSw); go_simp; (try with_reducible rfl)
  try simp only [Act.put, List.setIfInBounds_toArray, List.set_cons_zero, List.set_cons_succ]
  refine wpAnyH_take (i := 22) (v := ?_) (by simp only [List.getElem?_toArray, List.getElem?_cons_zero, List.getElem?_cons_succ] <;> rfl) (by kernel_rfl) (by kernel_rfl) (by kernel_rfl) (fun _ _ _ h => h) (.inl ⟨by rfl, ?_⟩) (by assumption) ?_
  rotate_left 1
  · intro wz hSw; (try dsimp only at hSw); go_simp; (try with_reducible rfl)
  try simp only [Act.put, List.setIfInBounds_toArray, List.set_cons_zero, List.set_cons_succ]
  refine wpAnyH_done (by kernel_rfl) ?_ _
  refine NoPanic.normal ?_
  go_wp2_with fail
  go_ret
  exact ⟨rfl, Qw1.out.trans Qw2.out⟩

end Go.Proofs.YtmojecgmneodlaaDoor
