/-
  IsEqual: servers that are one.
-/
import Derived.Test.YtmojecgmneodlaaDoorCfg2
import Derived.Deep.RegionHeld3
namespace Go.Proofs.YtmojecgmneodlaaDoor
open Go Go.RowKit

theorem upper_lt (x : UInt8) (h : x.toNat < 128) : (Lib.upperB x).toNat < 128 := by
  have key : ∀ i : Fin 128, (Lib.upperB (UInt8.ofNat i.val)).toNat < 128 := by decide
  have := key ⟨x.toNat, h⟩
  simpa using this
theorem ascii_of {a : ByteArray} (h : plainL a.data.toList = true) : ∀ (j : Nat) (b : UInt8), a.data.toList[j]? = some b → b.toNat < 128 := fun _ b hb => (plainL_iff _).1 h b (List.mem_of_getElem? hb)
theorem ascii_up {l : List UInt8} (h : plainL l = true) : ∀ (j : Nat) (b : UInt8), (Lib.toUpperA l)[j]? = some b → b.toNat < 128 := fun _ b hb => by
  obtain ⟨x, hx, rfl⟩ := List.mem_map.1 (List.mem_of_getElem? hb)
  exact upper_lt x ((plainL_iff _).1 h x hx)
theorem upper_any (a : ByteArray) (w : World) (ha : a.size ≤ 300) (la : plainL a.data.toList = true) :
    Calls Tryd.prog 66 #[.string a] w fun e w' => e = .returned (.string ⟨(Lib.toUpperA a.data.toList).toArray⟩) ∧ Kp w w' := Tryd.strings_ToUpper_ascii a w (by omega) (ascii_of la)
theorem fold_any (a b : ByteArray) (w : World) (ha : a.size ≤ 300) (la : plainL a.data.toList = true) (lb : plainL b.data.toList = true) :
    Calls Tryd.prog 65 #[.string ⟨(Lib.toUpperA a.data.toList).toArray⟩, .string ⟨(Lib.toUpperA b.data.toList).toArray⟩] w fun e w' => e = .returned (.bool (hostEq a.data.toList b.data.toList)) ∧ w' = w := by
  refine Tryd.strings_EqualFold _ _ w ?_ (ascii_up la) (ascii_up lb)
  have : (Lib.toUpperA a.data.toList).length = a.data.toList.length := by simp [Lib.toUpperA]
  have h2 : a.data.toList.length = a.size := rfl
  show (Lib.toUpperA a.data.toList).toArray.size < _
  simp only [List.size_toArray]
  omega

set_option maxRecDepth 100000 in
set_option maxHeartbeats 4000000 in
theorem isEqual_yes (b1 b2 : Nat) (p1 p2 a b : ByteArray) (pa pb : Int) (w : World) (h1 : Blk w b1 75 #[.string p1, .string a, .int .i64 pa]) (h2 : Blk w b2 75 #[.string p2, .string b, .int .i64 pb]) (ha : a.size ≤ 300) (hb : b.size ≤ 300) (la : plainL a.data.toList = true) (lb : plainL b.data.toList = true) (he : hostEq a.data.toList b.data.toList = true) :
    Calls Tryd.prog 52 #[.pointer (some ⟨b1, 0, none⟩), .pointer (some ⟨b2, 0, none⟩)] w fun e w' => e = .returned (.bool (pa == pb)) ∧ Kp w w' := by
  have x0 : w.cell? ⟨b1, 1, none⟩ = some (.string a) := h1.cell 1
  have x1 : w.cell? ⟨b1, 2, none⟩ = some (.int .i64 pa) := h1.cell 2
  have x2 : w.cell? ⟨b2, 1, none⟩ = some (.string b) := h2.cell 1
  have x3 : w.cell? ⟨b2, 2, none⟩ = some (.int .i64 pb) := h2.cell 2
  have HUA := Lib.hid (fun w1 => upper_any a w1 ha la)
  have HUB := Lib.hid (fun w1 => upper_any b w1 hb lb)
  have HEF := Lib.hid (fun w1 => fold_any a b w1 ha la lb)
  rw [he] at HEF
  generalize hu : (⟨(Lib.toUpperA a.data.toList).toArray⟩ : ByteArray) = ua at HUA HEF
  generalize hv : (⟨(Lib.toUpperA b.data.toList).toArray⟩ : ByteArray) = ub at HUB HEF
  clear h1 h2 ha hb la lb he hu hv
  go_enter Tryd.func52, Tryd.ntmps52
  go_wp2_with fail
  refine wp_region_noPanic ?_
  refine wp_region_held_drew (S := fun w' => w'.cell? ⟨b1, 1, none⟩ = some (.string a) ∧ w'.cell? ⟨b1, 2, none⟩ = some (.int .i64 pa) ∧ w'.cell? ⟨b2, 1, none⟩ = some (.string b) ∧ w'.cell? ⟨b2, 2, none⟩ = some (.int .i64 pb)) (by kernel_rfl) ⟨x0, x1, x2, x3⟩ (fun hHeld => ?_)
  refine wpAnyH_take (i := 0) (v := ?_) (by simp only [List.getElem?_toArray, List.getElem?_cons_zero] <;> rfl) (by kernel_rfl) (by kernel_rfl) (by kernel_rfl) (fun _ _ _ h => h) (.inl ⟨by rfl, ?_⟩) (by assumption) ?_
  rotate_left 1
  · intro wz hSw; (try dsimp only at hSw); go_simp; (try with_reducible rfl)
  try simp only [Act.put, List.setIfInBounds_toArray, List.set_cons_zero, List.set_cons_succ]
  refine wpAnyH_take (i := 1) (v := ?_) (by simp only [List.getElem?_toArray, List.getElem?_cons_zero, List.getElem?_cons_succ] <;> rfl) (by kernel_rfl) (by kernel_rfl) (by kernel_rfl) (fun _ _ _ h => h) (.inl ⟨by rfl, ?_⟩) (by assumption) ?_
  rotate_left 1
  · intro wz hSw; (try dsimp only at hSw); go_simp; (try with_reducible rfl)
  try simp only [Act.put, List.setIfInBounds_toArray, List.set_cons_zero, List.set_cons_succ]
  refine wpAnyH_take (i := 2) (v := ?_) (by simp only [List.getElem?_toArray, List.getElem?_cons_zero, List.getElem?_cons_succ] <;> rfl) (by kernel_rfl) (by kernel_rfl) (by kernel_rfl) (fun _ _ _ h => h) (.inl ⟨by rfl, ?_⟩) (by assumption) ?_
  rotate_left 1
  · intro wz hSw; (try dsimp only at hSw); go_simp; (try with_reducible rfl)
  try simp only [Act.put, List.setIfInBounds_toArray, List.set_cons_zero, List.set_cons_succ]
  refine wpAnyH_take (i := 3) (v := ?_) (by simp only [List.getElem?_toArray, List.getElem?_cons_zero, List.getElem?_cons_succ] <;> rfl) (by kernel_rfl) (by kernel_rfl) (by kernel_rfl) (fun _ _ _ h => h) (.inl ⟨by rfl, ?_⟩) (by assumption) ?_
  rotate_left 1
  · intro wz hSw; (try dsimp only at hSw); go_simp; (try with_reducible rfl)
  try simp only [Act.put, List.setIfInBounds_toArray, List.set_cons_zero, List.set_cons_succ]
  refine wpAnyH_take (i := 5) (v := ?_) (by simp only [List.getElem?_toArray, List.getElem?_cons_zero, List.getElem?_cons_succ] <;> rfl) (by kernel_rfl) (by kernel_rfl) (by kernel_rfl) (fun _ _ _ h => h) (.inl ⟨by rfl, ?_⟩) (by assumption) ?_
  rotate_left 1
  · intro wz hSw; (try dsimp only at hSw); go_simp; (try with_reducible rfl)
  try simp only [Act.put, List.setIfInBounds_toArray, List.set_cons_zero, List.set_cons_succ]
  refine wpAnyH_take (i := 6) (v := ?_) (by simp only [List.getElem?_toArray, List.getElem?_cons_zero, List.getElem?_cons_succ] <;> rfl) (by kernel_rfl) (by kernel_rfl) (by kernel_rfl) (fun _ _ _ h => h) (.inl ⟨by rfl, ?_⟩) (by assumption) ?_
  rotate_left 1
  · intro wz hSw; (try dsimp only at hSw); go_simp; (try with_reducible rfl)
  try simp only [Act.put, List.setIfInBounds_toArray, List.set_cons_zero, List.set_cons_succ]
  refine wpAnyH_take (i := 7) (v := ?_) (by simp only [List.getElem?_toArray, List.getElem?_cons_zero, List.getElem?_cons_succ] <;> rfl) (by kernel_rfl) (by kernel_rfl) (by kernel_rfl) (fun _ _ _ h => h) (.inl ⟨by rfl, ?_⟩) (by assumption) ?_
  rotate_left 1
  · intro wz hSw; (try dsimp only at hSw); go_simp; (try with_reducible rfl)
  try simp only [Act.put, List.setIfInBounds_toArray, List.set_cons_zero, List.set_cons_succ]
  refine wpAnyH_take (i := 8) (v := ?_) (by simp only [List.getElem?_toArray, List.getElem?_cons_zero, List.getElem?_cons_succ] <;> rfl) (by kernel_rfl) (by kernel_rfl) (by kernel_rfl) (fun _ _ _ h => h) (.inl ⟨by rfl, ?_⟩) (by assumption) ?_
  rotate_left 1
  · intro wz hSw; (try dsimp only at hSw); go_simp; (try with_reducible rfl)
  try simp only [Act.put, List.setIfInBounds_toArray, List.set_cons_zero, List.set_cons_succ]
  refine wpAnyH_ready (rs := [4]) (by kernel_rfl) (by simp) ?_
  refine AllReadyH.cons (by simp only [List.getElem?_toArray, List.getElem?_cons_zero, List.getElem?_cons_succ] <;> rfl) (fun K hK => ?_) AllReadyH.nil
  go_simp
  refine (HUA.out _).mono ?_
  rintro e w1 ⟨rfl, hk⟩
  have Qw1 := Lib.hid (show Kp w w1 from (by first | exact hk | exact (Kp.refl w).drew.trans hk))
  have y0 := below_some Qw1.out x0
  have y1 := below_some Qw1.out x1
  have y2 := below_some Qw1.out x2
  have y3 := below_some Qw1.out x3
  clear hk
  go_wp2_with fail
  refine hK.out _ _ ⟨y0, y1, y2, y3⟩ (fun hHeld => ?_)
  clear hK K
  try simp only [Act.put, List.setIfInBounds_toArray, List.set_cons_zero, List.set_cons_succ]
  refine wpAnyH_ready (rs := [9]) (by kernel_rfl) (by simp) ?_
  refine AllReadyH.cons (by simp only [List.getElem?_toArray, List.getElem?_cons_zero, List.getElem?_cons_succ] <;> rfl) (fun K hK => ?_) AllReadyH.nil
  go_simp
  refine (HUB.out _).mono ?_
  rintro e w2 ⟨rfl, hk⟩
  have Qw2 := Lib.hid (show Kp w1 w2 from (by first | exact hk | exact (Kp.refl w1).drew.trans hk))
  have z0 := below_some Qw2.out y0
  have z1 := below_some Qw2.out y1
  have z2 := below_some Qw2.out y2
  have z3 := below_some Qw2.out y3
  clear hk
  go_wp2_with fail
  refine hK.out _ _ ⟨z0, z1, z2, z3⟩ (fun hHeld => ?_)
  clear hK K
  try simp only [Act.put, List.setIfInBounds_toArray, List.set_cons_zero, List.set_cons_succ]
  refine wpAnyH_ready (rs := [10]) (by kernel_rfl) (by simp) ?_
  refine AllReadyH.cons (by simp only [List.getElem?_toArray, List.getElem?_cons_zero, List.getElem?_cons_succ] <;> rfl) (fun K hK => ?_) AllReadyH.nil
  go_simp
  refine (HEF.out _).mono ?_
  rintro e w3 ⟨rfl, rfl⟩
  go_wp2_with fail
  refine hK.out _ _ ⟨z0, z1, z2, z3⟩ (fun hHeld => ?_)
  clear hK K
  try simp only [Act.put, List.setIfInBounds_toArray, List.set_cons_zero, List.set_cons_succ]
  refine wpAnyH_take (i := 11) (v := ?_) (by simp only [List.getElem?_toArray, List.getElem?_cons_zero, List.getElem?_cons_succ] <;> rfl) (by kernel_rfl) (by kernel_rfl) (by kernel_rfl) (fun _ _ _ h => h) (.inl ⟨by rfl, ?_⟩) (by assumption) ?_
  rotate_left 1
  · intro wz hSw; (try dsimp only at hSw); go_simp; (try with_reducible rfl)
  try simp only [Act.put, List.setIfInBounds_toArray, List.set_cons_zero, List.set_cons_succ]
  refine wpAnyH_take (i := 12) (v := ?_) (by simp only [List.getElem?_toArray, List.getElem?_cons_zero, List.getElem?_cons_succ] <;> rfl) (by kernel_rfl) (by kernel_rfl) (by kernel_rfl) (fun _ _ _ h => h) (.inl ⟨by rfl, ?_⟩) (by assumption) ?_
  rotate_left 1
  · intro wz hSw; (try dsimp only at hSw); go_simp; (try with_reducible rfl)
  try simp only [Act.put, List.setIfInBounds_toArray, List.set_cons_zero, List.set_cons_succ]
  refine wpAnyH_take (i := 13) (v := ?_) (by simp only [List.getElem?_toArray, List.getElem?_cons_zero, List.getElem?_cons_succ] <;> rfl) (by kernel_rfl) (by kernel_rfl) (by kernel_rfl) (fun _ _ _ h => h) (.inl ⟨by rfl, ?_⟩) (by assumption) ?_
  rotate_left 1
  · intro wz hSw; (try dsimp only at hSw); go_simp; (try with_reducible rfl)
  try simp only [Act.put, List.setIfInBounds_toArray, List.set_cons_zero, List.set_cons_succ]
  refine wpAnyH_take (i := 14) (v := ?_) (by simp only [List.getElem?_toArray, List.getElem?_cons_zero, List.getElem?_cons_succ] <;> rfl) (by kernel_rfl) (by kernel_rfl) (by kernel_rfl) (fun _ _ _ h => h) (.inl ⟨by rfl, ?_⟩) (by assumption) ?_
  rotate_left 1
  · intro wz hSw; (try dsimp only at hSw); go_simp; (try with_reducible rfl)
  try simp only [Act.put, List.setIfInBounds_toArray, List.set_cons_zero, List.set_cons_succ]
  refine wpAnyH_take (i := 15) (v := ?_) (by simp only [List.getElem?_toArray, List.getElem?_cons_zero, List.getElem?_cons_succ] <;> rfl) (by kernel_rfl) (by kernel_rfl) (by kernel_rfl) (fun _ _ _ h => h) (.inl ⟨by rfl, ?_⟩) (by assumption) ?_
  rotate_left 1
  · intro wz hSw; (try dsimp only at hSw); go_simp; (try with_reducible rfl)
  try simp only [Act.put, List.setIfInBounds_toArray, List.set_cons_zero, List.set_cons_succ]
  refine wpAnyH_take (i := 16) (v := ?_) (by simp only [List.getElem?_toArray, List.getElem?_cons_zero, List.getElem?_cons_succ] <;> rfl) (by kernel_rfl) (by kernel_rfl) (by kernel_rfl) (fun _ _ _ h => h) (.inl ⟨by rfl, ?_⟩) (by assumption) ?_
  rotate_left 1
  · intro wz hSw; (try dsimp only at hSw); go_simp; (try with_reducible rfl)
  try simp only [Act.put, List.setIfInBounds_toArray, List.set_cons_zero, List.set_cons_succ]
  refine wpAnyH_take (i := 17) (v := ?_) (by simp only [List.getElem?_toArray, List.getElem?_cons_zero, List.getElem?_cons_succ] <;> rfl) (by kernel_rfl) (by kernel_rfl) (by kernel_rfl) (fun _ _ _ h => h) (.inl ⟨by rfl, ?_⟩) (by assumption) ?_
  rotate_left 1
  · intro wz hSw; (try dsimp only at hSw); go_simp; (try with_reducible rfl)
  try simp only [Act.put, List.setIfInBounds_toArray, List.set_cons_zero, List.set_cons_succ]
  refine wpAnyH_take (i := 18) (v := ?_) (by simp only [List.getElem?_toArray, List.getElem?_cons_zero, List.getElem?_cons_succ] <;> rfl) (by kernel_rfl) (by kernel_rfl) (by kernel_rfl) (fun _ _ _ h => h) (.inl ⟨by rfl, ?_⟩) (by assumption) ?_
  rotate_left 1
  · intro wz hSw; (try dsimp only at hSw); go_simp; (try with_reducible rfl)
  try simp only [Act.put, List.setIfInBounds_toArray, List.set_cons_zero, List.set_cons_succ]
  refine wpAnyH_take (i := 19) (v := ?_) (by simp only [List.getElem?_toArray, List.getElem?_cons_zero, List.getElem?_cons_succ] <;> rfl) (by kernel_rfl) (by kernel_rfl) (by kernel_rfl) (fun _ _ _ h => h) (.inl ⟨by rfl, ?_⟩) (by assumption) ?_
  rotate_left 1
  · intro wz hSw; (try dsimp only at hSw); go_simp; (try with_reducible rfl)
  try simp only [Act.put, List.setIfInBounds_toArray, List.set_cons_zero, List.set_cons_succ]
  refine wpAnyH_take (i := 20) (v := ?_) (by simp only [List.getElem?_toArray, List.getElem?_cons_zero, List.getElem?_cons_succ] <;> rfl) (by kernel_rfl) (by kernel_rfl) (by kernel_rfl) (fun _ _ _ h => h) (.inl ⟨by rfl, ?_⟩) (by assumption) ?_
  rotate_left 1
  · intro wz hSw; (try dsimp only at hSw); go_simp; (try with_reducible rfl)
  try simp only [Act.put, List.setIfInBounds_toArray, List.set_cons_zero, List.set_cons_succ]
  refine wpAnyH_take (i := 21) (v := ?_) (by simp only [List.getElem?_toArray, List.getElem?_cons_zero, List.getElem?_cons_succ] <;> rfl) (by kernel_rfl) (by kernel_rfl) (by kernel_rfl) (fun _ _ _ h => h) (.inl ⟨by rfl, ?_⟩) (by assumption) ?_
  rotate_left 1
  · intro wz hSw; (try dsimp only at hSw); go_simp; (try with_reducible rfl)
  try simp only [Act.put, List.setIfInBounds_toArray, List.set_cons_zero, List.set_cons_succ]
  refine wpAnyH_take (i := 22) (v := ?_) (by simp only [List.getElem?_toArray, List.getElem?_cons_zero, List.getElem?_cons_succ] <;> rfl) (by kernel_rfl) (by kernel_rfl) (by kernel_rfl) (fun _ _ _ h => h) (.inl ⟨by rfl, ?_⟩) (by assumption) ?_
  rotate_left 1
  · intro wz hSw; (try dsimp only at hSw); go_simp; (try with_reducible rfl)
  try simp only [Act.put, List.setIfInBounds_toArray, List.set_cons_zero, List.set_cons_succ]
  refine wpAnyH_done (by kernel_rfl) ?_ _
  refine NoPanic.normal ?_
  go_wp2_with fail
  go_ret
  exact ⟨rfl, Qw1.out.trans Qw2.out⟩

set_option maxRecDepth 100000 in
set_option maxHeartbeats 4000000 in
theorem isEqual_no (b1 b2 : Nat) (p1 p2 a b : ByteArray) (pa pb : Int) (w : World) (h1 : Blk w b1 75 #[.string p1, .string a, .int .i64 pa]) (h2 : Blk w b2 75 #[.string p2, .string b, .int .i64 pb]) (ha : a.size ≤ 300) (hb : b.size ≤ 300) (la : plainL a.data.toList = true) (lb : plainL b.data.toList = true) (he : hostEq a.data.toList b.data.toList = false) :
    Calls Tryd.prog 52 #[.pointer (some ⟨b1, 0, none⟩), .pointer (some ⟨b2, 0, none⟩)] w fun e w' => e = .returned (.bool false) ∧ Kp w w' := by
  have x0 : w.cell? ⟨b1, 1, none⟩ = some (.string a) := h1.cell 1
  have x1 : w.cell? ⟨b1, 2, none⟩ = some (.int .i64 pa) := h1.cell 2
  have x2 : w.cell? ⟨b2, 1, none⟩ = some (.string b) := h2.cell 1
  have x3 : w.cell? ⟨b2, 2, none⟩ = some (.int .i64 pb) := h2.cell 2
  have HUA := Lib.hid (fun w1 => upper_any a w1 ha la)
  have HUB := Lib.hid (fun w1 => upper_any b w1 hb lb)
  have HEF := Lib.hid (fun w1 => fold_any a b w1 ha la lb)
  rw [he] at HEF
  generalize hu : (⟨(Lib.toUpperA a.data.toList).toArray⟩ : ByteArray) = ua at HUA HEF
  generalize hv : (⟨(Lib.toUpperA b.data.toList).toArray⟩ : ByteArray) = ub at HUB HEF
  clear h1 h2 ha hb la lb he hu hv
  go_enter Tryd.func52, Tryd.ntmps52
  go_wp2_with fail
  refine wp_region_noPanic ?_
  refine wp_region_held_drew (S := fun w' => w'.cell? ⟨b1, 1, none⟩ = some (.string a) ∧ w'.cell? ⟨b1, 2, none⟩ = some (.int .i64 pa) ∧ w'.cell? ⟨b2, 1, none⟩ = some (.string b) ∧ w'.cell? ⟨b2, 2, none⟩ = some (.int .i64 pb)) (by kernel_rfl) ⟨x0, x1, x2, x3⟩ (fun hHeld => ?_)
  refine wpAnyH_take (i := 0) (v := ?_) (by simp only [List.getElem?_toArray, List.getElem?_cons_zero] <;> rfl) (by kernel_rfl) (by kernel_rfl) (by kernel_rfl) (fun _ _ _ h => h) (.inl ⟨by rfl, ?_⟩) (by assumption) ?_
  rotate_left 1
  · intro wz hSw; (try dsimp only at hSw); go_simp; (try with_reducible rfl)
  try simp only [Act.put, List.setIfInBounds_toArray, List.set_cons_zero, List.set_cons_succ]
  refine wpAnyH_take (i := 1) (v := ?_) (by simp only [List.getElem?_toArray, List.getElem?_cons_zero, List.getElem?_cons_succ] <;> rfl) (by kernel_rfl) (by kernel_rfl) (by kernel_rfl) (fun _ _ _ h => h) (.inl ⟨by rfl, ?_⟩) (by assumption) ?_
  rotate_left 1
  · intro wz hSw; (try dsimp only at hSw); go_simp; (try with_reducible rfl)
  try simp only [Act.put, List.setIfInBounds_toArray, List.set_cons_zero, List.set_cons_succ]
  refine wpAnyH_take (i := 2) (v := ?_) (by simp only [List.getElem?_toArray, List.getElem?_cons_zero, List.getElem?_cons_succ] <;> rfl) (by kernel_rfl) (by kernel_rfl) (by kernel_rfl) (fun _ _ _ h => h) (.inl ⟨by rfl, ?_⟩) (by assumption) ?_
  rotate_left 1
  · intro wz hSw; (try dsimp only at hSw); go_simp; (try with_reducible rfl)
  try simp only [Act.put, List.setIfInBounds_toArray, List.set_cons_zero, List.set_cons_succ]
  refine wpAnyH_take (i := 3) (v := ?_) (by simp only [List.getElem?_toArray, List.getElem?_cons_zero, List.getElem?_cons_succ] <;> rfl) (by kernel_rfl) (by kernel_rfl) (by kernel_rfl) (fun _ _ _ h => h) (.inl ⟨by rfl, ?_⟩) (by assumption) ?_
  rotate_left 1
  · intro wz hSw; (try dsimp only at hSw); go_simp; (try with_reducible rfl)
  try simp only [Act.put, List.setIfInBounds_toArray, List.set_cons_zero, List.set_cons_succ]
  refine wpAnyH_take (i := 5) (v := ?_) (by simp only [List.getElem?_toArray, List.getElem?_cons_zero, List.getElem?_cons_succ] <;> rfl) (by kernel_rfl) (by kernel_rfl) (by kernel_rfl) (fun _ _ _ h => h) (.inl ⟨by rfl, ?_⟩) (by assumption) ?_
  rotate_left 1
  · intro wz hSw; (try dsimp only at hSw); go_simp; (try with_reducible rfl)
  try simp only [Act.put, List.setIfInBounds_toArray, List.set_cons_zero, List.set_cons_succ]
  refine wpAnyH_take (i := 6) (v := ?_) (by simp only [List.getElem?_toArray, List.getElem?_cons_zero, List.getElem?_cons_succ] <;> rfl) (by kernel_rfl) (by kernel_rfl) (by kernel_rfl) (fun _ _ _ h => h) (.inl ⟨by rfl, ?_⟩) (by assumption) ?_
  rotate_left 1
  · intro wz hSw; (try dsimp only at hSw); go_simp; (try with_reducible rfl)
  try simp only [Act.put, List.setIfInBounds_toArray, List.set_cons_zero, List.set_cons_succ]
  refine wpAnyH_take (i := 7) (v := ?_) (by simp only [List.getElem?_toArray, List.getElem?_cons_zero, List.getElem?_cons_succ] <;> rfl) (by kernel_rfl) (by kernel_rfl) (by kernel_rfl) (fun _ _ _ h => h) (.inl ⟨by rfl, ?_⟩) (by assumption) ?_
  rotate_left 1
  · intro wz hSw; (try dsimp only at hSw); go_simp; (try with_reducible rfl)
  try simp only [Act.put, List.setIfInBounds_toArray, List.set_cons_zero, List.set_cons_succ]
  refine wpAnyH_take (i := 8) (v := ?_) (by simp only [List.getElem?_toArray, List.getElem?_cons_zero, List.getElem?_cons_succ] <;> rfl) (by kernel_rfl) (by kernel_rfl) (by kernel_rfl) (fun _ _ _ h => h) (.inl ⟨by rfl, ?_⟩) (by assumption) ?_
  rotate_left 1
  · intro wz hSw; (try dsimp only at hSw); go_simp; (try with_reducible rfl)
  try simp only [Act.put, List.setIfInBounds_toArray, List.set_cons_zero, List.set_cons_succ]
  refine wpAnyH_ready (rs := [4]) (by kernel_rfl) (by simp) ?_
  refine AllReadyH.cons (by simp only [List.getElem?_toArray, List.getElem?_cons_zero, List.getElem?_cons_succ] <;> rfl) (fun K hK => ?_) AllReadyH.nil
  go_simp
  refine (HUA.out _).mono ?_
  rintro e w1 ⟨rfl, hk⟩
  have Qw1 := Lib.hid (show Kp w w1 from (by first | exact hk | exact (Kp.refl w).drew.trans hk))
  have y0 := below_some Qw1.out x0
  have y1 := below_some Qw1.out x1
  have y2 := below_some Qw1.out x2
  have y3 := below_some Qw1.out x3
  clear hk
  go_wp2_with fail
  refine hK.out _ _ ⟨y0, y1, y2, y3⟩ (fun hHeld => ?_)
  clear hK K
  try simp only [Act.put, List.setIfInBounds_toArray, List.set_cons_zero, List.set_cons_succ]
  refine wpAnyH_ready (rs := [9]) (by kernel_rfl) (by simp) ?_
  refine AllReadyH.cons (by simp only [List.getElem?_toArray, List.getElem?_cons_zero, List.getElem?_cons_succ] <;> rfl) (fun K hK => ?_) AllReadyH.nil
  go_simp
  refine (HUB.out _).mono ?_
  rintro e w2 ⟨rfl, hk⟩
  have Qw2 := Lib.hid (show Kp w1 w2 from (by first | exact hk | exact (Kp.refl w1).drew.trans hk))
  have z0 := below_some Qw2.out y0
  have z1 := below_some Qw2.out y1
  have z2 := below_some Qw2.out y2
  have z3 := below_some Qw2.out y3
  clear hk
  go_wp2_with fail
  refine hK.out _ _ ⟨z0, z1, z2, z3⟩ (fun hHeld => ?_)
  clear hK K
  try simp only [Act.put, List.setIfInBounds_toArray, List.set_cons_zero, List.set_cons_succ]
  refine wpAnyH_ready (rs := [10]) (by kernel_rfl) (by simp) ?_
  refine AllReadyH.cons (by simp only [List.getElem?_toArray, List.getElem?_cons_zero, List.getElem?_cons_succ] <;> rfl) (fun K hK => ?_) AllReadyH.nil
  go_simp
  refine (HEF.out _).mono ?_
  rintro e w3 ⟨rfl, rfl⟩
  go_wp2_with fail
  refine hK.out _ _ ⟨z0, z1, z2, z3⟩ (fun hHeld => ?_)
  clear hK K
  try simp only [Act.put, List.setIfInBounds_toArray, List.set_cons_zero, List.set_cons_succ]
  refine wpAnyH_take (i := 11) (v := ?_) (by simp only [List.getElem?_toArray, List.getElem?_cons_zero, List.getElem?_cons_succ] <;> rfl) (by kernel_rfl) (by kernel_rfl) (by kernel_rfl) (fun _ _ _ h => h) (.inl ⟨by rfl, ?_⟩) (by assumption) ?_
  rotate_left 1
  · intro wz hSw; (try dsimp only at hSw); go_simp; (try with_reducible rfl)
  try simp only [Act.put, List.setIfInBounds_toArray, List.set_cons_zero, List.set_cons_succ]
  refine wpAnyH_take (i := 12) (v := undef) (by simp only [List.getElem?_toArray, List.getElem?_cons_zero, List.getElem?_cons_succ] <;> rfl) (by kernel_rfl) (by kernel_rfl) (by kernel_rfl) (fun _ _ _ h => h) (.inr ⟨by rfl, rfl⟩) (by assumption) ?_
  try simp only [Act.put, List.setIfInBounds_toArray, List.set_cons_zero, List.set_cons_succ]
  refine wpAnyH_take (i := 13) (v := undef) (by simp only [List.getElem?_toArray, List.getElem?_cons_zero, List.getElem?_cons_succ] <;> rfl) (by kernel_rfl) (by kernel_rfl) (by kernel_rfl) (fun _ _ _ h => h) (.inr ⟨by rfl, rfl⟩) (by assumption) ?_
  try simp only [Act.put, List.setIfInBounds_toArray, List.set_cons_zero, List.set_cons_succ]
  refine wpAnyH_take (i := 14) (v := undef) (by simp only [List.getElem?_toArray, List.getElem?_cons_zero, List.getElem?_cons_succ] <;> rfl) (by kernel_rfl) (by kernel_rfl) (by kernel_rfl) (fun _ _ _ h => h) (.inr ⟨by rfl, rfl⟩) (by assumption) ?_
  try simp only [Act.put, List.setIfInBounds_toArray, List.set_cons_zero, List.set_cons_succ]
  refine wpAnyH_take (i := 15) (v := undef) (by simp only [List.getElem?_toArray, List.getElem?_cons_zero, List.getElem?_cons_succ] <;> rfl) (by kernel_rfl) (by kernel_rfl) (by kernel_rfl) (fun _ _ _ h => h) (.inr ⟨by rfl, rfl⟩) (by assumption) ?_
  try simp only [Act.put, List.setIfInBounds_toArray, List.set_cons_zero, List.set_cons_succ]
  refine wpAnyH_take (i := 16) (v := undef) (by simp only [List.getElem?_toArray, List.getElem?_cons_zero, List.getElem?_cons_succ] <;> rfl) (by kernel_rfl) (by kernel_rfl) (by kernel_rfl) (fun _ _ _ h => h) (.inr ⟨by rfl, rfl⟩) (by assumption) ?_
  try simp only [Act.put, List.setIfInBounds_toArray, List.set_cons_zero, List.set_cons_succ]
  refine wpAnyH_take (i := 17) (v := undef) (by simp only [List.getElem?_toArray, List.getElem?_cons_zero, List.getElem?_cons_succ] <;> rfl) (by kernel_rfl) (by kernel_rfl) (by kernel_rfl) (fun _ _ _ h => h) (.inr ⟨by rfl, rfl⟩) (by assumption) ?_
  try simp only [Act.put, List.setIfInBounds_toArray, List.set_cons_zero, List.set_cons_succ]
  refine wpAnyH_take (i := 18) (v := undef) (by simp only [List.getElem?_toArray, List.getElem?_cons_zero, List.getElem?_cons_succ] <;> rfl) (by kernel_rfl) (by kernel_rfl) (by kernel_rfl) (fun _ _ _ h => h) (.inr ⟨by rfl, rfl⟩) (by assumption) ?_
  try simp only [Act.put, List.setIfInBounds_toArray, List.set_cons_zero, List.set_cons_succ]
  refine wpAnyH_take (i := 19) (v := undef) (by simp only [List.getElem?_toArray, List.getElem?_cons_zero, List.getElem?_cons_succ] <;> rfl) (by kernel_rfl) (by kernel_rfl) (by kernel_rfl) (fun _ _ _ h => h) (.inr ⟨by rfl, rfl⟩) (by assumption) ?_
  try simp only [Act.put, List.setIfInBounds_toArray, List.set_cons_zero, List.set_cons_succ]
  refine wpAnyH_take (i := 20) (v := undef) (by simp only [List.getElem?_toArray, List.getElem?_cons_zero, List.getElem?_cons_succ] <;> rfl) (by kernel_rfl) (by kernel_rfl) (by kernel_rfl) (fun _ _ _ h => h) (.inr ⟨by rfl, rfl⟩) (by assumption) ?_
  try simp only [Act.put, List.setIfInBounds_toArray, List.set_cons_zero, List.set_cons_succ]
  refine wpAnyH_take (i := 21) (v := ?_) (by simp only [List.getElem?_toArray, List.getElem?_cons_zero, List.getElem?_cons_succ] <;> rfl) (by kernel_rfl) (by kernel_rfl) (by kernel_rfl) (fun _ _ _ h => h) (.inl ⟨by rfl, ?_⟩) (by assumption) ?_
  rotate_left 1
  · intro wz hSw; (try dsimp only at hSw); go_simp; (try with_reducible rfl)
  try simp only [Act.put, List.setIfInBounds_toArray, List.set_cons_zero, List.set_cons_succ]
  refine wpAnyH_take (i := 22) (v := ?_) (by simp only [List.getElem?_toArray, List.getElem?_cons_zero, List.getElem?_cons_succ] <;> rfl) (by kernel_rfl) (by kernel_rfl) (by kernel_rfl) (fun _ _ _ h => h) (.inl ⟨by rfl, ?_⟩) (by assumption) ?_
  rotate_left 1
  · intro wz hSw; (try dsimp only at hSw); go_simp; (try with_reducible rfl)
  try simp only [Act.put, List.setIfInBounds_toArray, List.set_cons_zero, List.set_cons_succ]
  refine wpAnyH_done (by kernel_rfl) ?_ _
  refine NoPanic.normal ?_
  go_wp2_with fail
  go_ret
  exact ⟨rfl, Qw1.out.trans Qw2.out⟩

end Go.Proofs.YtmojecgmneodlaaDoor
