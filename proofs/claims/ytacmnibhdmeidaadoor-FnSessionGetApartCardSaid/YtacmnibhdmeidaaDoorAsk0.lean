/-
  sessionAsks: the steps of a reader that small numbers name (printed by mkask0.py).
-/
import Derived.Test.YtacmnibhdmeidaaDoorSes23
namespace Go.Proofs.YtacmnibhdmeidaaDoor
open Go Go.RowKit

/-- A step of a reader by small numbers. -/
structure LAsk where
  kd : Nat
  sz : Nat
  big : Bool
  comp : Bool
def LAsk.cells (s : LAsk) : List Value := [.int .u8 s.kd, .int .u8 s.sz, .bool s.big, .bool s.comp]
structure LAsk.Ok (s : LAsk) : Prop where
  kd : s.kd < 256
  sz : s.sz < 256
def ask4 (m : Nat) : Nat := if m % 4 = 0 then 1 else if m % 4 = 1 then 2 else if m % 4 = 2 then 4 else 8
def askOf (s : LAsk) : GStep := ⟨s.kd % 10, if s.kd % 10 = 4 ∨ s.kd % 10 = 5 then ask4 s.sz else s.sz, s.big, s.comp⟩
theorem askOf_le (s : LAsk) (h : s.Ok) : (askOf s).kind ≤ 9 ∧ (askOf s).size ≤ 255 ∧ ((askOf s).kind = 4 ∨ (askOf s).kind = 5 → 0 < (askOf s).size ∧ (askOf s).size ≤ 8) := by
  have h2 := h.sz
  unfold askOf ask4
  dsimp only
  refine ⟨by omega, ?_, fun hk => ?_⟩
  · split
    · split <;> (try split) <;> (try split) <;> omega
    · omega
  · rw [if_pos hk]
    split <;> (try split) <;> (try split) <;> omega
def AsksIn (w : World) (a : Option Addr) (n : Nat) (P : Nat → LAsk) : Prop := ∀ r, r < n → ∃ b o, a = some ⟨b, o, none⟩ ∧ (∀ j v, (P r).cells[j]? = some v → w.cell? ⟨b, o + r * 4 + j, none⟩ = some v) ∧ (P r).Ok
theorem AsksIn.kp {w w' : World} {a : Option Addr} {n : Nat} {P : Nat → LAsk} (h : AsksIn w a n P) (hk : Kp w w') : AsksIn w' a n P := fun r hr => by
  obtain ⟨b, o, h1, h2, h3⟩ := h r hr
  exact ⟨b, o, h1, fun j v hv => (hk.below.cell (p := ⟨b, o + r * 4 + j, none⟩) (heap_lt_of_cell (h2 j v hv))).trans (h2 j v hv), h3⟩
set_option maxRecDepth 100000 in
set_option maxHeartbeats 16000000 in
theorem sessionAsks_any (a : Option Addr) (n c : Nat) (P : Nat → LAsk) (w : World) (h : AsksIn w a n P) (hn : n ≤ 30) :
    Calls Tryd.prog 11 #[.slice a n c] w fun e w' => ∃ v, e = .returned v ∧ GColl w.heap.size w' n v (fun r => askOf (P r)) ∧ Kp w w' := by
  have i0 : (0 : Int) ≤ (n : Int) := by omega
  have i1 : (n : Int) ≤ 30 := by omega
  have HP := Lib.hid h
  have HN30 := Lib.hid hn
  clear h hn
  go_enter Tryd.func11, Tryd.ntmps11
  go_wp2_with fail
  go_loopg [3, 9] n (fun G v st wr => ∃ (k : Nat) (v0 : Value), G = n - k ∧ k ≤ n ∧ st = .int .i64 (k : Int) ∧ v0 = v ∧ GColl w.heap.size wr k v0 (fun r => askOf (P r)) ∧ Kp w wr)
  case atStart => exact ⟨0, _, rfl, Nat.zero_le _, rfl, rfl, Coll.start _, Kp.refl w⟩
  case round =>
    obtain ⟨k, v, rfl, hk, rfl, rfl, hcl, hkp⟩ := hrel
    have HCL := Lib.hid hcl
    have HK := Lib.hid hkp
    have HKN := Lib.hid hk
    have j0 : (0 : Int) ≤ (k : Int) := by omega
    have j1 : (k : Int) ≤ (n : Int) := by omega
    clear hkp hk hcl
    by_cases hlt : k < n
    · have j2 : (k : Int) < (n : Int) := by omega
      obtain ⟨b, o, rfl, hc, hok⟩ := HP.out.kp HK.out k hlt
      have HLT := Lib.hid hlt
      have HNX := Lib.hid (show (fun r => if r = k then askOf (P k) else askOf (P r)) = fun r => askOf (P r) from by funext r; by_cases e : r = k <;> simp [e])
      clear hlt
      generalize P k = s at hc hok HNX
      have a0 : (0 : Int) ≤ (s.kd : Int) := by omega
      have a1 : (s.kd : Int) < 256 := by have := hok.kd; omega
      have a2 : (0 : Int) ≤ (s.sz : Int) := by omega
      have a3 : (s.sz : Int) < 256 := by have := hok.sz; omega
      have d0 : wr.cell? ⟨b, o + k * 4, none⟩ = some (.int .u8 (s.kd : Int)) := hc 0 _ rfl
      have d1 : wr.cell? ⟨b, o + k * 4 + 1, none⟩ = some (.int .u8 (s.sz : Int)) := hc 1 _ rfl
      have d2 : wr.cell? ⟨b, o + k * 4 + 2, none⟩ = some (.bool s.big) := hc 2 _ rfl
      have d3 : wr.cell? ⟨b, o + k * 4 + 3, none⟩ = some (.bool s.comp) := hc 3 _ rfl
      clear hc hok
      obtain ⟨kk, hkk⟩ : ∃ kk, kk = s.kd % 10 := ⟨_, rfl⟩
      have e6 : (s.kd : Int) % 10 = (kk : Int) := by omega
      have HKK := Lib.hid hkk
      have hk10 : kk < 10 := by omega
      clear hkk
      by_cases h45 : kk = 4 ∨ kk = 5
      · have HE0 := Lib.hid (show askOf s = ⟨kk, ask4 s.sz, s.big, s.comp⟩ from by unfold askOf; rw [← HKK.out, if_pos h45])
        obtain h4 | h4 | h4 | h4 : s.sz % 4 = 0 ∨ s.sz % 4 = 1 ∨ s.sz % 4 = 2 ∨ s.sz % 4 = 3 := by omega
        · have e4 : (s.sz : Int) % 4 = 0 := by omega
          have HE := Lib.hid (show askOf s = ⟨kk, 1, s.big, s.comp⟩ from by rw [HE0.out]; unfold ask4; simp [h4])
          clear h4 HE0 hk10
          rcases h45 with rfl | rfl
          · go_upto_region 8 with fail
            generalize hX : (((wr.alloc (.cells #[.int .u8 (s.kd : Int), .int .u8 (s.sz : Int), .bool s.big, .bool s.comp] 80)).alloc (.cells #[.int .i64 4, .int .i64 (1 : Int), .bool s.big, .bool s.comp] 44)).alloc (.cells #[.int .i64 1, .int .i64 2, .int .i64 4, .int .i64 8] 3)) = X
            have hkX : Kp wr X := hX ▸ (((Kp.refl wr).alloc _).alloc _).alloc _
            have hB : Blk X (wr.heap.size + 1) 44 #[.int .i64 4, .int .i64 (1 : Int), .bool s.big, .bool s.comp] := by rw [← hX]; exact (Blk.new2 wr _ 44 _).alloc _
            clear hX d0 d1 d2 d3
            have f0 : X.cell? ⟨wr.heap.size + 1, 0, none⟩ = some (.int .i64 4) := hB.cell 0
            have f1 : X.cell? ⟨wr.heap.size + 1, 1, none⟩ = some (.int .i64 (1 : Int)) := hB.cell 1
            have f2 : X.cell? ⟨wr.heap.size + 1, 2, none⟩ = some (.bool s.big) := hB.cell 2
            have f3 : X.cell? ⟨wr.heap.size + 1, 3, none⟩ = some (.bool s.comp) := hB.cell 3
            obtain ⟨v', w5, hr, hcc, hkk⟩ := one_get w.heap.size X k v _ (Coll.kp HCL.out hkX) (by have := HK.out.size; have := hkX.size; omega) (askOf s) (by have := HLT.out; have := HN30.out; omega)
            have HR := Lib.hid (show (Builtin.append_ #[40, 40] 40 #[v, .slice (some ⟨X.heap.size, 0, none⟩) 1 1]).run Tryd.prog (X.alloc (.cells #[.int .i64 4, .int .i64 (1 : Int), .bool s.big, .bool s.comp] 44)) = .ok v' w5 from by rw [HE.out] at hr; exact hr)
            have HCC := Lib.hid (HNX.out ▸ hcc)
            have HKE := Lib.hid (hkk w (HK.out.trans hkX) (Nat.le_refl _))
            clear hr hcc hkk hB hkX
            go_wp2_with (at_builtin; refine Lib.wpList_append_run _ rfl _ _ _ _ rfl _ _ rfl rfl _ _ HR.out ?_)
            go_roundg (n - (k + 1))
            case measure => have := HLT.out; omega
            case rel => exact ⟨k + 1, v', rfl, HLT.out, by go_num, rfl, HCC.out, HKE.out⟩
          · go_upto_region 8 with fail
            generalize hX : (((wr.alloc (.cells #[.int .u8 (s.kd : Int), .int .u8 (s.sz : Int), .bool s.big, .bool s.comp] 80)).alloc (.cells #[.int .i64 5, .int .i64 (1 : Int), .bool s.big, .bool s.comp] 44)).alloc (.cells #[.int .i64 1, .int .i64 2, .int .i64 4, .int .i64 8] 3)) = X
            have hkX : Kp wr X := hX ▸ (((Kp.refl wr).alloc _).alloc _).alloc _
            have hB : Blk X (wr.heap.size + 1) 44 #[.int .i64 5, .int .i64 (1 : Int), .bool s.big, .bool s.comp] := by rw [← hX]; exact (Blk.new2 wr _ 44 _).alloc _
            clear hX d0 d1 d2 d3
            have f0 : X.cell? ⟨wr.heap.size + 1, 0, none⟩ = some (.int .i64 5) := hB.cell 0
            have f1 : X.cell? ⟨wr.heap.size + 1, 1, none⟩ = some (.int .i64 (1 : Int)) := hB.cell 1
            have f2 : X.cell? ⟨wr.heap.size + 1, 2, none⟩ = some (.bool s.big) := hB.cell 2
            have f3 : X.cell? ⟨wr.heap.size + 1, 3, none⟩ = some (.bool s.comp) := hB.cell 3
            obtain ⟨v', w5, hr, hcc, hkk⟩ := one_get w.heap.size X k v _ (Coll.kp HCL.out hkX) (by have := HK.out.size; have := hkX.size; omega) (askOf s) (by have := HLT.out; have := HN30.out; omega)
            have HR := Lib.hid (show (Builtin.append_ #[40, 40] 40 #[v, .slice (some ⟨X.heap.size, 0, none⟩) 1 1]).run Tryd.prog (X.alloc (.cells #[.int .i64 5, .int .i64 (1 : Int), .bool s.big, .bool s.comp] 44)) = .ok v' w5 from by rw [HE.out] at hr; exact hr)
            have HCC := Lib.hid (HNX.out ▸ hcc)
            have HKE := Lib.hid (hkk w (HK.out.trans hkX) (Nat.le_refl _))
            clear hr hcc hkk hB hkX
            go_wp2_with (at_builtin; refine Lib.wpList_append_run _ rfl _ _ _ _ rfl _ _ rfl rfl _ _ HR.out ?_)
            go_roundg (n - (k + 1))
            case measure => have := HLT.out; omega
            case rel => exact ⟨k + 1, v', rfl, HLT.out, by go_num, rfl, HCC.out, HKE.out⟩
        · have e4 : (s.sz : Int) % 4 = 1 := by omega
          have HE := Lib.hid (show askOf s = ⟨kk, 2, s.big, s.comp⟩ from by rw [HE0.out]; unfold ask4; simp [h4])
          clear h4 HE0 hk10
          rcases h45 with rfl | rfl
          · go_upto_region 8 with fail
            generalize hX : (((wr.alloc (.cells #[.int .u8 (s.kd : Int), .int .u8 (s.sz : Int), .bool s.big, .bool s.comp] 80)).alloc (.cells #[.int .i64 4, .int .i64 (2 : Int), .bool s.big, .bool s.comp] 44)).alloc (.cells #[.int .i64 1, .int .i64 2, .int .i64 4, .int .i64 8] 3)) = X
            have hkX : Kp wr X := hX ▸ (((Kp.refl wr).alloc _).alloc _).alloc _
            have hB : Blk X (wr.heap.size + 1) 44 #[.int .i64 4, .int .i64 (2 : Int), .bool s.big, .bool s.comp] := by rw [← hX]; exact (Blk.new2 wr _ 44 _).alloc _
            clear hX d0 d1 d2 d3
            have f0 : X.cell? ⟨wr.heap.size + 1, 0, none⟩ = some (.int .i64 4) := hB.cell 0
            have f1 : X.cell? ⟨wr.heap.size + 1, 1, none⟩ = some (.int .i64 (2 : Int)) := hB.cell 1
            have f2 : X.cell? ⟨wr.heap.size + 1, 2, none⟩ = some (.bool s.big) := hB.cell 2
            have f3 : X.cell? ⟨wr.heap.size + 1, 3, none⟩ = some (.bool s.comp) := hB.cell 3
            obtain ⟨v', w5, hr, hcc, hkk⟩ := one_get w.heap.size X k v _ (Coll.kp HCL.out hkX) (by have := HK.out.size; have := hkX.size; omega) (askOf s) (by have := HLT.out; have := HN30.out; omega)
            have HR := Lib.hid (show (Builtin.append_ #[40, 40] 40 #[v, .slice (some ⟨X.heap.size, 0, none⟩) 1 1]).run Tryd.prog (X.alloc (.cells #[.int .i64 4, .int .i64 (2 : Int), .bool s.big, .bool s.comp] 44)) = .ok v' w5 from by rw [HE.out] at hr; exact hr)
            have HCC := Lib.hid (HNX.out ▸ hcc)
            have HKE := Lib.hid (hkk w (HK.out.trans hkX) (Nat.le_refl _))
            clear hr hcc hkk hB hkX
            go_wp2_with (at_builtin; refine Lib.wpList_append_run _ rfl _ _ _ _ rfl _ _ rfl rfl _ _ HR.out ?_)
            go_roundg (n - (k + 1))
            case measure => have := HLT.out; omega
            case rel => exact ⟨k + 1, v', rfl, HLT.out, by go_num, rfl, HCC.out, HKE.out⟩
          · go_upto_region 8 with fail
            generalize hX : (((wr.alloc (.cells #[.int .u8 (s.kd : Int), .int .u8 (s.sz : Int), .bool s.big, .bool s.comp] 80)).alloc (.cells #[.int .i64 5, .int .i64 (2 : Int), .bool s.big, .bool s.comp] 44)).alloc (.cells #[.int .i64 1, .int .i64 2, .int .i64 4, .int .i64 8] 3)) = X
            have hkX : Kp wr X := hX ▸ (((Kp.refl wr).alloc _).alloc _).alloc _
            have hB : Blk X (wr.heap.size + 1) 44 #[.int .i64 5, .int .i64 (2 : Int), .bool s.big, .bool s.comp] := by rw [← hX]; exact (Blk.new2 wr _ 44 _).alloc _
            clear hX d0 d1 d2 d3
            have f0 : X.cell? ⟨wr.heap.size + 1, 0, none⟩ = some (.int .i64 5) := hB.cell 0
            have f1 : X.cell? ⟨wr.heap.size + 1, 1, none⟩ = some (.int .i64 (2 : Int)) := hB.cell 1
            have f2 : X.cell? ⟨wr.heap.size + 1, 2, none⟩ = some (.bool s.big) := hB.cell 2
            have f3 : X.cell? ⟨wr.heap.size + 1, 3, none⟩ = some (.bool s.comp) := hB.cell 3
            obtain ⟨v', w5, hr, hcc, hkk⟩ := one_get w.heap.size X k v _ (Coll.kp HCL.out hkX) (by have := HK.out.size; have := hkX.size; omega) (askOf s) (by have := HLT.out; have := HN30.out; omega)
            have HR := Lib.hid (show (Builtin.append_ #[40, 40] 40 #[v, .slice (some ⟨X.heap.size, 0, none⟩) 1 1]).run Tryd.prog (X.alloc (.cells #[.int .i64 5, .int .i64 (2 : Int), .bool s.big, .bool s.comp] 44)) = .ok v' w5 from by rw [HE.out] at hr; exact hr)
            have HCC := Lib.hid (HNX.out ▸ hcc)
            have HKE := Lib.hid (hkk w (HK.out.trans hkX) (Nat.le_refl _))
            clear hr hcc hkk hB hkX
            go_wp2_with (at_builtin; refine Lib.wpList_append_run _ rfl _ _ _ _ rfl _ _ rfl rfl _ _ HR.out ?_)
            go_roundg (n - (k + 1))
            case measure => have := HLT.out; omega
            case rel => exact ⟨k + 1, v', rfl, HLT.out, by go_num, rfl, HCC.out, HKE.out⟩
        · have e4 : (s.sz : Int) % 4 = 2 := by omega
          have HE := Lib.hid (show askOf s = ⟨kk, 4, s.big, s.comp⟩ from by rw [HE0.out]; unfold ask4; simp [h4])
          clear h4 HE0 hk10
          rcases h45 with rfl | rfl
          · go_upto_region 8 with fail
            generalize hX : (((wr.alloc (.cells #[.int .u8 (s.kd : Int), .int .u8 (s.sz : Int), .bool s.big, .bool s.comp] 80)).alloc (.cells #[.int .i64 4, .int .i64 (4 : Int), .bool s.big, .bool s.comp] 44)).alloc (.cells #[.int .i64 1, .int .i64 2, .int .i64 4, .int .i64 8] 3)) = X
            have hkX : Kp wr X := hX ▸ (((Kp.refl wr).alloc _).alloc _).alloc _
            have hB : Blk X (wr.heap.size + 1) 44 #[.int .i64 4, .int .i64 (4 : Int), .bool s.big, .bool s.comp] := by rw [← hX]; exact (Blk.new2 wr _ 44 _).alloc _
            clear hX d0 d1 d2 d3
            have f0 : X.cell? ⟨wr.heap.size + 1, 0, none⟩ = some (.int .i64 4) := hB.cell 0
            have f1 : X.cell? ⟨wr.heap.size + 1, 1, none⟩ = some (.int .i64 (4 : Int)) := hB.cell 1
            have f2 : X.cell? ⟨wr.heap.size + 1, 2, none⟩ = some (.bool s.big) := hB.cell 2
            have f3 : X.cell? ⟨wr.heap.size + 1, 3, none⟩ = some (.bool s.comp) := hB.cell 3
            obtain ⟨v', w5, hr, hcc, hkk⟩ := one_get w.heap.size X k v _ (Coll.kp HCL.out hkX) (by have := HK.out.size; have := hkX.size; omega) (askOf s) (by have := HLT.out; have := HN30.out; omega)
            have HR := Lib.hid (show (Builtin.append_ #[40, 40] 40 #[v, .slice (some ⟨X.heap.size, 0, none⟩) 1 1]).run Tryd.prog (X.alloc (.cells #[.int .i64 4, .int .i64 (4 : Int), .bool s.big, .bool s.comp] 44)) = .ok v' w5 from by rw [HE.out] at hr; exact hr)
            have HCC := Lib.hid (HNX.out ▸ hcc)
            have HKE := Lib.hid (hkk w (HK.out.trans hkX) (Nat.le_refl _))
            clear hr hcc hkk hB hkX
            go_wp2_with (at_builtin; refine Lib.wpList_append_run _ rfl _ _ _ _ rfl _ _ rfl rfl _ _ HR.out ?_)
            go_roundg (n - (k + 1))
            case measure => have := HLT.out; omega
            case rel => exact ⟨k + 1, v', rfl, HLT.out, by go_num, rfl, HCC.out, HKE.out⟩
          · go_upto_region 8 with fail
            generalize hX : (((wr.alloc (.cells #[.int .u8 (s.kd : Int), .int .u8 (s.sz : Int), .bool s.big, .bool s.comp] 80)).alloc (.cells #[.int .i64 5, .int .i64 (4 : Int), .bool s.big, .bool s.comp] 44)).alloc (.cells #[.int .i64 1, .int .i64 2, .int .i64 4, .int .i64 8] 3)) = X
            have hkX : Kp wr X := hX ▸ (((Kp.refl wr).alloc _).alloc _).alloc _
            have hB : Blk X (wr.heap.size + 1) 44 #[.int .i64 5, .int .i64 (4 : Int), .bool s.big, .bool s.comp] := by rw [← hX]; exact (Blk.new2 wr _ 44 _).alloc _
            clear hX d0 d1 d2 d3
            have f0 : X.cell? ⟨wr.heap.size + 1, 0, none⟩ = some (.int .i64 5) := hB.cell 0
            have f1 : X.cell? ⟨wr.heap.size + 1, 1, none⟩ = some (.int .i64 (4 : Int)) := hB.cell 1
            have f2 : X.cell? ⟨wr.heap.size + 1, 2, none⟩ = some (.bool s.big) := hB.cell 2
            have f3 : X.cell? ⟨wr.heap.size + 1, 3, none⟩ = some (.bool s.comp) := hB.cell 3
            obtain ⟨v', w5, hr, hcc, hkk⟩ := one_get w.heap.size X k v _ (Coll.kp HCL.out hkX) (by have := HK.out.size; have := hkX.size; omega) (askOf s) (by have := HLT.out; have := HN30.out; omega)
            have HR := Lib.hid (show (Builtin.append_ #[40, 40] 40 #[v, .slice (some ⟨X.heap.size, 0, none⟩) 1 1]).run Tryd.prog (X.alloc (.cells #[.int .i64 5, .int .i64 (4 : Int), .bool s.big, .bool s.comp] 44)) = .ok v' w5 from by rw [HE.out] at hr; exact hr)
            have HCC := Lib.hid (HNX.out ▸ hcc)
            have HKE := Lib.hid (hkk w (HK.out.trans hkX) (Nat.le_refl _))
            clear hr hcc hkk hB hkX
            go_wp2_with (at_builtin; refine Lib.wpList_append_run _ rfl _ _ _ _ rfl _ _ rfl rfl _ _ HR.out ?_)
            go_roundg (n - (k + 1))
            case measure => have := HLT.out; omega
            case rel => exact ⟨k + 1, v', rfl, HLT.out, by go_num, rfl, HCC.out, HKE.out⟩
        · have e4 : (s.sz : Int) % 4 = 3 := by omega
          have HE := Lib.hid (show askOf s = ⟨kk, 8, s.big, s.comp⟩ from by rw [HE0.out]; unfold ask4; simp [h4])
          clear h4 HE0 hk10
          rcases h45 with rfl | rfl
          · go_upto_region 8 with fail
            generalize hX : (((wr.alloc (.cells #[.int .u8 (s.kd : Int), .int .u8 (s.sz : Int), .bool s.big, .bool s.comp] 80)).alloc (.cells #[.int .i64 4, .int .i64 (8 : Int), .bool s.big, .bool s.comp] 44)).alloc (.cells #[.int .i64 1, .int .i64 2, .int .i64 4, .int .i64 8] 3)) = X
            have hkX : Kp wr X := hX ▸ (((Kp.refl wr).alloc _).alloc _).alloc _
            have hB : Blk X (wr.heap.size + 1) 44 #[.int .i64 4, .int .i64 (8 : Int), .bool s.big, .bool s.comp] := by rw [← hX]; exact (Blk.new2 wr _ 44 _).alloc _
            clear hX d0 d1 d2 d3
            have f0 : X.cell? ⟨wr.heap.size + 1, 0, none⟩ = some (.int .i64 4) := hB.cell 0
            have f1 : X.cell? ⟨wr.heap.size + 1, 1, none⟩ = some (.int .i64 (8 : Int)) := hB.cell 1
            have f2 : X.cell? ⟨wr.heap.size + 1, 2, none⟩ = some (.bool s.big) := hB.cell 2
            have f3 : X.cell? ⟨wr.heap.size + 1, 3, none⟩ = some (.bool s.comp) := hB.cell 3
            obtain ⟨v', w5, hr, hcc, hkk⟩ := one_get w.heap.size X k v _ (Coll.kp HCL.out hkX) (by have := HK.out.size; have := hkX.size; omega) (askOf s) (by have := HLT.out; have := HN30.out; omega)
            have HR := Lib.hid (show (Builtin.append_ #[40, 40] 40 #[v, .slice (some ⟨X.heap.size, 0, none⟩) 1 1]).run Tryd.prog (X.alloc (.cells #[.int .i64 4, .int .i64 (8 : Int), .bool s.big, .bool s.comp] 44)) = .ok v' w5 from by rw [HE.out] at hr; exact hr)
            have HCC := Lib.hid (HNX.out ▸ hcc)
            have HKE := Lib.hid (hkk w (HK.out.trans hkX) (Nat.le_refl _))
            clear hr hcc hkk hB hkX
            go_wp2_with (at_builtin; refine Lib.wpList_append_run _ rfl _ _ _ _ rfl _ _ rfl rfl _ _ HR.out ?_)
            go_roundg (n - (k + 1))
            case measure => have := HLT.out; omega
            case rel => exact ⟨k + 1, v', rfl, HLT.out, by go_num, rfl, HCC.out, HKE.out⟩
          · go_upto_region 8 with fail
            generalize hX : (((wr.alloc (.cells #[.int .u8 (s.kd : Int), .int .u8 (s.sz : Int), .bool s.big, .bool s.comp] 80)).alloc (.cells #[.int .i64 5, .int .i64 (8 : Int), .bool s.big, .bool s.comp] 44)).alloc (.cells #[.int .i64 1, .int .i64 2, .int .i64 4, .int .i64 8] 3)) = X
            have hkX : Kp wr X := hX ▸ (((Kp.refl wr).alloc _).alloc _).alloc _
            have hB : Blk X (wr.heap.size + 1) 44 #[.int .i64 5, .int .i64 (8 : Int), .bool s.big, .bool s.comp] := by rw [← hX]; exact (Blk.new2 wr _ 44 _).alloc _
            clear hX d0 d1 d2 d3
            have f0 : X.cell? ⟨wr.heap.size + 1, 0, none⟩ = some (.int .i64 5) := hB.cell 0
            have f1 : X.cell? ⟨wr.heap.size + 1, 1, none⟩ = some (.int .i64 (8 : Int)) := hB.cell 1
            have f2 : X.cell? ⟨wr.heap.size + 1, 2, none⟩ = some (.bool s.big) := hB.cell 2
            have f3 : X.cell? ⟨wr.heap.size + 1, 3, none⟩ = some (.bool s.comp) := hB.cell 3
            obtain ⟨v', w5, hr, hcc, hkk⟩ := one_get w.heap.size X k v _ (Coll.kp HCL.out hkX) (by have := HK.out.size; have := hkX.size; omega) (askOf s) (by have := HLT.out; have := HN30.out; omega)
            have HR := Lib.hid (show (Builtin.append_ #[40, 40] 40 #[v, .slice (some ⟨X.heap.size, 0, none⟩) 1 1]).run Tryd.prog (X.alloc (.cells #[.int .i64 5, .int .i64 (8 : Int), .bool s.big, .bool s.comp] 44)) = .ok v' w5 from by rw [HE.out] at hr; exact hr)
            have HCC := Lib.hid (HNX.out ▸ hcc)
            have HKE := Lib.hid (hkk w (HK.out.trans hkX) (Nat.le_refl _))
            clear hr hcc hkk hB hkX
            go_wp2_with (at_builtin; refine Lib.wpList_append_run _ rfl _ _ _ _ rfl _ _ rfl rfl _ _ HR.out ?_)
            go_roundg (n - (k + 1))
            case measure => have := HLT.out; omega
            case rel => exact ⟨k + 1, v', rfl, HLT.out, by go_num, rfl, HCC.out, HKE.out⟩
      · have b4 : ((kk : Int) == 4) = false := by simp; omega
        have b5 : ((kk : Int) == 5) = false := by simp; omega
        have HE := Lib.hid (show askOf s = ⟨kk, s.sz, s.big, s.comp⟩ from by unfold askOf; rw [← HKK.out, if_neg h45])
        clear h45 hk10
        go_upto_region 8 with fail
        generalize hX : ((wr.alloc (.cells #[.int .u8 (s.kd : Int), .int .u8 (s.sz : Int), .bool s.big, .bool s.comp] 80)).alloc (.cells #[.int .i64 (kk : Int), .int .i64 (s.sz : Int), .bool s.big, .bool s.comp] 44)) = X
        have hkX : Kp wr X := hX ▸ ((Kp.refl wr).alloc _).alloc _
        have hB : Blk X (wr.heap.size + 1) 44 #[.int .i64 (kk : Int), .int .i64 (s.sz : Int), .bool s.big, .bool s.comp] := by rw [← hX]; exact Blk.new2 wr _ _ _
        clear hX d0 d1 d2 d3
        have f0 : X.cell? ⟨wr.heap.size + 1, 0, none⟩ = some (.int .i64 (kk : Int)) := hB.cell 0
        have f1 : X.cell? ⟨wr.heap.size + 1, 1, none⟩ = some (.int .i64 (s.sz : Int)) := hB.cell 1
        have f2 : X.cell? ⟨wr.heap.size + 1, 2, none⟩ = some (.bool s.big) := hB.cell 2
        have f3 : X.cell? ⟨wr.heap.size + 1, 3, none⟩ = some (.bool s.comp) := hB.cell 3
        obtain ⟨v', w5, hr, hcc, hkk⟩ := one_get w.heap.size X k v _ (Coll.kp HCL.out hkX) (by have := HK.out.size; have := hkX.size; omega) (askOf s) (by have := HLT.out; have := HN30.out; omega)
        have HR := Lib.hid (show (Builtin.append_ #[40, 40] 40 #[v, .slice (some ⟨X.heap.size, 0, none⟩) 1 1]).run Tryd.prog (X.alloc (.cells #[.int .i64 (kk : Int), .int .i64 (s.sz : Int), .bool s.big, .bool s.comp] 44)) = .ok v' w5 from by rw [HE.out] at hr; exact hr)
        have HCC := Lib.hid (HNX.out ▸ hcc)
        have HKE := Lib.hid (hkk w (HK.out.trans hkX) (Nat.le_refl _))
        clear hr hcc hkk hB hkX
        go_wp2_with (at_builtin; refine Lib.wpList_append_run _ rfl _ _ _ _ rfl _ _ rfl rfl _ _ HR.out ?_)
        go_roundg (n - (k + 1))
        case measure => have := HLT.out; omega
        case rel => exact ⟨k + 1, v', rfl, HLT.out, by go_num, rfl, HCC.out, HKE.out⟩
    · obtain rfl : k = n := by have := HKN.out; omega
      clear hlt
      go_wp2_with fail
      go_ret
      exact ⟨v, rfl, HCL.out, HK.out⟩
end Go.Proofs.YtacmnibhdmeidaaDoor
