/-
  The reference's reader: packed.
-/
import Derived.Test.YtacmnibhdmeidaaDoorRdr1
namespace Go.Proofs.YtacmnibhdmeidaaDoor
open Go Go.RowKit

/-- What packed gives: a number of a whole reader, or a reader that is torn or open. -/
def PackP (R : Nat) (p : Option Addr) (l : List Int) (t o : Bool) (w : World) (e : Ending) (w' : World) : Prop :=
  ∃ v p' n' c' l' t' o', e = .returned (.int .i64 v) ∧ Rd w' R p' n' c' l' t' o' ∧ w.grownBy w' (some R) ∧ Sub p p' ∧ -9223372036854775808 ≤ v ∧ v ≤ 9223372036854775807 ∧ l'.length ≤ l.length ∧
    ((t' = true ∨ o' = true) ∨ t' = false ∧ o' = false ∧ t = false ∧ o = false ∧ RdPacked l v l')
theorem w64_range (x : Int) : -9223372036854775808 ≤ w64 x ∧ w64 x ≤ 9223372036854775807 := by unfold w64 wrap64; omega
theorem and127r (v : Int) (h0 : 0 ≤ v) (h1 : v < 256) : bits .and .u8 v 127 = v % 128 := by
  obtain ⟨n, rfl⟩ := Int.eq_ofNat_of_zero_le h0
  have key : ∀ i : Fin 256, bits .and .u8 (i.val : Int) 127 = (i.val : Int) % 128 := by decide +kernel
  exact key ⟨n, by omega⟩
/-- One byte was taken. -/
theorem take_one {l ys l' : List Int} {kn : Nat} (h1 : (1 : Int) = kn) (h2 : kn ≤ l.length) (h3 : ys = l.take kn) (h4 : l' = l.drop kn) : ∃ b, l = b :: l' ∧ ys = [b] := by
  obtain rfl : kn = 1 := by omega
  cases l with
  | nil => simp at h2
  | cons b r => exact ⟨b, by rw [h4]; rfl, by rw [h3]; rfl⟩

set_option maxRecDepth 100000 in
set_option maxHeartbeats 4000000 in
theorem packed_any (R : Nat) (p : Option Addr) (n c : Nat) (l : List Int) (t o : Bool) (w : World) (h : Rd w R p n c l t o) :
    Calls Tryd.prog 28 #[.pointer (some ⟨R, 0, none⟩)] w (PackP R p l t o w) := by
  have C := Lib.hid (take_any R p n c l t o 1 w h)
  have hbyt := h.byt
  have HBY := Lib.hid hbyt
  clear h hbyt
  go_enter Tryd.func28, Tryd.ntmps28
  go_wp2_with fail
  refine C.out.mono ?_
  rintro e w1 ⟨q, m, d, p', n', c', l', t', ys, rfl, hrd, hg, hin, hys, hmd, hdm, hfar, hq, hyb, hll, hsz, hsub, hres⟩
  have c1 : w1.cell? ⟨R, 1, none⟩ = some (.bool t') := hrd.blk.cell 1
  have c2 : w1.cell? ⟨R, 2, none⟩ = some (.bool o) := hrd.blk.cell 2
  have f2 := hrd.blk.frozen 2
  have HRD := Lib.hid hrd
  have HG := Lib.hid hg
  have HLL := Lib.hid hll
  have HSUB := Lib.hid hsub
  clear hrd hg hmd hdm hfar hq hll hsz hsub C
  rcases hres with ⟨rfl, _, _⟩ | ⟨rfl, rfl, rfl, kn, hk, hkl, hy, hl'⟩
  · clear hin hys hyb
    go_wp2_with fail
    go_ret
    exact ⟨0, p', n', c', l', true, o, rfl, HRD.out, HG.out, HSUB.out, by omega, by omega, HLL.out, .inl (.inl rfl)⟩
  obtain ⟨b, hl, hyb1⟩ := take_one hk hkl hy hl'
  clear hy hl' hk hkl
  subst hyb1
  obtain rfl : m = 1 := hys.symm
  obtain ⟨g1, o1, rfl, hc⟩ := hin (by omega)
  have d0 : w1.cell? ⟨g1, o1, none⟩ = some (.int .u8 b) := hc 0 (by omega)
  have hb := HBY.out b (by rw [hl]; exact List.mem_cons_self ..)
  have b0 := hb.1
  have b1 := hb.2
  have hand := and127r b hb.1 hb.2
  obtain ⟨s, hs⟩ := Int.eq_ofNat_of_zero_le (show 0 ≤ b % 128 by omega)
  rw [hs] at hand
  have HL := Lib.hid hl
  have HSE := Lib.hid hs
  have hse : (b % 128).toNat = s := by rw [hs]; rfl
  have HSX := Lib.hid hse
  have hs128 : s < 128 := by omega
  have k0 : (0 : Int) ≤ (s : Int) := by omega
  have k1 : (s : Int) < 128 := by omega
  clear hc hin hys hyb hl hb hs hse
  by_cases h8 : 8 < s
  · have k2 : (8 : Int) < (s : Int) := by omega
    go_wp2_with fail
    go_quiet (fail)
    go_wp2_with fail
    go_ret
    obtain ⟨r1, r2⟩ := (HRD.out.kp ((Kp.refl w1).drewN _)).opened
    exact ⟨0, p', n', c', l', false, true, rfl, r1, grown_trans (grown_trans HG.out (grown_drewN (World.grownBy.refl w1 _) _)) r2, HSUB.out, by omega, by omega, HLL.out, .inl (.inr rfl)⟩
  · have k2 : (s : Int) ≤ 8 := by omega
    by_cases h128 : 128 ≤ b
    · have k3 : decide (128 ≤ b) = true := by simpa using h128
      go_wp2_with fail
      go_quiet (fail)
      go_wp2_with fail
      generalize hW : World.drewN w1 _ = w2 at *
      have HRD2 := Lib.hid (show Rd w2 R p' n' c' l' false false from hW ▸ HRD.out.kp ((Kp.refl w1).drewN _))
      have HG2 := Lib.hid (show w.grownBy w2 (some R) from hW ▸ grown_trans HG.out (grown_drewN (World.grownBy.refl w1 _) _))
      clear hW HRD HG d0 c1 c2 f2
      refine (number_any R p' n' c' l' false false s true w2 HRD2.out (by omega)).mono ?_
      rintro e w3 ⟨v, p2, n2, c2, l2, t2, rfl, hrd3, hg3, hsub3, hv0, hv1, hll3, hres3⟩
      have HRD3 := Lib.hid hrd3
      have HG3 := Lib.hid hg3
      have HLL3 := Lib.hid hll3
      have HSUB3 := Lib.hid hsub3
      have HRES3 := Lib.hid hres3
      clear hrd3 hg3 hll3 hres3 hsub3 HRD2
      go_wp2_with fail
      go_ret
      refine ⟨w64 (-(w64 v)), p2, n2, c2, l2, t2, false, rfl, HRD3.out, grown_trans HG2.out HG3.out, HSUB.out.trans HSUB3.out, (w64_range _).1, (w64_range _).2, Nat.le_trans HLL3.out HLL.out, ?_⟩
      rcases HRES3.out with h1 | ⟨h1, _, _, h2, h3, h4⟩
      · exact .inl (.inl h1)
      · refine .inr ⟨h1, rfl, rfl, rfl, b, l', HL.out, by rw [HSX.out]; omega, by rw [HSX.out]; exact h2, by rw [HSX.out]; exact h4, by rw [HSX.out, if_pos h128, h3]; rfl⟩
    · have k3 : decide (128 ≤ b) = false := by simpa using h128
      go_wp2_with fail
      go_quiet (fail)
      go_wp2_with fail
      generalize hW : World.drewN w1 _ = w2 at *
      have HRD2 := Lib.hid (show Rd w2 R p' n' c' l' false false from hW ▸ HRD.out.kp ((Kp.refl w1).drewN _))
      have HG2 := Lib.hid (show w.grownBy w2 (some R) from hW ▸ grown_trans HG.out (grown_drewN (World.grownBy.refl w1 _) _))
      clear hW HRD HG d0 c1 c2 f2
      refine (number_any R p' n' c' l' false false s true w2 HRD2.out (by omega)).mono ?_
      rintro e w3 ⟨v, p2, n2, c2, l2, t2, rfl, hrd3, hg3, hsub3, hv0, hv1, hll3, hres3⟩
      have HRD3 := Lib.hid hrd3
      have HG3 := Lib.hid hg3
      have HLL3 := Lib.hid hll3
      have HSUB3 := Lib.hid hsub3
      have HRES3 := Lib.hid hres3
      clear hrd3 hg3 hll3 hres3 hsub3 HRD2
      go_wp2_with fail
      go_ret
      refine ⟨w64 v, p2, n2, c2, l2, t2, false, rfl, HRD3.out, grown_trans HG2.out HG3.out, HSUB.out.trans HSUB3.out, (w64_range _).1, (w64_range _).2, Nat.le_trans HLL3.out HLL.out, ?_⟩
      rcases HRES3.out with h1 | ⟨h1, _, _, h2, h3, h4⟩
      · exact .inl (.inl h1)
      · refine .inr ⟨h1, rfl, rfl, rfl, b, l', HL.out, by rw [HSX.out]; omega, by rw [HSX.out]; exact h2, by rw [HSX.out]; exact h4, by rw [HSX.out, if_neg (by omega : ¬ 128 ≤ b), h3]; rfl⟩
end Go.Proofs.YtacmnibhdmeidaaDoor
