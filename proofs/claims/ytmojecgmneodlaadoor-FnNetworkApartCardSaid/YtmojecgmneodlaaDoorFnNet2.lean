/-
  FnNetworkApart, whatever comes in.
-/
import Derived.Test.YtmojecgmneodlaaDoorFnNet
import Derived.Lib.SmallJoins
namespace Go.Proofs.YtmojecgmneodlaaDoor
open Go Go.RowKit

set_option maxHeartbeats 2000000 in
theorem fnNet_z1 (pra a prb b : ByteArray) (pa pb : Int) (w : World) (m1 : pra.size ≤ maxLen) (m2 : a.size ≤ maxLen) (_m3 : prb.size ≤ maxLen) (_m4 : b.size ≤ maxLen) (h1 : (decide (pra.size ≤ 2147483647) && decide (a.size ≤ 2147483647)) = false) : Calls Tryd.prog 5 #[.agg #[.string pra, .string a, .int .i64 pa], .agg #[.string prb, .string b, .int .i64 pb]] w fun e w' => e = .returned (.bool true) ∧ Below w.heap.size w w' := by
  have Z1 := Lib.hid (fun w1 => zzFits1_any pra a pa m1 m2 w1)
  rw [h1] at Z1
  clear h1 m1 m2 _m3 _m4
  go_enter Tryd.func5, Tryd.ntmps5
  go_wp2_with fail
  generalize hX : (w.alloc (.cells #[.string pra, .string a, .int .i64 pa] 27)).alloc (.cells #[.string prb, .string b, .int .i64 pb] 27) = X
  obtain ⟨b1, hb1⟩ : ∃ b1, b1 = w.heap.size := ⟨_, rfl⟩
  obtain ⟨b2, hb2⟩ : ∃ b2, b2 = w.heap.size + 1 := ⟨_, rfl⟩
  have HB1 := Lib.hid (show Blk X b1 27 #[.string pra, .string a, .int .i64 pa] from by rw [hb1, ← hX]; exact (Blk.new w _ _).alloc _)
  have HB2 := Lib.hid (show Blk X b2 27 #[.string prb, .string b, .int .i64 pb] from by rw [hb2, ← hX]; exact Blk.new2 w _ _ _)
  have HKX := Lib.hid (show Kp w X from hX ▸ ((Kp.refl w).alloc _).alloc _)
  rw [← hb2, ← hb1]
  clear hX hb1 hb2
  refine (Z1.out _).mono ?_
  rintro e w1 ⟨rfl, hk⟩
  have K1 := Lib.hid (show Kp X w1 from hk)
  clear hk
  go_wp2_with fail
  go_ret
  exact ⟨rfl, HKX.out.trans K1.out⟩
set_option maxHeartbeats 2000000 in
theorem fnNet_z2 (pra a prb b : ByteArray) (pa pb : Int) (w : World) (m1 : pra.size ≤ maxLen) (m2 : a.size ≤ maxLen) (m3 : prb.size ≤ maxLen) (m4 : b.size ≤ maxLen) (h1 : (decide (pra.size ≤ 2147483647) && decide (a.size ≤ 2147483647)) = true) (h2 : (decide (prb.size ≤ 2147483647) && decide (b.size ≤ 2147483647)) = false) : Calls Tryd.prog 5 #[.agg #[.string pra, .string a, .int .i64 pa], .agg #[.string prb, .string b, .int .i64 pb]] w fun e w' => e = .returned (.bool true) ∧ Below w.heap.size w w' := by
  have Z1 := Lib.hid (fun w1 => zzFits1_any pra a pa m1 m2 w1)
  rw [h1] at Z1
  have Z2 := Lib.hid (fun w1 => zzFits1_any prb b pb m3 m4 w1)
  rw [h2] at Z2
  clear h1 h2 m1 m2 m3 m4
  go_enter Tryd.func5, Tryd.ntmps5
  go_wp2_with fail
  generalize hX : (w.alloc (.cells #[.string pra, .string a, .int .i64 pa] 27)).alloc (.cells #[.string prb, .string b, .int .i64 pb] 27) = X
  obtain ⟨b1, hb1⟩ : ∃ b1, b1 = w.heap.size := ⟨_, rfl⟩
  obtain ⟨b2, hb2⟩ : ∃ b2, b2 = w.heap.size + 1 := ⟨_, rfl⟩
  have HB1 := Lib.hid (show Blk X b1 27 #[.string pra, .string a, .int .i64 pa] from by rw [hb1, ← hX]; exact (Blk.new w _ _).alloc _)
  have HB2 := Lib.hid (show Blk X b2 27 #[.string prb, .string b, .int .i64 pb] from by rw [hb2, ← hX]; exact Blk.new2 w _ _ _)
  have HKX := Lib.hid (show Kp w X from hX ▸ ((Kp.refl w).alloc _).alloc _)
  rw [← hb2, ← hb1]
  clear hX hb1 hb2
  refine (Z1.out _).mono ?_
  rintro e w1 ⟨rfl, hk⟩
  have K1 := Lib.hid (show Kp X w1 from hk)
  have u0 : w1.cell? ⟨b2, 0, none⟩ = some (.string prb) := (HB2.out.kp K1.out).cell 0
  have u1 : w1.cell? ⟨b2, 1, none⟩ = some (.string b) := (HB2.out.kp K1.out).cell 1
  have u2 : w1.cell? ⟨b2, 2, none⟩ = some (.int .i64 pb) := (HB2.out.kp K1.out).cell 2
  clear hk
  go_wp2_with fail
  refine (Z2.out _).mono ?_
  rintro e w2 ⟨rfl, hk⟩
  have K2 := Lib.hid (K1.out.trans (show Kp w1 w2 from hk))
  clear hk u0 u1 u2
  go_wp2_with fail
  go_ret
  exact ⟨rfl, HKX.out.trans K2.out⟩
set_option maxHeartbeats 2000000 in
theorem fnNet_long (pra a prb b : ByteArray) (pa pb : Int) (w : World) (m1 : pra.size ≤ maxLen) (m2 : a.size ≤ maxLen) (m3 : prb.size ≤ maxLen) (m4 : b.size ≤ maxLen) (h1 : (decide (pra.size ≤ 2147483647) && decide (a.size ≤ 2147483647)) = true) (h2 : (decide (prb.size ≤ 2147483647) && decide (b.size ≤ 2147483647)) = true) (h3 : ¬ (a.size ≤ 300 ∧ b.size ≤ 300)) : Calls Tryd.prog 5 #[.agg #[.string pra, .string a, .int .i64 pa], .agg #[.string prb, .string b, .int .i64 pb]] w fun e w' => e = .returned (.bool true) ∧ Below w.heap.size w w' := by
  have Z1 := Lib.hid (fun w1 => zzFits1_any pra a pa m1 m2 w1)
  rw [h1] at Z1
  have Z2 := Lib.hid (fun w1 => zzFits1_any prb b pb m3 m4 w1)
  rw [h2] at Z2
  have HS := Lib.hid (show shortL (fun r => if r = 0 then a else b) 2 = false from by simp [shortL]; omega)
  have HM := Lib.hid (show ∀ r, r < 2 → ((fun r => if r = 0 then a else b) r).size ≤ maxLen from fun r _ => by show (if r = 0 then a else b).size ≤ maxLen; split <;> assumption)
  clear h1 h2 h3 m1 m2 m3 m4
  go_enter Tryd.func5, Tryd.ntmps5
  go_wp2_with fail
  generalize hX : (w.alloc (.cells #[.string pra, .string a, .int .i64 pa] 27)).alloc (.cells #[.string prb, .string b, .int .i64 pb] 27) = X
  obtain ⟨b1, hb1⟩ : ∃ b1, b1 = w.heap.size := ⟨_, rfl⟩
  obtain ⟨b2, hb2⟩ : ∃ b2, b2 = w.heap.size + 1 := ⟨_, rfl⟩
  have HB1 := Lib.hid (show Blk X b1 27 #[.string pra, .string a, .int .i64 pa] from by rw [hb1, ← hX]; exact (Blk.new w _ _).alloc _)
  have HB2 := Lib.hid (show Blk X b2 27 #[.string prb, .string b, .int .i64 pb] from by rw [hb2, ← hX]; exact Blk.new2 w _ _ _)
  have HKX := Lib.hid (show Kp w X from hX ▸ ((Kp.refl w).alloc _).alloc _)
  rw [← hb2, ← hb1]
  clear hX hb1 hb2
  refine (Z1.out _).mono ?_
  rintro e w1 ⟨rfl, hk⟩
  have K1 := Lib.hid (show Kp X w1 from hk)
  have u0 : w1.cell? ⟨b2, 0, none⟩ = some (.string prb) := (HB2.out.kp K1.out).cell 0
  have u1 : w1.cell? ⟨b2, 1, none⟩ = some (.string b) := (HB2.out.kp K1.out).cell 1
  have u2 : w1.cell? ⟨b2, 2, none⟩ = some (.int .i64 pb) := (HB2.out.kp K1.out).cell 2
  clear hk
  go_wp2_with fail
  refine (Z2.out _).mono ?_
  rintro e w2 ⟨rfl, hk⟩
  have K2 := Lib.hid (K1.out.trans (show Kp w1 w2 from hk))
  clear hk u0 u1 u2
  have u1 : w2.cell? ⟨b1, 1, none⟩ = some (.string a) := (HB1.out.kp K2.out).cell 1
  have u2 : w2.cell? ⟨b2, 1, none⟩ = some (.string b) := (HB2.out.kp K2.out).cell 1
  go_wp2_with fail
  generalize hW : w2.alloc (.cells #[.string a, .string b] 9) = W3
  have hB3 : Blk W3 w2.heap.size 9 #[.string a, .string b] := hW ▸ Blk.new w2 _ _
  have hk3 : Kp w2 W3 := hW ▸ (Kp.refl w2).alloc _
  have CS := Lib.hid (configShort_any w2.heap.size 2 2 (fun r => if r = 0 then a else b) W3 (fun r hr => by
    rcases (show r = 0 ∨ r = 1 by omega) with rfl | rfl
    · exact hB3.cell 0
    · exact hB3.cell 1) HM.out (by omega))
  rw [HS.out] at CS
  have KW3 := Lib.hid (HKX.out.trans (K2.out.trans hk3))
  clear hW hB3 hk3 u1 u2
  refine CS.out.mono ?_
  rintro e wx ⟨rfl, rfl⟩
  clear CS
  go_wp2_with fail
  refine (configAwake_any _).mono ?_
  rintro e w4 ⟨rfl, hk⟩
  have K4 := Lib.hid (KW3.out.trans hk)
  clear hk
  go_wp2_with fail
  go_ret
  exact ⟨rfl, K4.out⟩
theorem fnNet_any (pra a prb b : ByteArray) (pa pb : Int) (w : World) (m1 : pra.size ≤ maxLen) (m2 : a.size ≤ maxLen) (m3 : prb.size ≤ maxLen) (m4 : b.size ≤ maxLen) (p0 : -9223372036854775808 ≤ pa) (p1 : pa ≤ 9223372036854775807) (p2 : -9223372036854775808 ≤ pb) (p3 : pb ≤ 9223372036854775807) (ht : Tab w) : Calls Tryd.prog 5 #[.agg #[.string pra, .string a, .int .i64 pa], .agg #[.string prb, .string b, .int .i64 pb]] w fun e w' => e = .returned (.bool true) ∧ Below w.heap.size w w' := by
  cases h1 : (decide (pra.size ≤ 2147483647) && decide (a.size ≤ 2147483647))
  · exact fnNet_z1 pra a prb b pa pb w m1 m2 m3 m4 h1
  cases h2 : (decide (prb.size ≤ 2147483647) && decide (b.size ≤ 2147483647))
  · exact fnNet_z2 pra a prb b pa pb w m1 m2 m3 m4 h1 h2
  by_cases h3 : a.size ≤ 300 ∧ b.size ≤ 300
  · simp only [Bool.and_eq_true, decide_eq_true_eq] at h1 h2
    by_cases e1 : a = b
    · subst e1
      by_cases e2 : pa = pb
      · subst e2
        exact fnNet_same pra a prb pa w h1.1 h2.1 h3.1 p0 p1 ht
      · exact fnNet_port pra a prb pa pb w h1.1 h2.1 h3.1 p0 p1 p2 p3 ht e2
    · exact fnNet_addr pra a prb b pa pb w h1.1 h2.1 h3.1 h3.2 p0 p1 p2 p3 ht e1
  · exact fnNet_long pra a prb b pa pb w m1 m2 m3 m4 h1 h2 h3

section
open Go.Joins Go.ChangeShapes Go.WideShapes Go.Deep
variable {H : Type} {enc : TypeId × Value → H} {w : World} {base : Nat} {held : Bool}
set_option maxRecDepth 100000 in
/-- A server by value, opened. -/
theorem server_open {r : Reach} {b0 : Nat} {v : Value} {d : DataW H} {p : List MemPlace} (hv : Value.okWide Tryd.prog w r b0 27 v) (h : DataW.Trod enc Tryd.prog w base (fun _ => true) held 27 v d p) :
    ∃ (pr a : ByteArray) (n : Int), v = .agg #[.string pr, .string a, .int .i64 n] ∧ pr.size ≤ maxLen ∧ a.size ≤ maxLen ∧ -9223372036854775808 ≤ n ∧ n ≤ 9223372036854775807 := by
  obtain ⟨v0, v1, v2, y0, y1, y2, n, rfl, _, _, t0, t1, t2⟩ := open_agg3 Tryd.underlying27 (by kernel_rfl) (by kernel_rfl) hv h
  obtain ⟨s0, h0, _, z0⟩ := DataW.trod_string Tryd.underlying9 t0
  obtain ⟨s1, h1, _, z1⟩ := DataW.trod_string Tryd.underlying9 t1
  obtain ⟨k, h2, _, wf⟩ := DataW.trod_int Tryd.underlying3 t2
  obtain rfl : v0 = .string s0 := by simpa using h0
  obtain rfl : v1 = .string s1 := by simpa using h1
  obtain rfl : v2 = .int .i64 k := by simpa using h2
  have e1 : IntKind.i64.min = -9223372036854775808 := rfl
  have e2 : IntKind.i64.max = 9223372036854775807 := rfl
  simp [Lit.wf, e1, e2] at wf
  exact ⟨s0, s1, k, rfl, z0, z1, by omega, by omega⟩
end
end Go.Proofs.YtmojecgmneodlaaDoor
