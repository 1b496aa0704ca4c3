/-
  FnNumberText: the law's own walk.
-/
import Derived.Test.YtcdbnjhkjfimkaaDoorTx6
namespace Go.Proofs.YtcdbnjhkjfimkaaDoor
open Go Go.RowKit

set_option maxRecDepth 100000 in
set_option maxHeartbeats 2000000 in
theorem fnNumberText_any (n : Int) (w : World) (ht : Tab w) (wf : (Lit.int .i64 n).wf = true) :
    Calls Tryd.prog 6 #[.int .i64 n] w fun e w' => e = .returned (.bool true) ∧ Kp w w' := by
  have hb : -9223372036854775808 ≤ n ∧ n ≤ 9223372036854775807 := by
    have e1 : IntKind.i64.min = -9223372036854775808 := rfl
    have e2 : IntKind.i64.max = 9223372036854775807 := rfl
    simp [Lit.wf, e1, e2] at wf
    omega
  have C := Lib.hid (numberOf_any n hb.1 hb.2 w ht)
  have HT := Lib.hid ht
  have HB := Lib.hid hb
  clear ht wf hb
  obtain ⟨N, hN⟩ : ∃ N, N = n.natAbs := ⟨_, rfl⟩
  have hNb : N ≤ 9223372036854775808 := by have := HB.out; omega
  have CD := Lib.hid (fun w1 => numberDecimal_any N (decide (n < 0)) hNb w1)
  have HN := Lib.hid hN
  by_cases hneg : n < 0
  · have dn : decide (n < 0) = true := decide_eq_true hneg
    rw [dn] at CD
    obtain ⟨U, hU⟩ : ∃ U, U = IntKind.u64.wrap n := ⟨_, rfl⟩
    have eu : IntKind.u64.wrap n = U := hU.symm
    have ev : IntKind.u64.wrap (-U) = (N : Int) := by
      rw [hU, IntKind.wrap_u64, IntKind.wrap_u64]
      have := HB.out
      omega
    have HDN := Lib.hid dn
    clear hN hNb hU dn
    go_enter Tryd.func6, Tryd.ntmps6
    go_wp2_with fail
    refine C.out.mono ?_
    rintro e w1 ⟨v, l, rfl, hown, hk, hl⟩
    obtain ⟨l1, l2, T, t1, t2, t3, t4⟩ := enc_text n l HB.out.1 HB.out.2 hl
    obtain ⟨g, d, rfl, _, _, hin⟩ := own_pos hown l1
    have CT := Lib.hid (numberText_of (some ⟨g, 0, none⟩) l.length d l T w1 hin rfl l1 (by omega) t3 (by omega) t1)
    have HK1 := Lib.hid hk
    have HTT := Lib.hid t2
    clear C hown hk hl hin l1 l2 t1 t2 t3 t4
    go_wp2_with fail
    refine CT.out.mono ?_
    rintro e w2 ⟨rfl, hk⟩
    have HK2 := Lib.hid (HK1.out.trans hk)
    clear hk CT
    go_wp2_with fail
    refine (CD.out w2).mono ?_
    rintro e w3 ⟨s, rfl, hs, hk⟩
    have HK3 := Lib.hid (HK2.out.trans hk)
    have hse : s = strOfNums T := by
      apply Go.WideShapes.bytes_inj
      rw [hs, HTT.out, HDN.out, HN.out]
    subst hse
    clear hk hs
    go_wp2_with fail
    refine (numberAwake_any w3 (HT.out.kp HK3.out)).mono ?_
    rintro e w4 ⟨rfl, hk⟩
    have HK4 := Lib.hid (HK3.out.trans hk)
    clear hk
    go_wp2_with fail
    go_ret
    exact ⟨rfl, HK4.out⟩
  · have dn : decide (n < 0) = false := decide_eq_false hneg
    obtain rfl : n = (N : Int) := by omega
    rw [dn] at CD
    have eu : IntKind.u64.wrap (N : Int) = (N : Int) := by
      rw [IntKind.wrap_u64]
      have := HB.out
      omega
    have HDN := Lib.hid dn
    have hneg2 : ¬ ((N : Int) < 0) := hneg
    clear hN hNb dn
    go_enter Tryd.func6, Tryd.ntmps6
    go_wp2_with fail
    refine C.out.mono ?_
    rintro e w1 ⟨v, l, rfl, hown, hk, hl⟩
    obtain ⟨l1, l2, T, t1, t2, t3, t4⟩ := enc_text (N : Int) l HB.out.1 HB.out.2 hl
    obtain ⟨g, d, rfl, _, _, hin⟩ := own_pos hown l1
    have CT := Lib.hid (numberText_of (some ⟨g, 0, none⟩) l.length d l T w1 hin rfl l1 (by omega) t3 (by omega) t1)
    have HK1 := Lib.hid hk
    have HTT := Lib.hid t2
    clear C hown hk hl hin l1 l2 t1 t2 t3 t4
    go_wp2_with fail
    refine CT.out.mono ?_
    rintro e w2 ⟨rfl, hk⟩
    have HK2 := Lib.hid (HK1.out.trans hk)
    clear hk CT
    go_wp2_with fail
    refine (CD.out w2).mono ?_
    rintro e w3 ⟨s, rfl, hs, hk⟩
    have HK3 := Lib.hid (HK2.out.trans hk)
    have hse : s = strOfNums T := by
      apply Go.WideShapes.bytes_inj
      rw [hs, HTT.out, HDN.out]
      rfl
    subst hse
    clear hk hs
    go_wp2_with fail
    refine (numberAwake_any w3 (HT.out.kp HK3.out)).mono ?_
    rintro e w4 ⟨rfl, hk⟩
    have HK4 := Lib.hid (HK3.out.trans hk)
    clear hk
    go_wp2_with fail
    go_ret
    exact ⟨rfl, HK4.out⟩
end Go.Proofs.YtcdbnjhkjfimkaaDoor
