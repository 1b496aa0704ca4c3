/-
  The reference's reader: dlc.
-/
import Derived.Test.YtacmnibhdmeidaaDoorRdr3
namespace Go.Proofs.YtacmnibhdmeidaaDoor
open Go Go.RowKit

theorem clrP_nil {R : Nat} {p p' : Option Addr} {l l' : List Int} {t o t' o' : Bool} {X : List Int → List Int → Prop} {w w' : World} {n' c' : Nat} (hrd : Rd w' R p' n' c' l' t' o') (hg : w.grownBy w' (some R)) (hs : Sub p p') (hll : l'.length ≤ l.length) (h : (t' = true ∨ o' = true) ∨ t' = false ∧ o' = false ∧ t = false ∧ o = false ∧ X [] l') :
    ClrP R p l t o X w (.returned (.slice none 0 0)) w' :=
  ⟨none, 0, 0, p', n', c', l', t', o', [], rfl, hrd, hg, hs, Lib.BytesIn.nil _ _ _, rfl, Nat.le_refl _, Nat.zero_le _, Nat.zero_le _, (fun _ => rfl), hll, h⟩

set_option maxRecDepth 100000 in
set_option maxHeartbeats 4000000 in
theorem dlc_any (R : Nat) (p : Option Addr) (n c : Nat) (l : List Int) (t o big : Bool) (w : World) (h : Rd w R p n c l t o) :
    Calls Tryd.prog 27 #[.pointer (some ⟨R, 0, none⟩), .bool big] w (ClrP R p l t o (RdDlc big l) w) := by
  have C := Lib.hid (packed_any R p n c l t o w h)
  clear h
  go_enter Tryd.func27, Tryd.ntmps27
  go_wp2_with fail
  refine C.out.mono ?_
  rintro e w1 ⟨v, p1, n1, c1, l1, t1, o1, rfl, hrd, hg, hsub, hv0, hv1, hll, hres⟩
  have q1 : w1.cell? ⟨R, 1, none⟩ = some (.bool t1) := hrd.blk.cell 1
  have q2 : w1.cell? ⟨R, 2, none⟩ = some (.bool o1) := hrd.blk.cell 2
  have f2 := hrd.blk.frozen 2
  have HRD := Lib.hid hrd
  have HG := Lib.hid hg
  have HS := Lib.hid hsub
  have HLL := Lib.hid hll
  have HRES := Lib.hid hres
  clear hrd hg hsub hll hres C
  by_cases hn : v < 0
  · have g0 : decide (v < 0) = true := by simpa using hn
    obtain ⟨r1, r2⟩ := HRD.out.opened
    have x1 : (w1.setCell ⟨R, 2, none⟩ (.bool true)).cell? ⟨R, 1, none⟩ = some (.bool t1) := r1.blk.cell 1
    have x2 : (w1.setCell ⟨R, 2, none⟩ (.bool true)).cell? ⟨R, 2, none⟩ = some (.bool true) := r1.blk.cell 2
    have HR1 := Lib.hid r1
    have HR2 := Lib.hid r2
    clear r1 r2
    cases t1
    · go_wp2_with fail
      go_ret
      exact clrP_nil HR1.out (grown_trans HG.out HR2.out) HS.out HLL.out (.inl (.inr rfl))
    · go_wp2_with fail
      go_ret
      exact clrP_nil HR1.out (grown_trans HG.out HR2.out) HS.out HLL.out (.inl (.inr rfl))
  have g0 : decide (v < 0) = false := by simpa using hn
  by_cases hb : 1073741824 < v
  · have g1 : decide (1073741824 < v) = true := by simpa using hb
    obtain ⟨r1, r2⟩ := HRD.out.opened
    have x1 : (w1.setCell ⟨R, 2, none⟩ (.bool true)).cell? ⟨R, 1, none⟩ = some (.bool t1) := r1.blk.cell 1
    have x2 : (w1.setCell ⟨R, 2, none⟩ (.bool true)).cell? ⟨R, 2, none⟩ = some (.bool true) := r1.blk.cell 2
    have HR1 := Lib.hid r1
    have HR2 := Lib.hid r2
    clear r1 r2
    cases t1
    · go_wp2_with fail
      go_ret
      exact clrP_nil HR1.out (grown_trans HG.out HR2.out) HS.out HLL.out (.inl (.inr rfl))
    · go_wp2_with fail
      go_ret
      exact clrP_nil HR1.out (grown_trans HG.out HR2.out) HS.out HLL.out (.inl (.inr rfl))
  have g1 : decide (1073741824 < v) = false := by simpa using hb
  cases t1 with
  | true =>
    go_wp2_with fail
    go_ret
    exact clrP_nil HRD.out HG.out HS.out HLL.out (.inl (.inl rfl))
  | false =>
  cases o1 with
  | true =>
    go_wp2_with fail
    go_ret
    exact clrP_nil HRD.out HG.out HS.out HLL.out (.inl (.inr rfl))
  | false =>
  obtain ⟨rfl, rfl, hpk⟩ : t = false ∧ o = false ∧ RdPacked l v l1 := by
    rcases HRES.out with h1 | ⟨_, _, h3, h4, h5⟩
    · rcases h1 with h1 | h1 <;> cases h1
    · exact ⟨h3, h4, h5⟩
  have HPK := Lib.hid hpk
  obtain ⟨k, rfl⟩ := Int.eq_ofNat_of_zero_le (show 0 ≤ v by omega)
  have hk30 : k ≤ 1073741824 := by omega
  have HK30 := Lib.hid hk30
  clear hpk hn hb hk30
  by_cases hk0 : k = 0
  · subst hk0
    go_wp2_with fail
    go_ret
    exact clrP_nil HRD.out HG.out HS.out HLL.out (.inr ⟨rfl, rfl, rfl, rfl, 0, l1, HPK.out, by omega, by omega, .inl ⟨rfl, rfl, rfl⟩⟩)
  · have e0 : (((k : Nat) : Int) == 0) = false := by simp; omega
    have HK0 := Lib.hid hk0
    clear hk0
    go_wp2_with fail
    refine (clr_any R p1 n1 c1 l1 false false big w1 HRD.out).mono ?_
    rintro e w2 ⟨q, m, d, p2, n2, c2, l2, t2, o2, ys, rfl, hrd2, hg2, hsub2, hin2, hys2, hmd2, hdm2, hmm2, hq2, hll2, hres2⟩
    obtain ⟨j, hj⟩ : ∃ j, j = min m k := ⟨_, rfl⟩
    have hmin : min (m : Int) (k : Int) = (j : Int) := by rw [hj]; omega
    have hmin2 : (if (k : Int) < (m : Int) then (k : Int) else (m : Int)) = (j : Int) := by rw [hj]; split <;> omega
    have hjm : j ≤ m := by omega
    have hdm2' := hdm2
    unfold maxLen at hdm2'
    have j0 : (0 : Int) ≤ (j : Int) := by omega
    have j1 : (j : Int) ≤ (d : Int) := by omega
    have j2 : (d : Int) ≤ 9223372036854775807 := by omega
    have HP := Lib.hid (show ClrP R p l false false (RdDlc big l) w (.returned (.slice q j d)) w2 from
      ⟨q, j, d, p2, n2, c2, l2, t2, o2, ys.take j, rfl, hrd2, grown_trans HG.out hg2, HS.out.trans hsub2, bin_take hin2 hjm, by rw [List.length_take]; omega, by omega, hdm2, by omega, hq2, Nat.le_trans hll2 HLL.out, by
        rcases hres2 with h1 | ⟨h1, h2, _, _, h5⟩
        · exact .inl h1
        · refine .inr ⟨h1, h2, rfl, rfl, k, l1, HPK.out, by omega, by have := HK30.out; omega, .inr ⟨by have := HK0.out; omega, ys, h5, ?_⟩⟩
          show ys.take j = ys.take k
          rw [hj, List.take_eq_take_iff]; omega⟩)
    have hqq : q = none → j = 0 ∧ d = 0 := fun e => by have := hq2 e; exact ⟨by omega, this⟩
    clear hrd2 hg2 hsub2 hin2 hys2 hmd2 hdm2 hmm2 hq2 hll2 hres2 hj hdm2' hjm
    cases q with
    | none =>
      obtain ⟨rfl, rfl⟩ := hqq rfl
      go_wp2_with fail
      go_ret
      exact HP.out
    | some a =>
      go_wp2_with fail
      go_ret
      exact HP.out
end Go.Proofs.YtacmnibhdmeidaaDoor
