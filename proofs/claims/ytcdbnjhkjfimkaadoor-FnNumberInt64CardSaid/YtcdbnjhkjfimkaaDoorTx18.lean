/-
  compareBytes: the order of two rows of bytes (their lengths are held against each other as floats).
-/
import Derived.Test.YtcdbnjhkjfimkaaDoorTx17
import Derived.Laws.FloatArith
import Derived.Laws.Externs
namespace Go.Proofs.YtcdbnjhkjfimkaaDoor
open Go Go.RowKit

/-- The less one of two floats, as the entry of math.archMin reckons it. -/
def minR (x y : Nat) : Nat :=
  if FloatKind.f64.decode x == .infinity true || FloatKind.f64.decode y == .infinity true then FloatKind.f64.encode (.infinity true)
  else if (FloatKind.f64.decode x).isNaN || (FloatKind.f64.decode y).isNaN then 0x7FF8000000000001
  else if (FloatKind.f64.decode x).isZero && (FloatKind.f64.decode y).isZero then (if (FloatKind.f64.decode x).neg == true then x else y)
  else if (FloatKind.f64.decode x).order (FloatKind.f64.decode y) == some .lt then x else y
def fI (n : Nat) : Nat := floatOfInt .f64 (n : Int)
theorem minR_small : ∀ i : Fin 13, ∀ j : Fin 2, minR (fI i.val) (fI (11 + j.val)) = fI (min i.val (11 + j.val)) := by decide +kernel
theorem fI_int : ∀ i : Fin 13, floatToIntVal .f64 (fI i.val) .i64 = some (i.val : Int) := by decide +kernel
theorem archMin_run (x y : Nat) (w : World) : (callFunc 222 #[.float .f64 x, .float .f64 y]).run Tryd.prog w = .ok (.value (.float .f64 (minR x y))) w := by
  rw [run_callFunc_extern Tryd.func222 (by kernel_rfl) (by kernel_rfl) (by kernel_rfl) (e := Extern.MathDim.pick "math.archMin" true .lt) (by kernel_rfl)]
  rfl
set_option maxRecDepth 100000 in
theorem min_any (i j : Nat) (hi : i ≤ 12) (hj : j = 11 ∨ j = 12) (w : World) : Calls Tryd.prog 207 #[.float .f64 (fI i), .float .f64 (fI j)] w fun e w' => e = .returned (.float .f64 (fI (min i j))) ∧ w = w' := by
  have hr := archMin_run (fI i) (fI j)
  have hm : minR (fI i) (fI j) = fI (min i j) := by
    rcases hj with rfl | rfl
    · exact minR_small ⟨i, by omega⟩ 0
    · exact minR_small ⟨i, by omega⟩ 1
  rw [hm] at hr
  generalize fI (min i j) = fm at hr ⊢
  generalize fI i = a at hr ⊢
  generalize fI j = b at hr ⊢
  clear hm hi hj
  go_enter Tryd.func207, Tryd.ntmps207
  go_wp2
  go_ret
  exact ⟨rfl, rfl⟩
/-- The order of bytes. -/
def cmpL : List Int → List Int → Int
  | [], [] => 0
  | [], _ :: _ => -1
  | _ :: _, [] => 1
  | x :: xs, y :: ys => if x = y then cmpL xs ys else if x < y then -1 else 1
theorem cmp_drop (xs ys : List Int) (t : Nat) (h1 : t < xs.length) (h2 : t < ys.length) : cmpL (xs.drop t) (ys.drop t) = if xs.getD t 0 = ys.getD t 0 then cmpL (xs.drop (t + 1)) (ys.drop (t + 1)) else if xs.getD t 0 < ys.getD t 0 then -1 else 1 := by
  rw [List.drop_eq_getElem_cons h1, List.drop_eq_getElem_cons h2, cmpL, List.getD_eq_getElem?_getD, List.getElem?_eq_getElem h1, List.getD_eq_getElem?_getD, List.getElem?_eq_getElem h2]
  rfl
theorem and255 (v : Int) (h0 : 0 ≤ v) (h1 : v < 256) : bits .and .u8 v 255 = v := by
  obtain ⟨n, rfl⟩ := Int.eq_ofNat_of_zero_le h0
  have key : ∀ i : Fin 256, bits .and .u8 (i.val : Int) 255 = (i.val : Int) := by decide +kernel
  exact key ⟨n, by omega⟩
set_option maxRecDepth 100000 in
set_option maxHeartbeats 2000000 in
theorem compare_any (g1 g2 i j c1 c2 : Nat) (xs ys : List Int) (w : World) (hx : xs.length = i) (hy : ys.length = j) (hi0 : 1 ≤ i) (hi : i ≤ 12) (hj : j = 11 ∨ j = 12) (h1 : ∀ k, k < i → w.cell? ⟨g1, k, none⟩ = some (.int .u8 (xs.getD k 0))) (h2 : ∀ k, k < j → w.cell? ⟨g2, k, none⟩ = some (.int .u8 (ys.getD k 0))) (hbx : ∀ x ∈ xs, 0 ≤ x ∧ x < 256) (hby : ∀ x ∈ ys, 0 ≤ x ∧ x < 256) :
    Calls Tryd.prog 177 #[.slice (some ⟨g1, 0, none⟩) i c1, .slice (some ⟨g2, 0, none⟩) j c2] w fun e w' => e = .returned (.int .i64 (cmpL xs ys)) ∧ w = w' := by
  have CM := Lib.hid (min_any i j hi hj w)
  obtain ⟨m, hm⟩ : ∃ m, m = min i j := ⟨_, rfl⟩
  have hcv : ∀ w1 : World, (convert 265 3 (.float .f64 (fI m))).run Tryd.prog w1 = .ok (.int .i64 (m : Int)) w1 := fun w1 =>
    run_convert_float_int w1 _ _ .f64 .i64 (fI m) (m : Int) (by kernel_rfl) Tryd.underlying3 (fI_int ⟨m, by omega⟩)
  have ei : floatOfInt .f64 (i : Int) = fI i := rfl
  have ej : floatOfInt .f64 (j : Int) = fI j := rfl
  rw [← hm] at CM
  generalize fI m = fm at hcv CM
  generalize fI i = fi at ei CM
  generalize fI j = fj at ej CM
  have H1 := Lib.hid h1
  have H2 := Lib.hid h2
  have HX := Lib.hid hx
  have HY := Lib.hid hy
  have HM := Lib.hid hm
  have HBX := Lib.hid (fun k (hk : k < i) => (show 0 ≤ xs.getD k 0 ∧ xs.getD k 0 < 256 from by
    rw [List.getD_eq_getElem?_getD, List.getElem?_eq_getElem (by omega)]; exact hbx _ (List.getElem_mem _)))
  have HBY := Lib.hid (fun k (hk : k < j) => (show 0 ≤ ys.getD k 0 ∧ ys.getD k 0 < 256 from by
    rw [List.getD_eq_getElem?_getD, List.getElem?_eq_getElem (by omega)]; exact hby _ (List.getElem_mem _)))
  have i0 : (1 : Int) ≤ (i : Int) := by omega
  have i1 : (i : Int) ≤ 12 := by omega
  have j0 : (11 : Int) ≤ (j : Int) := by omega
  have j1 : (j : Int) ≤ 12 := by omega
  clear h1 h2 hx hy hm hbx hby hi0 hi hj
  go_enter Tryd.func177, Tryd.ntmps177
  go_wp2_with fail
  refine CM.out.mono ?_
  rintro e w1 ⟨rfl, rfl⟩
  clear CM
  go_wp2_with fail
  go_loopg [7] m (fun G s7 wr => ∃ t : Nat, m - t = G ∧ t ≤ m ∧ s7 = .int .i64 (t : Int) ∧ cmpL xs ys = cmpL (xs.drop t) (ys.drop t) ∧ w = wr)
  case atStart => exact ⟨0, rfl, Nat.zero_le _, rfl, rfl, rfl⟩
  case round =>
    obtain ⟨t, rfl, ht, rfl, hc, rfl⟩ := hrel
    have hmm := HM.out
    have t0 : (0 : Int) ≤ (t : Int) := by omega
    by_cases hlt : t < m
    · have t1 : (t : Int) < (m : Int) := by omega
      have t2 : (t : Int) < (i : Int) := by omega
      have t3 : (t : Int) < (j : Int) := by omega
      have cx := H1.out t (by omega)
      have cy := H2.out t (by omega)
      have bx := HBX.out t (by omega)
      have by' := HBY.out t (by omega)
      have hd := cmp_drop xs ys t (by have := HX.out; omega) (by have := HY.out; omega)
      rw [hd] at hc
      obtain ⟨x, hx⟩ : ∃ x, x = xs.getD t 0 := ⟨_, rfl⟩
      obtain ⟨y, hy⟩ : ∃ y, y = ys.getD t 0 := ⟨_, rfl⟩
      rw [← hx, ← hy] at hc
      rw [← hx] at cx bx
      rw [← hy] at cy by'
      have a1 := and255 x bx.1 bx.2
      have a2 := and255 y by'.1 by'.2
      have x0 : 0 ≤ x := bx.1
      have x1 : x < 256 := bx.2
      have y0 : 0 ≤ y := by'.1
      have y1 : y < 256 := by'.2
      have HLT := Lib.hid hlt
      by_cases hxy : x = y
      · rw [if_pos hxy] at hc
        subst hxy
        have HC := Lib.hid hc
        clear hc hx hy hd bx by' hlt ht hmm
        go_wp2
        go_roundg (m - (t + 1))
        case measure => have := HLT.out; omega
        case rel => exact ⟨t + 1, rfl, HLT.out, by go_num, HC.out, rfl⟩
      · rw [if_neg hxy] at hc
        have n1 : (x != y) = true := by simpa using hxy
        by_cases hxl : x < y
        · rw [if_pos hxl] at hc
          have HC := Lib.hid hc
          clear hc hx hy hd bx by' hlt ht hmm
          go_wp2
          go_ret
          exact ⟨by rw [HC.out] <;> rfl, rfl⟩
        · rw [if_neg hxl] at hc
          have HC := Lib.hid hc
          clear hc hx hy hd bx by' hlt ht hmm
          go_wp2
          go_ret
          exact ⟨by rw [HC.out] <;> rfl, rfl⟩
    · obtain rfl : t = m := by omega
      have hdx : (xs.drop t).length = i - t := by rw [List.length_drop, HX.out]
      have hdy : (ys.drop t).length = j - t := by rw [List.length_drop, HY.out]
      by_cases hij : i = j
      · have e0 : ((i : Int) == (j : Int)) = true := by simp; omega
        have HC := Lib.hid (show cmpL xs ys = 0 from by
          rw [hc, List.eq_nil_of_length_eq_zero (show (xs.drop t).length = 0 by omega), List.eq_nil_of_length_eq_zero (show (ys.drop t).length = 0 by omega)]; rfl)
        clear hc hdx hdy hij hlt ht hmm
        go_wp2
        go_ret
        exact ⟨by rw [HC.out] <;> rfl, rfl⟩
      · have e0 : ((i : Int) == (j : Int)) = false := by simp; omega
        by_cases hgt : j < i
        · have e1 : (j : Int) < (i : Int) := by omega
          have HC := Lib.hid (show cmpL xs ys = 1 from by
            rw [hc, List.eq_nil_of_length_eq_zero (show (ys.drop t).length = 0 by omega)]
            cases hq : xs.drop t with
            | nil => rw [hq] at hdx; simp at hdx; omega
            | cons a b => rfl)
          clear hc hdx hdy hij hlt ht hmm hgt
          go_wp2
          go_ret
          exact ⟨by rw [HC.out] <;> rfl, rfl⟩
        · have e1 : ¬ (j : Int) < (i : Int) := by omega
          have HC := Lib.hid (show cmpL xs ys = -1 from by
            rw [hc, List.eq_nil_of_length_eq_zero (show (xs.drop t).length = 0 by omega)]
            cases hq : ys.drop t with
            | nil => rw [hq] at hdy; simp at hdy; omega
            | cons a b => rfl)
          clear hc hdx hdy hij hlt ht hmm hgt
          go_wp2
          go_ret
          exact ⟨by rw [HC.out] <;> rfl, rfl⟩
end Go.Proofs.YtcdbnjhkjfimkaaDoor
