/-
  The tests of a number's bytes, and its pairs: _isZero, _isPosInf, _isNegInf, _isPositive, isValid, _fromLnxFmt.
-/
import Derived.Test.YtcdbnjhkjfimkaaDoorTx0
namespace Go.Proofs.YtcdbnjhkjfimkaaDoor
open Go Go.RowKit

theorem xor255 (v : Int) (h0 : 0 ≤ v) (h1 : v < 256) : bits .xor .u8 v 255 = 255 - v := by
  obtain ⟨n, rfl⟩ := Int.eq_ofNat_of_zero_le h0
  have key : ∀ i : Fin 256, bits .xor .u8 (i.val : Int) 255 = 255 - (i.val : Int) := by decide +kernel
  exact key ⟨n, by omega⟩
abbrev BoolPost (b : Bool) (w : World) (e : Ending) (w' : World) : Prop := e = .returned (.bool b) ∧ w = w'

set_option maxRecDepth 100000 in
theorem isZero_no (g n c : Nat) (x : Int) (w : World) (h0 : w.cell? ⟨g, 0, none⟩ = some (.int .u8 x)) (hx : x ≠ 128) (hn : 2 ≤ n) :
    Calls Tryd.prog 175 #[.slice (some ⟨g, 0, none⟩) n c] w (BoolPost false w) := by
  have e0 : (x == 128) = false := by simp; omega
  have i0 : (2 : Int) ≤ (n : Int) := by omega
  clear hx hn
  go_enter Tryd.func175, Tryd.ntmps175
  go_wp2
  go_ret
  exact ⟨rfl, rfl⟩
set_option maxRecDepth 100000 in
theorem isPosInf_no (g n c : Nat) (x : Int) (w : World) (h0 : w.cell? ⟨g, 0, none⟩ = some (.int .u8 x)) (hx : x ≠ 255) (hn : 2 ≤ n) :
    Calls Tryd.prog 181 #[.slice (some ⟨g, 0, none⟩) n c] w (BoolPost false w) := by
  have e0 : (x == 255) = false := by simp; omega
  have i0 : (2 : Int) ≤ (n : Int) := by omega
  clear hx
  by_cases h2 : n = 2
  · have e1 : ((n : Int) == 2) = true := by simp; omega
    clear h2 hn
    go_enter Tryd.func181, Tryd.ntmps181
    go_wp2
    go_ret
    exact ⟨rfl, rfl⟩
  · have e1 : ((n : Int) == 2) = false := by simp; omega
    clear h2 hn
    go_enter Tryd.func181, Tryd.ntmps181
    go_wp2
    go_ret
    exact ⟨rfl, rfl⟩
set_option maxRecDepth 100000 in
theorem isNegInf_no (g n c : Nat) (x : Int) (w : World) (h0 : w.cell? ⟨g, 0, none⟩ = some (.int .u8 x)) (hn : 2 ≤ n) :
    Calls Tryd.prog 182 #[.slice (some ⟨g, 0, none⟩) n c] w (BoolPost false w) := by
  have i0 : (2 : Int) ≤ (n : Int) := by omega
  have e1 : ((n : Int) == 1) = false := by simp; omega
  clear hn
  by_cases hx : x = 0
  · have e0 : (x == 0) = true := by simp; omega
    clear hx
    go_enter Tryd.func182, Tryd.ntmps182
    go_wp2
    go_ret
    exact ⟨rfl, rfl⟩
  · have e0 : (x == 0) = false := by simp; omega
    clear hx
    go_enter Tryd.func182, Tryd.ntmps182
    go_wp2
    go_ret
    exact ⟨rfl, rfl⟩
set_option maxRecDepth 100000 in
theorem isPositive_yes (g n c : Nat) (x : Int) (w : World) (h0 : w.cell? ⟨g, 0, none⟩ = some (.int .u8 x)) (hx : 128 ≤ x) (hx1 : x < 256) (hn : 2 ≤ n) :
    Calls Tryd.prog 185 #[.slice (some ⟨g, 0, none⟩) n c] w (BoolPost true w) := by
  have e0 := and128_hi x hx hx1
  have i0 : (2 : Int) ≤ (n : Int) := by omega
  clear hx hx1 hn
  go_enter Tryd.func185, Tryd.ntmps185
  go_wp2
  go_ret
  exact ⟨rfl, rfl⟩
set_option maxRecDepth 100000 in
theorem isPositive_no (g n c : Nat) (x : Int) (w : World) (h0 : w.cell? ⟨g, 0, none⟩ = some (.int .u8 x)) (hx : 0 ≤ x) (hx1 : x < 128) (hn : 2 ≤ n) :
    Calls Tryd.prog 185 #[.slice (some ⟨g, 0, none⟩) n c] w (BoolPost false w) := by
  have e0 := and128_lo x hx hx1
  have i0 : (2 : Int) ≤ (n : Int) := by omega
  clear hx hx1 hn
  go_enter Tryd.func185, Tryd.ntmps185
  go_wp2
  go_ret
  exact ⟨rfl, rfl⟩

/-- The pairs of a number: all of 0 to 99, the first and the last one not 0. -/
def Pairs (pv : List Int) : Prop := (∀ x ∈ pv, 0 ≤ x ∧ x ≤ 99) ∧ 1 ≤ pv.length ∧ pv.length ≤ 20 ∧ 1 ≤ pv.getD 0 0 ∧ 1 ≤ pv.getD (pv.length - 1) 0
theorem Pairs.at {pv : List Int} (h : Pairs pv) (j : Nat) (hj : j < pv.length) : 0 ≤ pv.getD j 0 ∧ pv.getD j 0 ≤ 99 := by
  rw [List.getD_eq_getElem?_getD, List.getElem?_eq_getElem hj]
  exact h.1 _ (List.getElem_mem hj)
def NumIs (w : World) (g n : Nat) (neg : Bool) (P : Int) (pv : List Int) : Prop := n = (numB neg P pv).length ∧ ∀ i, i < n → w.cell? ⟨g, i, none⟩ = some (.int .u8 ((numB neg P pv).getD i 0))
theorem NumIs.pair {w : World} {g n : Nat} {neg : Bool} {P : Int} {pv : List Int} (h : NumIs w g n neg P pv) (j : Nat) (hj : j < pv.length) : w.cell? ⟨g, 1 + j, none⟩ = some (.int .u8 (enc neg (pv.getD j 0))) := by
  have hl : 1 + pv.length ≤ n := by
    rw [h.1]
    unfold numB
    simp only [List.length_cons, List.length_append, List.length_map]
    omega
  rw [h.2 (1 + j) (by omega), numB_at _ _ _ _ hj]
theorem NumIs.head {w : World} {g n : Nat} {neg : Bool} {P : Int} {pv : List Int} (h : NumIs w g n neg P pv) : w.cell? ⟨g, 0, none⟩ = some (.int .u8 (if neg then 62 - P else 193 + P)) := by
  have hl : 0 < n := by
    rw [h.1]
    unfold numB
    simp
  rw [h.2 0 hl]
  rfl
theorem NumIs.kp {w w' : World} {g n : Nat} {neg : Bool} {P : Int} {pv : List Int} (h : NumIs w g n neg P pv) (hk : Kp w w') : NumIs w' g n neg P pv := ⟨h.1, fun i hi => below_some hk (h.2 i hi)⟩

set_option maxRecDepth 100000 in
set_option maxHeartbeats 2000000 in
theorem isValid_pos (g n c K : Nat) (P : Int) (pv : List Int) (w : World) (h : NumIs w g n false P pv) (hp : Pairs pv) (hK : pv.length = K) (hP0 : -60 ≤ P) (hP1 : P ≤ 60) (hnc : n ≤ c) :
    Calls Tryd.prog 183 #[.slice (some ⟨g, 0, none⟩) n c] w (BoolPost true w) := by
  have hn : n = 1 + K := by rw [h.1, numB_pos, hK]
  have h0 : w.cell? ⟨g, 0, none⟩ = some (.int .u8 (193 + P)) := h.head
  have C := Lib.hid (isPositive_yes g n c _ w h0 (by omega) (by omega) (by have := hp.2.1; omega))
  have e0 : (193 + P == 255) = false := by simp; omega
  have hK1 : 1 ≤ K := by have := hp.2.1; omega
  have hK2 : K ≤ 20 := by have := hp.2.2.1; omega
  have hf := hp.2.2.2.1
  have hl := hp.2.2.2.2
  rw [hK] at hl
  have hfm := (hp.at 0 (by omega)).2
  have hlm := (hp.at (K - 1) (by omega)).2
  have c1 : w.cell? ⟨g, 1, none⟩ = some (.int .u8 (pv.getD 0 0 + 1)) := h.pair 0 (by omega)
  have c2 : w.cell? ⟨g, n - 1, none⟩ = some (.int .u8 (pv.getD (K - 1) 0 + 1)) := by
    have := h.pair (K - 1) (by omega)
    rw [show 1 + (K - 1) = n - 1 by omega] at this
    exact this
  have HC := Lib.hid (show ∀ j, j < K → ∃ x : Int, 0 ≤ x ∧ x ≤ 99 ∧ w.cell? ⟨g, 1 + j, none⟩ = some (.int .u8 (x + 1)) from fun j hj => ⟨pv.getD j 0, (hp.at j (by omega)).1, (hp.at j (by omega)).2, h.pair j (by omega)⟩)
  generalize pv.getD 0 0 = f at hf hfm c1
  generalize pv.getD (K - 1) 0 = l at hl hlm c2
  have i0 : (2 : Int) ≤ (n : Int) := by omega
  have i1 : (n : Int) ≤ 21 := by omega
  have i2 : (n : Int) ≤ (c : Int) := by omega
  have i3 : ((n : Int) - 1).toNat = n - 1 := by omega
  have n1 : ((n : Int) == 1) = false := by simp; omega
  have b21 : decide ((21 : Int) < (n : Int)) = false := decide_eq_false (by omega)
  have bl : decide (2 ≤ l + 1) = true := decide_eq_true (by omega)
  have bf : decide (2 ≤ f + 1) = true := decide_eq_true (by omega)
  have HN := Lib.hid hn
  clear h hp hK hnc hn hK1 hK2
  go_enter Tryd.func183, Tryd.ntmps183
  go_wp2_with fail
  refine C.out.mono ?_
  rintro e w1 ⟨rfl, rfl⟩
  clear C
  go_wp2
  go_loopg [5] K (fun G s5 wr => ∃ j : Nat, K - j = G ∧ j ≤ K ∧ s5 = .int .i64 (1 + (j : Int)) ∧ w = wr)
  case atStart => exact ⟨0, rfl, Nat.zero_le _, rfl, rfl⟩
  case round =>
    obtain ⟨j, rfl, hj, rfl, rfl⟩ := hrel
    have k3 : (1 + (j : Int)).toNat = 1 + j := by omega
    by_cases hlt : j < K
    · obtain ⟨x, x0, x1, d0⟩ := HC.out j hlt
      have k1 : 1 + (j : Int) < (n : Int) := by have := HN.out; omega
      have HLT := Lib.hid hlt
      clear hlt hj c1 c2
      go_wp2
      go_roundg (K - (j + 1))
      case measure => have := HLT.out; omega
      case rel => exact ⟨j + 1, rfl, HLT.out, by go_num, rfl⟩
    · have k1 : ¬ 1 + (j : Int) < (n : Int) := by have := HN.out; omega
      clear hlt hj
      go_wp2
      go_ret
      exact ⟨rfl, rfl⟩
set_option maxRecDepth 100000 in
set_option maxHeartbeats 2000000 in
theorem isValid_neg (g n c K : Nat) (P : Int) (pv : List Int) (w : World) (h : NumIs w g n true P pv) (hp : Pairs pv) (hK : pv.length = K) (hs : K < 20) (hP0 : -60 ≤ P) (hP1 : P ≤ 60) (hnc : n ≤ c) :
    Calls Tryd.prog 183 #[.slice (some ⟨g, 0, none⟩) n c] w (BoolPost true w) := by
  have hn : n = 2 + K := by rw [h.1, numB_neg _ _ (by omega), hK]
  have h0 : w.cell? ⟨g, 0, none⟩ = some (.int .u8 (62 - P)) := h.head
  have C := Lib.hid (isPositive_no g n c _ w h0 (by omega) (by omega) (by have := hp.2.1; omega))
  have hK1 : 1 ≤ K := by have := hp.2.1; omega
  have hf := hp.2.2.2.1
  have hl := hp.2.2.2.2
  rw [hK] at hl
  have hfm := (hp.at 0 (by omega)).2
  have hlm := (hp.at (K - 1) (by omega)).2
  have c1 : w.cell? ⟨g, 1, none⟩ = some (.int .u8 (101 - pv.getD 0 0)) := h.pair 0 (by omega)
  have c3 : w.cell? ⟨g, n - 1, none⟩ = some (.int .u8 102) := by
    have := h.2 (1 + K) (by omega)
    rw [← hK, numB_last _ _ (by omega), hK] at this
    rw [show n - 1 = 1 + K by omega]
    exact this
  have c2 : w.cell? ⟨g, n - 2, none⟩ = some (.int .u8 (101 - pv.getD (K - 1) 0)) := by
    have := h.pair (K - 1) (by omega)
    rw [show 1 + (K - 1) = n - 2 by omega] at this
    exact this
  have HC := Lib.hid (show ∀ j, j < K → ∃ x : Int, 0 ≤ x ∧ x ≤ 99 ∧ w.cell? ⟨g, 1 + j, none⟩ = some (.int .u8 (101 - x)) from fun j hj => ⟨pv.getD j 0, (hp.at j (by omega)).1, (hp.at j (by omega)).2, h.pair j (by omega)⟩)
  generalize pv.getD 0 0 = f at hf hfm c1
  generalize pv.getD (K - 1) 0 = l at hl hlm c2
  have i0 : (3 : Int) ≤ (n : Int) := by omega
  have i1 : (n : Int) ≤ 21 := by omega
  have i2 : (n : Int) ≤ (c : Int) := by omega
  have i3 : ((n : Int) - 1).toNat = n - 1 := by omega
  have b21 : decide ((21 : Int) < (n : Int)) = false := decide_eq_false (by omega)
  have b3 : decide ((n : Int) < 3) = false := decide_eq_false (by omega)
  have bl : decide (101 - l ≤ 100) = true := decide_eq_true (by omega)
  have bf : decide (101 - f ≤ 100) = true := decide_eq_true (by omega)
  have i4 : ((n : Int) - 1 - 1).toNat = n - 2 := by omega
  have i5 : ((n : Int) - 2).toNat = n - 2 := by omega
  have HN := Lib.hid hn
  have HK := Lib.hid hK1
  clear h hp hK hnc hn hK1 hs
  go_enter Tryd.func183, Tryd.ntmps183
  go_wp2_with fail
  refine C.out.mono ?_
  rintro e w1 ⟨rfl, rfl⟩
  clear C
  go_wp2
  go_loopg [5] K (fun G s5 wr => ∃ j : Nat, K - j = G ∧ j ≤ K ∧ s5 = .int .i64 (1 + (j : Int)) ∧ w = wr)
  case atStart => exact ⟨0, rfl, Nat.zero_le _, rfl, rfl⟩
  case round =>
    obtain ⟨j, rfl, hj, rfl, rfl⟩ := hrel
    have k3 : (1 + (j : Int)).toNat = 1 + j := by omega
    by_cases hlt : j < K
    · obtain ⟨x, x0, x1, d0⟩ := HC.out j hlt
      have k1 : 1 + (j : Int) < (n : Int) - 1 := by have := HN.out; omega
      have HLT := Lib.hid hlt
      clear hlt hj c1 c2
      go_wp2
      go_roundg (K - (j + 1))
      case measure => have := HLT.out; omega
      case rel => exact ⟨j + 1, rfl, HLT.out, by go_num, rfl⟩
    · have k1 : ¬ 1 + (j : Int) < (n : Int) - 1 := by have := HN.out; omega
      clear hlt hj
      go_wp2
      go_ret
      exact ⟨rfl, rfl⟩
set_option maxRecDepth 100000 in
set_option maxHeartbeats 2000000 in
theorem isValid_full (g n c K : Nat) (P : Int) (pv : List Int) (w : World) (h : NumIs w g n true P pv) (hp : Pairs pv) (hK : pv.length = K) (hs : K = 20) (hP0 : -60 ≤ P) (hP1 : P ≤ 60) (hnc : n ≤ c) :
    Calls Tryd.prog 183 #[.slice (some ⟨g, 0, none⟩) n c] w (BoolPost true w) := by
  have hn : n = 1 + K := by rw [h.1, numB_full _ _ (by omega), hK]
  have h0 : w.cell? ⟨g, 0, none⟩ = some (.int .u8 (62 - P)) := h.head
  have C := Lib.hid (isPositive_no g n c _ w h0 (by omega) (by omega) (by have := hp.2.1; omega))
  have hK1 : 1 ≤ K := by have := hp.2.1; omega
  have hf := hp.2.2.2.1
  have hl := hp.2.2.2.2
  rw [hK] at hl
  have hfm := (hp.at 0 (by omega)).2
  have hlm := (hp.at (K - 1) (by omega)).2
  have c1 : w.cell? ⟨g, 1, none⟩ = some (.int .u8 (101 - pv.getD 0 0)) := h.pair 0 (by omega)
  have c2 : w.cell? ⟨g, n - 1, none⟩ = some (.int .u8 (101 - pv.getD (K - 1) 0)) := by
    have := h.pair (K - 1) (by omega)
    rw [show 1 + (K - 1) = n - 1 by omega] at this
    exact this
  have HC := Lib.hid (show ∀ j, j < K → ∃ x : Int, 0 ≤ x ∧ x ≤ 99 ∧ w.cell? ⟨g, 1 + j, none⟩ = some (.int .u8 (101 - x)) from fun j hj => ⟨pv.getD j 0, (hp.at j (by omega)).1, (hp.at j (by omega)).2, h.pair j (by omega)⟩)
  generalize pv.getD 0 0 = f at hf hfm c1
  generalize pv.getD (K - 1) 0 = l at hl hlm c2
  have i0 : (21 : Int) ≤ (n : Int) := by omega
  have i1 : (n : Int) ≤ 21 := by omega
  have i2 : (n : Int) ≤ (c : Int) := by omega
  have i3 : ((n : Int) - 1).toNat = n - 1 := by omega
  have b21 : decide ((21 : Int) < (n : Int)) = false := decide_eq_false (by omega)
  have b3 : decide ((n : Int) < 3) = false := decide_eq_false (by omega)
  have bl : decide (101 - l ≤ 100) = true := decide_eq_true (by omega)
  have bf : decide (101 - f ≤ 100) = true := decide_eq_true (by omega)
  have n2 : (101 - l != 102) = true := by simp; omega
  have HN := Lib.hid hn
  have HK := Lib.hid hK1
  clear h hp hK hnc hn hK1 hs
  go_enter Tryd.func183, Tryd.ntmps183
  go_wp2_with fail
  refine C.out.mono ?_
  rintro e w1 ⟨rfl, rfl⟩
  clear C
  go_wp2
  go_loopg [5] K (fun G s5 wr => ∃ j : Nat, K - j = G ∧ j ≤ K ∧ s5 = .int .i64 (1 + (j : Int)) ∧ w = wr)
  case atStart => exact ⟨0, rfl, Nat.zero_le _, rfl, rfl⟩
  case round =>
    obtain ⟨j, rfl, hj, rfl, rfl⟩ := hrel
    have k3 : (1 + (j : Int)).toNat = 1 + j := by omega
    by_cases hlt : j < K
    · obtain ⟨x, x0, x1, d0⟩ := HC.out j hlt
      have k1 : 1 + (j : Int) < (n : Int) := by have := HN.out; omega
      have HLT := Lib.hid hlt
      clear hlt hj c1 c2
      go_wp2
      go_roundg (K - (j + 1))
      case measure => have := HLT.out; omega
      case rel => exact ⟨j + 1, rfl, HLT.out, by go_num, rfl⟩
    · have k1 : ¬ 1 + (j : Int) < (n : Int) := by have := HN.out; omega
      clear hlt hj
      go_wp2
      go_ret
      exact ⟨rfl, rfl⟩
end Go.Proofs.YtcdbnjhkjfimkaaDoor
