/-
  The pairs of a number's bytes: _fromLnxFmt; the tests for either sign.
-/
import Derived.Test.YtcdbnjhkjfimkaaDoorTx1
namespace Go.Proofs.YtcdbnjhkjfimkaaDoor
open Go Go.RowKit

/-- The power as a byte. -/
def powB (P : Int) : Int := if 0 ≤ P then P else P + 256
def LnxPost (P : Int) (pv : List Int) (w : World) (e : Ending) (w' : World) : Prop := ∃ g, e = .returned (.slice (some ⟨g, 0, none⟩) (1 + pv.length) (1 + pv.length)) ∧ RowAt w' w.heap.size g (1 + pv.length) (1 + pv.length) (powB P :: pv) ∧ Kp w w'
theorem own_start (w : World) (n : Nat) (hm : n ≤ 1000) : RowAt (w.alloc (.cells (zeroA n) 5)) w.heap.size w.heap.size n n (fillL [] n) := own_zero w n n _ (Nat.le_refl _) (by unfold maxLen; omega)

set_option maxRecDepth 100000 in
set_option maxHeartbeats 2000000 in
theorem fromLnx_pos0 (g n c K : Nat) (P : Int) (pv : List Int) (w : World) (h : NumIs w g n false P pv) (hp : Pairs pv) (hK : pv.length = K) (hP0 : -60 ≤ P) (hP1 : P ≤ 60) (hP : 0 ≤ P) (hnc : n ≤ c) :
    Calls Tryd.prog 184 #[.slice (some ⟨g, 0, none⟩) n c] w (LnxPost P pv w) := by
  have hn : n = 1 + K := by rw [h.1, numB_pos, hK]
  have h0 : w.cell? ⟨g, 0, none⟩ = some (.int .u8 (193 + P)) := h.head
  have hK1 : 1 ≤ K := by have := hp.2.1; omega
  have hK2 : K ≤ 20 := by have := hp.2.2.1; omega
  have C := Lib.hid (isPositive_yes g n c _ w h0 (by omega) (by omega) (by omega))
  obtain ⟨y, hy⟩ : ∃ y, y = 65 + P := ⟨_, rfl⟩
  have x1 : bits .and .u8 (193 + P) 127 = y := by rw [and127_hi _ (by omega) (by omega)]; omega
  have HPB := Lib.hid (show powB P = y - 65 from by unfold powB; rw [if_pos hP]; omega)
  obtain ⟨pb, hpb⟩ : ∃ pb, pb = powB P := ⟨_, rfl⟩
  have y0 : 0 ≤ y := by omega
  have y1 : y ≤ 127 := by omega
  have b0 : 0 ≤ pb := by rw [hpb, HPB.out]; omega
  have b1 : pb ≤ 255 := by rw [hpb, HPB.out]; omega
  have yq : y - 65 = pb := by rw [hpb, HPB.out]
  have y2 : 65 ≤ y := by omega
  have HNI := Lib.hid h
  have HPR := Lib.hid hp
  have HKK := Lib.hid hK
  obtain ⟨m, hm⟩ : ∃ m, m = 1 + K := ⟨_, rfl⟩
  obtain rfl : n = m := by omega
  have hmk := run_make_bytes .i64 .i64 n n (Nat.le_refl _) (by omega)
  have HPOST := Lib.hid (fun w' (h1 : RowAt w' w.heap.size w.heap.size n n (pb :: pv)) (h2 : Kp w w') => (show LnxPost P pv w (.returned (.slice (some ⟨w.heap.size, 0, none⟩) n n)) w' from by
    rw [hpb, show n = 1 + pv.length by omega] at h1
    exact ⟨w.heap.size, by rw [show n = 1 + pv.length by omega], h1, h2⟩))
  have hst := own_start w n (by omega)
  have z0 := own_cell hst 0 (by omega)
  have zf := hst.frozenAt 0
  have hr0 := (fill_put (r := K) (by
    have := hst
    rw [show fillL [] n = fillL [] (K + 1) by rw [show n = K + 1 by omega]] at this
    exact this) pb 0 rfl).1
  rw [World.setCell_alloc_at _ _ _ _ _ rfl] at hr0
  have HR0 := Lib.hid hr0
  generalize (fillL [] n).getD 0 0 = z at z0
  have h1 := below_some ((Kp.refl w).alloc (.cells (zeroA n) 5)) h0
  have i0 : (2 : Int) ≤ (n : Int) := by omega
  have i1 : (n : Int) ≤ 21 := by omega
  have i2 : (n : Int) ≤ (c : Int) := by omega
  have m0 : (2 : Int) ≤ (n : Int) := by omega
  have m1 : (n : Int) ≤ 21 := by omega
  have HM := Lib.hid (show n = 1 + K from by omega)
  clear h hp hK hnc hn hK1 hK2 hpb hm hP hP0 hP1 hy hst hr0
  go_enter Tryd.func184, Tryd.ntmps184
  go_wp2_with fail
  refine C.out.mono ?_
  rintro e w1 ⟨rfl, rfl⟩
  clear C
  go_wp2_with fail
  go_loopg [5] K (fun G s5 wr => ∃ j : Nat, K - j = G ∧ j ≤ K ∧ s5 = .int .i64 (1 + (j : Int)) ∧ RowAt wr w.heap.size w.heap.size n n (fillL (pb :: pv.take j) (K - j)) ∧ Kp w wr)
  case atStart => exact ⟨0, rfl, Nat.zero_le _, rfl, HR0.out, (Kp.refl w).alloc _⟩
  case round =>
    obtain ⟨j, rfl, hj, rfl, hrow, hkw⟩ := hrel
    have HROW := Lib.hid hrow
    have HKW := Lib.hid hkw
    have k3 : (1 + (j : Int)).toNat = 1 + j := by omega
    by_cases hlt : j < K
    · have hd := HPR.out.at j (by rw [HKK.out]; exact hlt)
      have d0 := (HNI.out.kp hkw).pair j (by rw [HKK.out]; exact hlt)
      have hjn : 1 + j < n := by have := HM.out; omega
      have d1 := own_cell hrow (1 + j) hjn
      have d2 := hrow.frozenAt (1 + j)
      have HTK := Lib.hid (take_snoc' pv j (by rw [HKK.out]; exact hlt))
      obtain ⟨x, hx⟩ : ∃ x, x = pv.getD j 0 := ⟨_, rfl⟩
      rw [← hx] at hd d0 HTK
      have d3 : wr.cell? ⟨g, 1 + j, none⟩ = some (.int .u8 (x + 1)) := d0
      have HNX := Lib.hid (show RowAt (wr.setCell ⟨w.heap.size, 1 + j, none⟩ (.int .u8 x)) w.heap.size w.heap.size n n (fillL (pb :: pv.take (j + 1)) (K - (j + 1))) from by
        have h1 := (fill_put (r := K - (j + 1)) (by rw [show K - (j + 1) + 1 = K - j by omega]; exact HROW.out) x (1 + j) (by rw [List.length_cons, List.length_take, HKK.out]; omega)).1
        rw [HTK.out]
        exact h1)
      generalize (fillL (pb :: pv.take j) (K - j)).getD (1 + j) 0 = z2 at d1
      have x0 : 0 ≤ x := hd.1
      have x1 : x ≤ 99 := hd.2
      have xe : x + 1 - 1 = x := by omega
      have HKS := Lib.hid (hkw.set (p := ⟨w.heap.size, 1 + j, none⟩) (Nat.le_refl _) (.int .u8 x))
      have k1 : 1 + (j : Int) < (n : Int) := by omega
      have HLT := Lib.hid hlt
      clear hlt hj hrow hkw d0 hd hx hjn
      go_wp2
      go_roundg (K - (j + 1))
      case measure => have := HLT.out; omega
      case rel => exact ⟨j + 1, rfl, HLT.out, by go_num, HNX.out, HKS.out⟩
    · obtain rfl : j = K := by omega
      have k1 : ¬ 1 + (j : Int) < (n : Int) := by have := HM.out; omega
      clear hlt hj hrow hkw
      go_wp2
      go_ret
      exact HPOST.out _ (by
        have h1 := HROW.out
        rw [Nat.sub_self, List.take_of_length_le (by rw [HKK.out]; exact Nat.le_refl _)] at h1
        simpa [fillL] using h1) HKW.out
set_option maxRecDepth 100000 in
set_option maxHeartbeats 2000000 in
theorem fromLnx_pos1 (g n c K : Nat) (P : Int) (pv : List Int) (w : World) (h : NumIs w g n false P pv) (hp : Pairs pv) (hK : pv.length = K) (hP0 : -60 ≤ P) (hP1 : P ≤ 60) (hP : P < 0) (hnc : n ≤ c) :
    Calls Tryd.prog 184 #[.slice (some ⟨g, 0, none⟩) n c] w (LnxPost P pv w) := by
  have hn : n = 1 + K := by rw [h.1, numB_pos, hK]
  have h0 : w.cell? ⟨g, 0, none⟩ = some (.int .u8 (193 + P)) := h.head
  have hK1 : 1 ≤ K := by have := hp.2.1; omega
  have hK2 : K ≤ 20 := by have := hp.2.2.1; omega
  have C := Lib.hid (isPositive_yes g n c _ w h0 (by omega) (by omega) (by omega))
  obtain ⟨y, hy⟩ : ∃ y, y = 65 + P := ⟨_, rfl⟩
  have x1 : bits .and .u8 (193 + P) 127 = y := by rw [and127_hi _ (by omega) (by omega)]; omega
  have HPB := Lib.hid (show powB P = y + 191 from by unfold powB; rw [if_neg (by omega)]; omega)
  obtain ⟨pb, hpb⟩ : ∃ pb, pb = powB P := ⟨_, rfl⟩
  have y0 : 0 ≤ y := by omega
  have y1 : y ≤ 127 := by omega
  have b0 : 0 ≤ pb := by rw [hpb, HPB.out]; omega
  have b1 : pb ≤ 255 := by rw [hpb, HPB.out]; omega
  have yq : IntKind.u8.wrap (y - 65) = pb := by rw [hpb, HPB.out, IntKind.wrap_u8]; omega
  have y2 : y < 65 := by omega
  have HNI := Lib.hid h
  have HPR := Lib.hid hp
  have HKK := Lib.hid hK
  obtain ⟨m, hm⟩ : ∃ m, m = 1 + K := ⟨_, rfl⟩
  obtain rfl : n = m := by omega
  have hmk := run_make_bytes .i64 .i64 n n (Nat.le_refl _) (by omega)
  have HPOST := Lib.hid (fun w' (h1 : RowAt w' w.heap.size w.heap.size n n (pb :: pv)) (h2 : Kp w w') => (show LnxPost P pv w (.returned (.slice (some ⟨w.heap.size, 0, none⟩) n n)) w' from by
    rw [hpb, show n = 1 + pv.length by omega] at h1
    exact ⟨w.heap.size, by rw [show n = 1 + pv.length by omega], h1, h2⟩))
  have hst := own_start w n (by omega)
  have z0 := own_cell hst 0 (by omega)
  have zf := hst.frozenAt 0
  have hr0 := (fill_put (r := K) (by
    have := hst
    rw [show fillL [] n = fillL [] (K + 1) by rw [show n = K + 1 by omega]] at this
    exact this) pb 0 rfl).1
  rw [World.setCell_alloc_at _ _ _ _ _ rfl] at hr0
  have HR0 := Lib.hid hr0
  generalize (fillL [] n).getD 0 0 = z at z0
  have h1 := below_some ((Kp.refl w).alloc (.cells (zeroA n) 5)) h0
  have i0 : (2 : Int) ≤ (n : Int) := by omega
  have i1 : (n : Int) ≤ 21 := by omega
  have i2 : (n : Int) ≤ (c : Int) := by omega
  have m0 : (2 : Int) ≤ (n : Int) := by omega
  have m1 : (n : Int) ≤ 21 := by omega
  have HM := Lib.hid (show n = 1 + K from by omega)
  clear h hp hK hnc hn hK1 hK2 hpb hm hP hP0 hP1 hy hst hr0
  go_enter Tryd.func184, Tryd.ntmps184
  go_wp2_with fail
  refine C.out.mono ?_
  rintro e w1 ⟨rfl, rfl⟩
  clear C
  go_wp2_with fail
  go_loopg [5] K (fun G s5 wr => ∃ j : Nat, K - j = G ∧ j ≤ K ∧ s5 = .int .i64 (1 + (j : Int)) ∧ RowAt wr w.heap.size w.heap.size n n (fillL (pb :: pv.take j) (K - j)) ∧ Kp w wr)
  case atStart => exact ⟨0, rfl, Nat.zero_le _, rfl, HR0.out, (Kp.refl w).alloc _⟩
  case round =>
    obtain ⟨j, rfl, hj, rfl, hrow, hkw⟩ := hrel
    have HROW := Lib.hid hrow
    have HKW := Lib.hid hkw
    have k3 : (1 + (j : Int)).toNat = 1 + j := by omega
    by_cases hlt : j < K
    · have hd := HPR.out.at j (by rw [HKK.out]; exact hlt)
      have d0 := (HNI.out.kp hkw).pair j (by rw [HKK.out]; exact hlt)
      have hjn : 1 + j < n := by have := HM.out; omega
      have d1 := own_cell hrow (1 + j) hjn
      have d2 := hrow.frozenAt (1 + j)
      have HTK := Lib.hid (take_snoc' pv j (by rw [HKK.out]; exact hlt))
      obtain ⟨x, hx⟩ : ∃ x, x = pv.getD j 0 := ⟨_, rfl⟩
      rw [← hx] at hd d0 HTK
      have d3 : wr.cell? ⟨g, 1 + j, none⟩ = some (.int .u8 (x + 1)) := d0
      have HNX := Lib.hid (show RowAt (wr.setCell ⟨w.heap.size, 1 + j, none⟩ (.int .u8 x)) w.heap.size w.heap.size n n (fillL (pb :: pv.take (j + 1)) (K - (j + 1))) from by
        have h1 := (fill_put (r := K - (j + 1)) (by rw [show K - (j + 1) + 1 = K - j by omega]; exact HROW.out) x (1 + j) (by rw [List.length_cons, List.length_take, HKK.out]; omega)).1
        rw [HTK.out]
        exact h1)
      generalize (fillL (pb :: pv.take j) (K - j)).getD (1 + j) 0 = z2 at d1
      have x0 : 0 ≤ x := hd.1
      have x1 : x ≤ 99 := hd.2
      have xe : x + 1 - 1 = x := by omega
      have HKS := Lib.hid (hkw.set (p := ⟨w.heap.size, 1 + j, none⟩) (Nat.le_refl _) (.int .u8 x))
      have k1 : 1 + (j : Int) < (n : Int) := by omega
      have HLT := Lib.hid hlt
      clear hlt hj hrow hkw d0 hd hx hjn
      go_wp2
      go_roundg (K - (j + 1))
      case measure => have := HLT.out; omega
      case rel => exact ⟨j + 1, rfl, HLT.out, by go_num, HNX.out, HKS.out⟩
    · obtain rfl : j = K := by omega
      have k1 : ¬ 1 + (j : Int) < (n : Int) := by have := HM.out; omega
      clear hlt hj hrow hkw
      go_wp2
      go_ret
      exact HPOST.out _ (by
        have h1 := HROW.out
        rw [Nat.sub_self, List.take_of_length_le (by rw [HKK.out]; exact Nat.le_refl _)] at h1
        simpa [fillL] using h1) HKW.out
set_option maxRecDepth 100000 in
set_option maxHeartbeats 2000000 in
theorem fromLnx_neg0 (g n c K : Nat) (P : Int) (pv : List Int) (w : World) (h : NumIs w g n true P pv) (hp : Pairs pv) (hK : pv.length = K) (hs : K < 19) (hP0 : -60 ≤ P) (hP1 : P ≤ 60) (hP : 0 ≤ P) (hnc : n ≤ c) :
    Calls Tryd.prog 184 #[.slice (some ⟨g, 0, none⟩) n c] w (LnxPost P pv w) := by
  have hn : n = 2 + K := by rw [h.1, numB_neg _ _ (by omega), hK]
  have h0 : w.cell? ⟨g, 0, none⟩ = some (.int .u8 (62 - P)) := h.head
  have hK1 : 1 ≤ K := by have := hp.2.1; omega
  have hK2 : K ≤ 20 := by have := hp.2.2.1; omega
  have C := Lib.hid (isPositive_no g n c _ w h0 (by omega) (by omega) (by omega))
  obtain ⟨y, hy⟩ : ∃ y, y = 65 + P := ⟨_, rfl⟩
  have x1 : bits .xor .u8 (62 - P) 255 = 193 + P := by rw [xor255 _ (by omega) (by omega)]; omega
  have x2 : bits .and .u8 (193 + P) 127 = y := by rw [and127_hi _ (by omega) (by omega)]; omega
  have HPB := Lib.hid (show powB P = y - 65 from by unfold powB; rw [if_pos hP]; omega)
  obtain ⟨pb, hpb⟩ : ∃ pb, pb = powB P := ⟨_, rfl⟩
  have y0 : 0 ≤ y := by omega
  have y1 : y ≤ 127 := by omega
  have b0 : 0 ≤ pb := by rw [hpb, HPB.out]; omega
  have b1 : pb ≤ 255 := by rw [hpb, HPB.out]; omega
  have yq : y - 65 = pb := by rw [hpb, HPB.out]
  have y2 : 65 ≤ y := by omega
  have HNI := Lib.hid h
  have HPR := Lib.hid hp
  have HKK := Lib.hid hK
  obtain ⟨m, hm⟩ : ∃ m, m = 1 + K := ⟨_, rfl⟩
  have nm : (n : Int) - 1 = (m : Int) := by omega
  have n20 : ((m : Int) == 20) = false := by simp; omega
  have hmk := run_make_bytes .i64 .i64 m m (Nat.le_refl _) (by omega)
  have HPOST := Lib.hid (fun w' (h1 : RowAt w' w.heap.size w.heap.size m m (pb :: pv)) (h2 : Kp w w') => (show LnxPost P pv w (.returned (.slice (some ⟨w.heap.size, 0, none⟩) m m)) w' from by
    rw [hpb, show m = 1 + pv.length by omega] at h1
    exact ⟨w.heap.size, by rw [show m = 1 + pv.length by omega], h1, h2⟩))
  have hst := own_start w m (by omega)
  have z0 := own_cell hst 0 (by omega)
  have zf := hst.frozenAt 0
  have hr0 := (fill_put (r := K) (by
    have := hst
    rw [show fillL [] m = fillL [] (K + 1) by rw [show m = K + 1 by omega]] at this
    exact this) pb 0 rfl).1
  rw [World.setCell_alloc_at _ _ _ _ _ rfl] at hr0
  have HR0 := Lib.hid hr0
  generalize (fillL [] m).getD 0 0 = z at z0
  have h1 := below_some ((Kp.refl w).alloc (.cells (zeroA m) 5)) h0
  have i0 : (2 : Int) ≤ (n : Int) := by omega
  have i1 : (n : Int) ≤ 21 := by omega
  have i2 : (n : Int) ≤ (c : Int) := by omega
  have m0 : (2 : Int) ≤ (m : Int) := by omega
  have m1 : (m : Int) ≤ 21 := by omega
  have HM := Lib.hid (show m = 1 + K from by omega)
  clear h hp hK hnc hn hK1 hK2 hpb hm hP hP0 hP1 hy hst hr0 hs
  go_enter Tryd.func184, Tryd.ntmps184
  go_wp2_with fail
  refine C.out.mono ?_
  rintro e w1 ⟨rfl, rfl⟩
  clear C
  go_wp2_with fail
  go_loopg [6] K (fun G s5 wr => ∃ j : Nat, K - j = G ∧ j ≤ K ∧ s5 = .int .i64 (1 + (j : Int)) ∧ RowAt wr w.heap.size w.heap.size m m (fillL (pb :: pv.take j) (K - j)) ∧ Kp w wr)
  case atStart => exact ⟨0, rfl, Nat.zero_le _, rfl, HR0.out, (Kp.refl w).alloc _⟩
  case round =>
    obtain ⟨j, rfl, hj, rfl, hrow, hkw⟩ := hrel
    have HROW := Lib.hid hrow
    have HKW := Lib.hid hkw
    have k3 : (1 + (j : Int)).toNat = 1 + j := by omega
    by_cases hlt : j < K
    · have hd := HPR.out.at j (by rw [HKK.out]; exact hlt)
      have d0 := (HNI.out.kp hkw).pair j (by rw [HKK.out]; exact hlt)
      have hjn : 1 + j < m := by have := HM.out; omega
      have d1 := own_cell hrow (1 + j) hjn
      have d2 := hrow.frozenAt (1 + j)
      have HTK := Lib.hid (take_snoc' pv j (by rw [HKK.out]; exact hlt))
      obtain ⟨x, hx⟩ : ∃ x, x = pv.getD j 0 := ⟨_, rfl⟩
      rw [← hx] at hd d0 HTK
      have d3 : wr.cell? ⟨g, 1 + j, none⟩ = some (.int .u8 (101 - x)) := d0
      have HNX := Lib.hid (show RowAt (wr.setCell ⟨w.heap.size, 1 + j, none⟩ (.int .u8 x)) w.heap.size w.heap.size m m (fillL (pb :: pv.take (j + 1)) (K - (j + 1))) from by
        have h1 := (fill_put (r := K - (j + 1)) (by rw [show K - (j + 1) + 1 = K - j by omega]; exact HROW.out) x (1 + j) (by rw [List.length_cons, List.length_take, HKK.out]; omega)).1
        rw [HTK.out]
        exact h1)
      generalize (fillL (pb :: pv.take j) (K - j)).getD (1 + j) 0 = z2 at d1
      have x0 : 0 ≤ x := hd.1
      have x1 : x ≤ 99 := hd.2
      have xe : 101 - (101 - x) = x := by omega
      have HKS := Lib.hid (hkw.set (p := ⟨w.heap.size, 1 + j, none⟩) (Nat.le_refl _) (.int .u8 x))
      have k1 : 1 + (j : Int) < (m : Int) := by omega
      have HLT := Lib.hid hlt
      clear hlt hj hrow hkw d0 hd hx hjn
      go_wp2
      go_roundg (K - (j + 1))
      case measure => have := HLT.out; omega
      case rel => exact ⟨j + 1, rfl, HLT.out, by go_num, HNX.out, HKS.out⟩
    · obtain rfl : j = K := by omega
      have k1 : ¬ 1 + (j : Int) < (m : Int) := by have := HM.out; omega
      clear hlt hj hrow hkw
      go_wp2
      go_ret
      exact HPOST.out _ (by
        have h1 := HROW.out
        rw [Nat.sub_self, List.take_of_length_le (by rw [HKK.out]; exact Nat.le_refl _)] at h1
        simpa [fillL] using h1) HKW.out
set_option maxRecDepth 100000 in
set_option maxHeartbeats 2000000 in
theorem fromLnx_neg1 (g n c K : Nat) (P : Int) (pv : List Int) (w : World) (h : NumIs w g n true P pv) (hp : Pairs pv) (hK : pv.length = K) (hs : K < 19) (hP0 : -60 ≤ P) (hP1 : P ≤ 60) (hP : P < 0) (hnc : n ≤ c) :
    Calls Tryd.prog 184 #[.slice (some ⟨g, 0, none⟩) n c] w (LnxPost P pv w) := by
  have hn : n = 2 + K := by rw [h.1, numB_neg _ _ (by omega), hK]
  have h0 : w.cell? ⟨g, 0, none⟩ = some (.int .u8 (62 - P)) := h.head
  have hK1 : 1 ≤ K := by have := hp.2.1; omega
  have hK2 : K ≤ 20 := by have := hp.2.2.1; omega
  have C := Lib.hid (isPositive_no g n c _ w h0 (by omega) (by omega) (by omega))
  obtain ⟨y, hy⟩ : ∃ y, y = 65 + P := ⟨_, rfl⟩
  have x1 : bits .xor .u8 (62 - P) 255 = 193 + P := by rw [xor255 _ (by omega) (by omega)]; omega
  have x2 : bits .and .u8 (193 + P) 127 = y := by rw [and127_hi _ (by omega) (by omega)]; omega
  have HPB := Lib.hid (show powB P = y + 191 from by unfold powB; rw [if_neg (by omega)]; omega)
  obtain ⟨pb, hpb⟩ : ∃ pb, pb = powB P := ⟨_, rfl⟩
  have y0 : 0 ≤ y := by omega
  have y1 : y ≤ 127 := by omega
  have b0 : 0 ≤ pb := by rw [hpb, HPB.out]; omega
  have b1 : pb ≤ 255 := by rw [hpb, HPB.out]; omega
  have yq : IntKind.u8.wrap (y - 65) = pb := by rw [hpb, HPB.out, IntKind.wrap_u8]; omega
  have y2 : y < 65 := by omega
  have HNI := Lib.hid h
  have HPR := Lib.hid hp
  have HKK := Lib.hid hK
  obtain ⟨m, hm⟩ : ∃ m, m = 1 + K := ⟨_, rfl⟩
  have nm : (n : Int) - 1 = (m : Int) := by omega
  have n20 : ((m : Int) == 20) = false := by simp; omega
  have hmk := run_make_bytes .i64 .i64 m m (Nat.le_refl _) (by omega)
  have HPOST := Lib.hid (fun w' (h1 : RowAt w' w.heap.size w.heap.size m m (pb :: pv)) (h2 : Kp w w') => (show LnxPost P pv w (.returned (.slice (some ⟨w.heap.size, 0, none⟩) m m)) w' from by
    rw [hpb, show m = 1 + pv.length by omega] at h1
    exact ⟨w.heap.size, by rw [show m = 1 + pv.length by omega], h1, h2⟩))
  have hst := own_start w m (by omega)
  have z0 := own_cell hst 0 (by omega)
  have zf := hst.frozenAt 0
  have hr0 := (fill_put (r := K) (by
    have := hst
    rw [show fillL [] m = fillL [] (K + 1) by rw [show m = K + 1 by omega]] at this
    exact this) pb 0 rfl).1
  rw [World.setCell_alloc_at _ _ _ _ _ rfl] at hr0
  have HR0 := Lib.hid hr0
  generalize (fillL [] m).getD 0 0 = z at z0
  have h1 := below_some ((Kp.refl w).alloc (.cells (zeroA m) 5)) h0
  have i0 : (2 : Int) ≤ (n : Int) := by omega
  have i1 : (n : Int) ≤ 21 := by omega
  have i2 : (n : Int) ≤ (c : Int) := by omega
  have m0 : (2 : Int) ≤ (m : Int) := by omega
  have m1 : (m : Int) ≤ 21 := by omega
  have HM := Lib.hid (show m = 1 + K from by omega)
  clear h hp hK hnc hn hK1 hK2 hpb hm hP hP0 hP1 hy hst hr0 hs
  go_enter Tryd.func184, Tryd.ntmps184
  go_wp2_with fail
  refine C.out.mono ?_
  rintro e w1 ⟨rfl, rfl⟩
  clear C
  go_wp2_with fail
  go_loopg [6] K (fun G s5 wr => ∃ j : Nat, K - j = G ∧ j ≤ K ∧ s5 = .int .i64 (1 + (j : Int)) ∧ RowAt wr w.heap.size w.heap.size m m (fillL (pb :: pv.take j) (K - j)) ∧ Kp w wr)
  case atStart => exact ⟨0, rfl, Nat.zero_le _, rfl, HR0.out, (Kp.refl w).alloc _⟩
  case round =>
    obtain ⟨j, rfl, hj, rfl, hrow, hkw⟩ := hrel
    have HROW := Lib.hid hrow
    have HKW := Lib.hid hkw
    have k3 : (1 + (j : Int)).toNat = 1 + j := by omega
    by_cases hlt : j < K
    · have hd := HPR.out.at j (by rw [HKK.out]; exact hlt)
      have d0 := (HNI.out.kp hkw).pair j (by rw [HKK.out]; exact hlt)
      have hjn : 1 + j < m := by have := HM.out; omega
      have d1 := own_cell hrow (1 + j) hjn
      have d2 := hrow.frozenAt (1 + j)
      have HTK := Lib.hid (take_snoc' pv j (by rw [HKK.out]; exact hlt))
      obtain ⟨x, hx⟩ : ∃ x, x = pv.getD j 0 := ⟨_, rfl⟩
      rw [← hx] at hd d0 HTK
      have d3 : wr.cell? ⟨g, 1 + j, none⟩ = some (.int .u8 (101 - x)) := d0
      have HNX := Lib.hid (show RowAt (wr.setCell ⟨w.heap.size, 1 + j, none⟩ (.int .u8 x)) w.heap.size w.heap.size m m (fillL (pb :: pv.take (j + 1)) (K - (j + 1))) from by
        have h1 := (fill_put (r := K - (j + 1)) (by rw [show K - (j + 1) + 1 = K - j by omega]; exact HROW.out) x (1 + j) (by rw [List.length_cons, List.length_take, HKK.out]; omega)).1
        rw [HTK.out]
        exact h1)
      generalize (fillL (pb :: pv.take j) (K - j)).getD (1 + j) 0 = z2 at d1
      have x0 : 0 ≤ x := hd.1
      have x1 : x ≤ 99 := hd.2
      have xe : 101 - (101 - x) = x := by omega
      have HKS := Lib.hid (hkw.set (p := ⟨w.heap.size, 1 + j, none⟩) (Nat.le_refl _) (.int .u8 x))
      have k1 : 1 + (j : Int) < (m : Int) := by omega
      have HLT := Lib.hid hlt
      clear hlt hj hrow hkw d0 hd hx hjn
      go_wp2
      go_roundg (K - (j + 1))
      case measure => have := HLT.out; omega
      case rel => exact ⟨j + 1, rfl, HLT.out, by go_num, HNX.out, HKS.out⟩
    · obtain rfl : j = K := by omega
      have k1 : ¬ 1 + (j : Int) < (m : Int) := by have := HM.out; omega
      clear hlt hj hrow hkw
      go_wp2
      go_ret
      exact HPOST.out _ (by
        have h1 := HROW.out
        rw [Nat.sub_self, List.take_of_length_le (by rw [HKK.out]; exact Nat.le_refl _)] at h1
        simpa [fillL] using h1) HKW.out
set_option maxRecDepth 100000 in
set_option maxHeartbeats 2000000 in
theorem fromLnx_nine0 (g n c K : Nat) (P : Int) (pv : List Int) (w : World) (h : NumIs w g n true P pv) (hp : Pairs pv) (hK : pv.length = K) (hs : K = 19) (hP0 : -60 ≤ P) (hP1 : P ≤ 60) (hP : 0 ≤ P) (hnc : n ≤ c) :
    Calls Tryd.prog 184 #[.slice (some ⟨g, 0, none⟩) n c] w (LnxPost P pv w) := by
  have hn : n = 2 + K := by rw [h.1, numB_neg _ _ (by omega), hK]
  have h0 : w.cell? ⟨g, 0, none⟩ = some (.int .u8 (62 - P)) := h.head
  have hK1 : 1 ≤ K := by have := hp.2.1; omega
  have hK2 : K ≤ 20 := by have := hp.2.2.1; omega
  have C := Lib.hid (isPositive_no g n c _ w h0 (by omega) (by omega) (by omega))
  obtain ⟨y, hy⟩ : ∃ y, y = 65 + P := ⟨_, rfl⟩
  have x1 : bits .xor .u8 (62 - P) 255 = 193 + P := by rw [xor255 _ (by omega) (by omega)]; omega
  have x2 : bits .and .u8 (193 + P) 127 = y := by rw [and127_hi _ (by omega) (by omega)]; omega
  have HPB := Lib.hid (show powB P = y - 65 from by unfold powB; rw [if_pos hP]; omega)
  obtain ⟨pb, hpb⟩ : ∃ pb, pb = powB P := ⟨_, rfl⟩
  have y0 : 0 ≤ y := by omega
  have y1 : y ≤ 127 := by omega
  have b0 : 0 ≤ pb := by rw [hpb, HPB.out]; omega
  have b1 : pb ≤ 255 := by rw [hpb, HPB.out]; omega
  have yq : y - 65 = pb := by rw [hpb, HPB.out]
  have y2 : 65 ≤ y := by omega
  have HNI := Lib.hid h
  have HPR := Lib.hid hp
  have HKK := Lib.hid hK
  obtain ⟨m, hm⟩ : ∃ m, m = 1 + K := ⟨_, rfl⟩
  have nm : (n : Int) - 1 = (m : Int) := by omega
  have n20 : ((m : Int) == 20) = true := by simp; omega
  have nk : ((m : Int)).toNat = m := by omega
  have hl : w.cell? ⟨g, m, none⟩ = some (.int .u8 102) := by
    have := h.2 (1 + K) (by omega)
    rw [← hK, numB_last _ _ (by omega), hK] at this
    rw [hm]
    exact this
  have hmk := run_make_bytes .i64 .i64 m m (Nat.le_refl _) (by omega)
  have HPOST := Lib.hid (fun w' (h1 : RowAt w' w.heap.size w.heap.size m m (pb :: pv)) (h2 : Kp w w') => (show LnxPost P pv w (.returned (.slice (some ⟨w.heap.size, 0, none⟩) m m)) w' from by
    rw [hpb, show m = 1 + pv.length by omega] at h1
    exact ⟨w.heap.size, by rw [show m = 1 + pv.length by omega], h1, h2⟩))
  have hst := own_start w m (by omega)
  have z0 := own_cell hst 0 (by omega)
  have zf := hst.frozenAt 0
  have hr0 := (fill_put (r := K) (by
    have := hst
    rw [show fillL [] m = fillL [] (K + 1) by rw [show m = K + 1 by omega]] at this
    exact this) pb 0 rfl).1
  rw [World.setCell_alloc_at _ _ _ _ _ rfl] at hr0
  have HR0 := Lib.hid hr0
  generalize (fillL [] m).getD 0 0 = z at z0
  have h1 := below_some ((Kp.refl w).alloc (.cells (zeroA m) 5)) h0
  have i0 : (2 : Int) ≤ (n : Int) := by omega
  have i1 : (n : Int) ≤ 21 := by omega
  have i2 : (n : Int) ≤ (c : Int) := by omega
  have m0 : (2 : Int) ≤ (m : Int) := by omega
  have m1 : (m : Int) ≤ 21 := by omega
  have HM := Lib.hid (show m = 1 + K from by omega)
  clear h hp hK hnc hn hK1 hK2 hpb hm hP hP0 hP1 hy hst hr0 hs
  go_enter Tryd.func184, Tryd.ntmps184
  go_wp2_with fail
  refine C.out.mono ?_
  rintro e w1 ⟨rfl, rfl⟩
  clear C
  go_wp2_with fail
  go_loopg [6] K (fun G s5 wr => ∃ j : Nat, K - j = G ∧ j ≤ K ∧ s5 = .int .i64 (1 + (j : Int)) ∧ RowAt wr w.heap.size w.heap.size m m (fillL (pb :: pv.take j) (K - j)) ∧ Kp w wr)
  case atStart => exact ⟨0, rfl, Nat.zero_le _, rfl, HR0.out, (Kp.refl w).alloc _⟩
  case round =>
    obtain ⟨j, rfl, hj, rfl, hrow, hkw⟩ := hrel
    have HROW := Lib.hid hrow
    have HKW := Lib.hid hkw
    have k3 : (1 + (j : Int)).toNat = 1 + j := by omega
    by_cases hlt : j < K
    · have hd := HPR.out.at j (by rw [HKK.out]; exact hlt)
      have d0 := (HNI.out.kp hkw).pair j (by rw [HKK.out]; exact hlt)
      have hjn : 1 + j < m := by have := HM.out; omega
      have d1 := own_cell hrow (1 + j) hjn
      have d2 := hrow.frozenAt (1 + j)
      have HTK := Lib.hid (take_snoc' pv j (by rw [HKK.out]; exact hlt))
      obtain ⟨x, hx⟩ : ∃ x, x = pv.getD j 0 := ⟨_, rfl⟩
      rw [← hx] at hd d0 HTK
      have d3 : wr.cell? ⟨g, 1 + j, none⟩ = some (.int .u8 (101 - x)) := d0
      have HNX := Lib.hid (show RowAt (wr.setCell ⟨w.heap.size, 1 + j, none⟩ (.int .u8 x)) w.heap.size w.heap.size m m (fillL (pb :: pv.take (j + 1)) (K - (j + 1))) from by
        have h1 := (fill_put (r := K - (j + 1)) (by rw [show K - (j + 1) + 1 = K - j by omega]; exact HROW.out) x (1 + j) (by rw [List.length_cons, List.length_take, HKK.out]; omega)).1
        rw [HTK.out]
        exact h1)
      generalize (fillL (pb :: pv.take j) (K - j)).getD (1 + j) 0 = z2 at d1
      have x0 : 0 ≤ x := hd.1
      have x1 : x ≤ 99 := hd.2
      have xe : 101 - (101 - x) = x := by omega
      have HKS := Lib.hid (hkw.set (p := ⟨w.heap.size, 1 + j, none⟩) (Nat.le_refl _) (.int .u8 x))
      have k1 : 1 + (j : Int) < (m : Int) := by omega
      have HLT := Lib.hid hlt
      clear hlt hj hrow hkw d0 hd hx hjn
      go_wp2
      go_roundg (K - (j + 1))
      case measure => have := HLT.out; omega
      case rel => exact ⟨j + 1, rfl, HLT.out, by go_num, HNX.out, HKS.out⟩
    · obtain rfl : j = K := by omega
      have k1 : ¬ 1 + (j : Int) < (m : Int) := by have := HM.out; omega
      clear hlt hj hrow hkw
      go_wp2
      go_ret
      exact HPOST.out _ (by
        have h1 := HROW.out
        rw [Nat.sub_self, List.take_of_length_le (by rw [HKK.out]; exact Nat.le_refl _)] at h1
        simpa [fillL] using h1) HKW.out
set_option maxRecDepth 100000 in
set_option maxHeartbeats 2000000 in
theorem fromLnx_nine1 (g n c K : Nat) (P : Int) (pv : List Int) (w : World) (h : NumIs w g n true P pv) (hp : Pairs pv) (hK : pv.length = K) (hs : K = 19) (hP0 : -60 ≤ P) (hP1 : P ≤ 60) (hP : P < 0) (hnc : n ≤ c) :
    Calls Tryd.prog 184 #[.slice (some ⟨g, 0, none⟩) n c] w (LnxPost P pv w) := by
  have hn : n = 2 + K := by rw [h.1, numB_neg _ _ (by omega), hK]
  have h0 : w.cell? ⟨g, 0, none⟩ = some (.int .u8 (62 - P)) := h.head
  have hK1 : 1 ≤ K := by have := hp.2.1; omega
  have hK2 : K ≤ 20 := by have := hp.2.2.1; omega
  have C := Lib.hid (isPositive_no g n c _ w h0 (by omega) (by omega) (by omega))
  obtain ⟨y, hy⟩ : ∃ y, y = 65 + P := ⟨_, rfl⟩
  have x1 : bits .xor .u8 (62 - P) 255 = 193 + P := by rw [xor255 _ (by omega) (by omega)]; omega
  have x2 : bits .and .u8 (193 + P) 127 = y := by rw [and127_hi _ (by omega) (by omega)]; omega
  have HPB := Lib.hid (show powB P = y + 191 from by unfold powB; rw [if_neg (by omega)]; omega)
  obtain ⟨pb, hpb⟩ : ∃ pb, pb = powB P := ⟨_, rfl⟩
  have y0 : 0 ≤ y := by omega
  have y1 : y ≤ 127 := by omega
  have b0 : 0 ≤ pb := by rw [hpb, HPB.out]; omega
  have b1 : pb ≤ 255 := by rw [hpb, HPB.out]; omega
  have yq : IntKind.u8.wrap (y - 65) = pb := by rw [hpb, HPB.out, IntKind.wrap_u8]; omega
  have y2 : y < 65 := by omega
  have HNI := Lib.hid h
  have HPR := Lib.hid hp
  have HKK := Lib.hid hK
  obtain ⟨m, hm⟩ : ∃ m, m = 1 + K := ⟨_, rfl⟩
  have nm : (n : Int) - 1 = (m : Int) := by omega
  have n20 : ((m : Int) == 20) = true := by simp; omega
  have nk : ((m : Int)).toNat = m := by omega
  have hl : w.cell? ⟨g, m, none⟩ = some (.int .u8 102) := by
    have := h.2 (1 + K) (by omega)
    rw [← hK, numB_last _ _ (by omega), hK] at this
    rw [hm]
    exact this
  have hmk := run_make_bytes .i64 .i64 m m (Nat.le_refl _) (by omega)
  have HPOST := Lib.hid (fun w' (h1 : RowAt w' w.heap.size w.heap.size m m (pb :: pv)) (h2 : Kp w w') => (show LnxPost P pv w (.returned (.slice (some ⟨w.heap.size, 0, none⟩) m m)) w' from by
    rw [hpb, show m = 1 + pv.length by omega] at h1
    exact ⟨w.heap.size, by rw [show m = 1 + pv.length by omega], h1, h2⟩))
  have hst := own_start w m (by omega)
  have z0 := own_cell hst 0 (by omega)
  have zf := hst.frozenAt 0
  have hr0 := (fill_put (r := K) (by
    have := hst
    rw [show fillL [] m = fillL [] (K + 1) by rw [show m = K + 1 by omega]] at this
    exact this) pb 0 rfl).1
  rw [World.setCell_alloc_at _ _ _ _ _ rfl] at hr0
  have HR0 := Lib.hid hr0
  generalize (fillL [] m).getD 0 0 = z at z0
  have h1 := below_some ((Kp.refl w).alloc (.cells (zeroA m) 5)) h0
  have i0 : (2 : Int) ≤ (n : Int) := by omega
  have i1 : (n : Int) ≤ 21 := by omega
  have i2 : (n : Int) ≤ (c : Int) := by omega
  have m0 : (2 : Int) ≤ (m : Int) := by omega
  have m1 : (m : Int) ≤ 21 := by omega
  have HM := Lib.hid (show m = 1 + K from by omega)
  clear h hp hK hnc hn hK1 hK2 hpb hm hP hP0 hP1 hy hst hr0 hs
  go_enter Tryd.func184, Tryd.ntmps184
  go_wp2_with fail
  refine C.out.mono ?_
  rintro e w1 ⟨rfl, rfl⟩
  clear C
  go_wp2_with fail
  go_loopg [6] K (fun G s5 wr => ∃ j : Nat, K - j = G ∧ j ≤ K ∧ s5 = .int .i64 (1 + (j : Int)) ∧ RowAt wr w.heap.size w.heap.size m m (fillL (pb :: pv.take j) (K - j)) ∧ Kp w wr)
  case atStart => exact ⟨0, rfl, Nat.zero_le _, rfl, HR0.out, (Kp.refl w).alloc _⟩
  case round =>
    obtain ⟨j, rfl, hj, rfl, hrow, hkw⟩ := hrel
    have HROW := Lib.hid hrow
    have HKW := Lib.hid hkw
    have k3 : (1 + (j : Int)).toNat = 1 + j := by omega
    by_cases hlt : j < K
    · have hd := HPR.out.at j (by rw [HKK.out]; exact hlt)
      have d0 := (HNI.out.kp hkw).pair j (by rw [HKK.out]; exact hlt)
      have hjn : 1 + j < m := by have := HM.out; omega
      have d1 := own_cell hrow (1 + j) hjn
      have d2 := hrow.frozenAt (1 + j)
      have HTK := Lib.hid (take_snoc' pv j (by rw [HKK.out]; exact hlt))
      obtain ⟨x, hx⟩ : ∃ x, x = pv.getD j 0 := ⟨_, rfl⟩
      rw [← hx] at hd d0 HTK
      have d3 : wr.cell? ⟨g, 1 + j, none⟩ = some (.int .u8 (101 - x)) := d0
      have HNX := Lib.hid (show RowAt (wr.setCell ⟨w.heap.size, 1 + j, none⟩ (.int .u8 x)) w.heap.size w.heap.size m m (fillL (pb :: pv.take (j + 1)) (K - (j + 1))) from by
        have h1 := (fill_put (r := K - (j + 1)) (by rw [show K - (j + 1) + 1 = K - j by omega]; exact HROW.out) x (1 + j) (by rw [List.length_cons, List.length_take, HKK.out]; omega)).1
        rw [HTK.out]
        exact h1)
      generalize (fillL (pb :: pv.take j) (K - j)).getD (1 + j) 0 = z2 at d1
      have x0 : 0 ≤ x := hd.1
      have x1 : x ≤ 99 := hd.2
      have xe : 101 - (101 - x) = x := by omega
      have HKS := Lib.hid (hkw.set (p := ⟨w.heap.size, 1 + j, none⟩) (Nat.le_refl _) (.int .u8 x))
      have k1 : 1 + (j : Int) < (m : Int) := by omega
      have HLT := Lib.hid hlt
      clear hlt hj hrow hkw d0 hd hx hjn
      go_wp2
      go_roundg (K - (j + 1))
      case measure => have := HLT.out; omega
      case rel => exact ⟨j + 1, rfl, HLT.out, by go_num, HNX.out, HKS.out⟩
    · obtain rfl : j = K := by omega
      have k1 : ¬ 1 + (j : Int) < (m : Int) := by have := HM.out; omega
      clear hlt hj hrow hkw
      go_wp2
      go_ret
      exact HPOST.out _ (by
        have h1 := HROW.out
        rw [Nat.sub_self, List.take_of_length_le (by rw [HKK.out]; exact Nat.le_refl _)] at h1
        simpa [fillL] using h1) HKW.out
set_option maxRecDepth 100000 in
set_option maxHeartbeats 2000000 in
theorem fromLnx_full0 (g n c K : Nat) (P : Int) (pv : List Int) (w : World) (h : NumIs w g n true P pv) (hp : Pairs pv) (hK : pv.length = K) (hs : K = 20) (hP0 : -60 ≤ P) (hP1 : P ≤ 60) (hP : 0 ≤ P) (hnc : n ≤ c) :
    Calls Tryd.prog 184 #[.slice (some ⟨g, 0, none⟩) n c] w (LnxPost P pv w) := by
  have hn : n = 1 + K := by rw [h.1, numB_full _ _ (by omega), hK]
  have h0 : w.cell? ⟨g, 0, none⟩ = some (.int .u8 (62 - P)) := h.head
  have hK1 : 1 ≤ K := by have := hp.2.1; omega
  have hK2 : K ≤ 20 := by have := hp.2.2.1; omega
  have C := Lib.hid (isPositive_no g n c _ w h0 (by omega) (by omega) (by omega))
  obtain ⟨y, hy⟩ : ∃ y, y = 65 + P := ⟨_, rfl⟩
  have x1 : bits .xor .u8 (62 - P) 255 = 193 + P := by rw [xor255 _ (by omega) (by omega)]; omega
  have x2 : bits .and .u8 (193 + P) 127 = y := by rw [and127_hi _ (by omega) (by omega)]; omega
  have HPB := Lib.hid (show powB P = y - 65 from by unfold powB; rw [if_pos hP]; omega)
  obtain ⟨pb, hpb⟩ : ∃ pb, pb = powB P := ⟨_, rfl⟩
  have y0 : 0 ≤ y := by omega
  have y1 : y ≤ 127 := by omega
  have b0 : 0 ≤ pb := by rw [hpb, HPB.out]; omega
  have b1 : pb ≤ 255 := by rw [hpb, HPB.out]; omega
  have yq : y - 65 = pb := by rw [hpb, HPB.out]
  have y2 : 65 ≤ y := by omega
  have HNI := Lib.hid h
  have HPR := Lib.hid hp
  have HKK := Lib.hid hK
  obtain ⟨m, hm⟩ : ∃ m, m = 1 + K := ⟨_, rfl⟩
  obtain rfl : n = m := by omega
  have n20 : ((n : Int) - 1 == 20) = true := by simp; omega
  have n21 : ((n : Int) - 1).toNat = n - 1 := by omega
  have hl : w.cell? ⟨g, n - 1, none⟩ = some (.int .u8 (101 - pv.getD (K - 1) 0)) := by
    have := h.pair (K - 1) (by omega)
    rw [show 1 + (K - 1) = n - 1 by omega] at this
    exact this
  have hlm := hp.2.2.2.2
  rw [hK] at hlm
  have hlx := (hp.at (K - 1) (by omega)).2
  generalize pv.getD (K - 1) 0 = l at hl hlm hlx
  have n2 : (101 - l != 102) = true := by simp; omega
  have hmk := run_make_bytes .i64 .i64 n n (Nat.le_refl _) (by omega)
  have HPOST := Lib.hid (fun w' (h1 : RowAt w' w.heap.size w.heap.size n n (pb :: pv)) (h2 : Kp w w') => (show LnxPost P pv w (.returned (.slice (some ⟨w.heap.size, 0, none⟩) n n)) w' from by
    rw [hpb, show n = 1 + pv.length by omega] at h1
    exact ⟨w.heap.size, by rw [show n = 1 + pv.length by omega], h1, h2⟩))
  have hst := own_start w n (by omega)
  have z0 := own_cell hst 0 (by omega)
  have zf := hst.frozenAt 0
  have hr0 := (fill_put (r := K) (by
    have := hst
    rw [show fillL [] n = fillL [] (K + 1) by rw [show n = K + 1 by omega]] at this
    exact this) pb 0 rfl).1
  rw [World.setCell_alloc_at _ _ _ _ _ rfl] at hr0
  have HR0 := Lib.hid hr0
  generalize (fillL [] n).getD 0 0 = z at z0
  have h1 := below_some ((Kp.refl w).alloc (.cells (zeroA n) 5)) h0
  have i0 : (2 : Int) ≤ (n : Int) := by omega
  have i1 : (n : Int) ≤ 21 := by omega
  have i2 : (n : Int) ≤ (c : Int) := by omega
  have m0 : (2 : Int) ≤ (n : Int) := by omega
  have m1 : (n : Int) ≤ 21 := by omega
  have HM := Lib.hid (show n = 1 + K from by omega)
  clear h hp hK hnc hn hK1 hK2 hpb hm hP hP0 hP1 hy hst hr0 hs
  go_enter Tryd.func184, Tryd.ntmps184
  go_wp2_with fail
  refine C.out.mono ?_
  rintro e w1 ⟨rfl, rfl⟩
  clear C
  go_wp2_with fail
  go_loopg [6] K (fun G s5 wr => ∃ j : Nat, K - j = G ∧ j ≤ K ∧ s5 = .int .i64 (1 + (j : Int)) ∧ RowAt wr w.heap.size w.heap.size n n (fillL (pb :: pv.take j) (K - j)) ∧ Kp w wr)
  case atStart => exact ⟨0, rfl, Nat.zero_le _, rfl, HR0.out, (Kp.refl w).alloc _⟩
  case round =>
    obtain ⟨j, rfl, hj, rfl, hrow, hkw⟩ := hrel
    have HROW := Lib.hid hrow
    have HKW := Lib.hid hkw
    have k3 : (1 + (j : Int)).toNat = 1 + j := by omega
    by_cases hlt : j < K
    · have hd := HPR.out.at j (by rw [HKK.out]; exact hlt)
      have d0 := (HNI.out.kp hkw).pair j (by rw [HKK.out]; exact hlt)
      have hjn : 1 + j < n := by have := HM.out; omega
      have d1 := own_cell hrow (1 + j) hjn
      have d2 := hrow.frozenAt (1 + j)
      have HTK := Lib.hid (take_snoc' pv j (by rw [HKK.out]; exact hlt))
      obtain ⟨x, hx⟩ : ∃ x, x = pv.getD j 0 := ⟨_, rfl⟩
      rw [← hx] at hd d0 HTK
      have d3 : wr.cell? ⟨g, 1 + j, none⟩ = some (.int .u8 (101 - x)) := d0
      have HNX := Lib.hid (show RowAt (wr.setCell ⟨w.heap.size, 1 + j, none⟩ (.int .u8 x)) w.heap.size w.heap.size n n (fillL (pb :: pv.take (j + 1)) (K - (j + 1))) from by
        have h1 := (fill_put (r := K - (j + 1)) (by rw [show K - (j + 1) + 1 = K - j by omega]; exact HROW.out) x (1 + j) (by rw [List.length_cons, List.length_take, HKK.out]; omega)).1
        rw [HTK.out]
        exact h1)
      generalize (fillL (pb :: pv.take j) (K - j)).getD (1 + j) 0 = z2 at d1
      have x0 : 0 ≤ x := hd.1
      have x1 : x ≤ 99 := hd.2
      have xe : 101 - (101 - x) = x := by omega
      have HKS := Lib.hid (hkw.set (p := ⟨w.heap.size, 1 + j, none⟩) (Nat.le_refl _) (.int .u8 x))
      have k1 : 1 + (j : Int) < (n : Int) := by omega
      have HLT := Lib.hid hlt
      clear hlt hj hrow hkw d0 hd hx hjn
      go_wp2
      go_roundg (K - (j + 1))
      case measure => have := HLT.out; omega
      case rel => exact ⟨j + 1, rfl, HLT.out, by go_num, HNX.out, HKS.out⟩
    · obtain rfl : j = K := by omega
      have k1 : ¬ 1 + (j : Int) < (n : Int) := by have := HM.out; omega
      clear hlt hj hrow hkw
      go_wp2
      go_ret
      exact HPOST.out _ (by
        have h1 := HROW.out
        rw [Nat.sub_self, List.take_of_length_le (by rw [HKK.out]; exact Nat.le_refl _)] at h1
        simpa [fillL] using h1) HKW.out
set_option maxRecDepth 100000 in
set_option maxHeartbeats 2000000 in
theorem fromLnx_full1 (g n c K : Nat) (P : Int) (pv : List Int) (w : World) (h : NumIs w g n true P pv) (hp : Pairs pv) (hK : pv.length = K) (hs : K = 20) (hP0 : -60 ≤ P) (hP1 : P ≤ 60) (hP : P < 0) (hnc : n ≤ c) :
    Calls Tryd.prog 184 #[.slice (some ⟨g, 0, none⟩) n c] w (LnxPost P pv w) := by
  have hn : n = 1 + K := by rw [h.1, numB_full _ _ (by omega), hK]
  have h0 : w.cell? ⟨g, 0, none⟩ = some (.int .u8 (62 - P)) := h.head
  have hK1 : 1 ≤ K := by have := hp.2.1; omega
  have hK2 : K ≤ 20 := by have := hp.2.2.1; omega
  have C := Lib.hid (isPositive_no g n c _ w h0 (by omega) (by omega) (by omega))
  obtain ⟨y, hy⟩ : ∃ y, y = 65 + P := ⟨_, rfl⟩
  have x1 : bits .xor .u8 (62 - P) 255 = 193 + P := by rw [xor255 _ (by omega) (by omega)]; omega
  have x2 : bits .and .u8 (193 + P) 127 = y := by rw [and127_hi _ (by omega) (by omega)]; omega
  have HPB := Lib.hid (show powB P = y + 191 from by unfold powB; rw [if_neg (by omega)]; omega)
  obtain ⟨pb, hpb⟩ : ∃ pb, pb = powB P := ⟨_, rfl⟩
  have y0 : 0 ≤ y := by omega
  have y1 : y ≤ 127 := by omega
  have b0 : 0 ≤ pb := by rw [hpb, HPB.out]; omega
  have b1 : pb ≤ 255 := by rw [hpb, HPB.out]; omega
  have yq : IntKind.u8.wrap (y - 65) = pb := by rw [hpb, HPB.out, IntKind.wrap_u8]; omega
  have y2 : y < 65 := by omega
  have HNI := Lib.hid h
  have HPR := Lib.hid hp
  have HKK := Lib.hid hK
  obtain ⟨m, hm⟩ : ∃ m, m = 1 + K := ⟨_, rfl⟩
  obtain rfl : n = m := by omega
  have n20 : ((n : Int) - 1 == 20) = true := by simp; omega
  have n21 : ((n : Int) - 1).toNat = n - 1 := by omega
  have hl : w.cell? ⟨g, n - 1, none⟩ = some (.int .u8 (101 - pv.getD (K - 1) 0)) := by
    have := h.pair (K - 1) (by omega)
    rw [show 1 + (K - 1) = n - 1 by omega] at this
    exact this
  have hlm := hp.2.2.2.2
  rw [hK] at hlm
  have hlx := (hp.at (K - 1) (by omega)).2
  generalize pv.getD (K - 1) 0 = l at hl hlm hlx
  have n2 : (101 - l != 102) = true := by simp; omega
  have hmk := run_make_bytes .i64 .i64 n n (Nat.le_refl _) (by omega)
  have HPOST := Lib.hid (fun w' (h1 : RowAt w' w.heap.size w.heap.size n n (pb :: pv)) (h2 : Kp w w') => (show LnxPost P pv w (.returned (.slice (some ⟨w.heap.size, 0, none⟩) n n)) w' from by
    rw [hpb, show n = 1 + pv.length by omega] at h1
    exact ⟨w.heap.size, by rw [show n = 1 + pv.length by omega], h1, h2⟩))
  have hst := own_start w n (by omega)
  have z0 := own_cell hst 0 (by omega)
  have zf := hst.frozenAt 0
  have hr0 := (fill_put (r := K) (by
    have := hst
    rw [show fillL [] n = fillL [] (K + 1) by rw [show n = K + 1 by omega]] at this
    exact this) pb 0 rfl).1
  rw [World.setCell_alloc_at _ _ _ _ _ rfl] at hr0
  have HR0 := Lib.hid hr0
  generalize (fillL [] n).getD 0 0 = z at z0
  have h1 := below_some ((Kp.refl w).alloc (.cells (zeroA n) 5)) h0
  have i0 : (2 : Int) ≤ (n : Int) := by omega
  have i1 : (n : Int) ≤ 21 := by omega
  have i2 : (n : Int) ≤ (c : Int) := by omega
  have m0 : (2 : Int) ≤ (n : Int) := by omega
  have m1 : (n : Int) ≤ 21 := by omega
  have HM := Lib.hid (show n = 1 + K from by omega)
  clear h hp hK hnc hn hK1 hK2 hpb hm hP hP0 hP1 hy hst hr0 hs
  go_enter Tryd.func184, Tryd.ntmps184
  go_wp2_with fail
  refine C.out.mono ?_
  rintro e w1 ⟨rfl, rfl⟩
  clear C
  go_wp2_with fail
  go_loopg [6] K (fun G s5 wr => ∃ j : Nat, K - j = G ∧ j ≤ K ∧ s5 = .int .i64 (1 + (j : Int)) ∧ RowAt wr w.heap.size w.heap.size n n (fillL (pb :: pv.take j) (K - j)) ∧ Kp w wr)
  case atStart => exact ⟨0, rfl, Nat.zero_le _, rfl, HR0.out, (Kp.refl w).alloc _⟩
  case round =>
    obtain ⟨j, rfl, hj, rfl, hrow, hkw⟩ := hrel
    have HROW := Lib.hid hrow
    have HKW := Lib.hid hkw
    have k3 : (1 + (j : Int)).toNat = 1 + j := by omega
    by_cases hlt : j < K
    · have hd := HPR.out.at j (by rw [HKK.out]; exact hlt)
      have d0 := (HNI.out.kp hkw).pair j (by rw [HKK.out]; exact hlt)
      have hjn : 1 + j < n := by have := HM.out; omega
      have d1 := own_cell hrow (1 + j) hjn
      have d2 := hrow.frozenAt (1 + j)
      have HTK := Lib.hid (take_snoc' pv j (by rw [HKK.out]; exact hlt))
      obtain ⟨x, hx⟩ : ∃ x, x = pv.getD j 0 := ⟨_, rfl⟩
      rw [← hx] at hd d0 HTK
      have d3 : wr.cell? ⟨g, 1 + j, none⟩ = some (.int .u8 (101 - x)) := d0
      have HNX := Lib.hid (show RowAt (wr.setCell ⟨w.heap.size, 1 + j, none⟩ (.int .u8 x)) w.heap.size w.heap.size n n (fillL (pb :: pv.take (j + 1)) (K - (j + 1))) from by
        have h1 := (fill_put (r := K - (j + 1)) (by rw [show K - (j + 1) + 1 = K - j by omega]; exact HROW.out) x (1 + j) (by rw [List.length_cons, List.length_take, HKK.out]; omega)).1
        rw [HTK.out]
        exact h1)
      generalize (fillL (pb :: pv.take j) (K - j)).getD (1 + j) 0 = z2 at d1
      have x0 : 0 ≤ x := hd.1
      have x1 : x ≤ 99 := hd.2
      have xe : 101 - (101 - x) = x := by omega
      have HKS := Lib.hid (hkw.set (p := ⟨w.heap.size, 1 + j, none⟩) (Nat.le_refl _) (.int .u8 x))
      have k1 : 1 + (j : Int) < (n : Int) := by omega
      have HLT := Lib.hid hlt
      clear hlt hj hrow hkw d0 hd hx hjn
      go_wp2
      go_roundg (K - (j + 1))
      case measure => have := HLT.out; omega
      case rel => exact ⟨j + 1, rfl, HLT.out, by go_num, HNX.out, HKS.out⟩
    · obtain rfl : j = K := by omega
      have k1 : ¬ 1 + (j : Int) < (n : Int) := by have := HM.out; omega
      clear hlt hj hrow hkw
      go_wp2
      go_ret
      exact HPOST.out _ (by
        have h1 := HROW.out
        rw [Nat.sub_self, List.take_of_length_le (by rw [HKK.out]; exact Nat.le_refl _)] at h1
        simpa [fillL] using h1) HKW.out

theorem isPositive_any (g n c : Nat) (neg : Bool) (P : Int) (pv : List Int) (w : World) (h : NumIs w g n neg P pv) (hp : Pairs pv) (hP0 : -60 ≤ P) (hP1 : P ≤ 60) : Calls Tryd.prog 185 #[.slice (some ⟨g, 0, none⟩) n c] w (BoolPost (!neg) w) := by
  have h0 := h.head
  have hn : 2 ≤ n := by
    have := hp.2.1
    rw [h.1]
    unfold numB
    simp only [List.length_cons, List.length_append, List.length_map]
    omega
  cases neg
  · exact isPositive_yes g n c _ w h0 (by simp only [Bool.false_eq_true, if_false]; omega) (by simp only [Bool.false_eq_true, if_false]; omega) hn
  · exact isPositive_no g n c _ w h0 (by simp only [if_true]; omega) (by simp only [if_true]; omega) hn
theorem isValid_any (g n c : Nat) (neg : Bool) (P : Int) (pv : List Int) (w : World) (h : NumIs w g n neg P pv) (hp : Pairs pv) (hP0 : -60 ≤ P) (hP1 : P ≤ 60) (hnc : n ≤ c) : Calls Tryd.prog 183 #[.slice (some ⟨g, 0, none⟩) n c] w (BoolPost true w) := by
  cases neg
  · exact isValid_pos g n c _ P pv w h hp rfl hP0 hP1 hnc
  · by_cases hs : pv.length < 20
    · exact isValid_neg g n c _ P pv w h hp rfl hs hP0 hP1 hnc
    · exact isValid_full g n c _ P pv w h hp rfl (by have := hp.2.2.1; omega) hP0 hP1 hnc
theorem fromLnx_any (g n c : Nat) (neg : Bool) (P : Int) (pv : List Int) (w : World) (h : NumIs w g n neg P pv) (hp : Pairs pv) (hP0 : -60 ≤ P) (hP1 : P ≤ 60) (hnc : n ≤ c) : Calls Tryd.prog 184 #[.slice (some ⟨g, 0, none⟩) n c] w (LnxPost P pv w) := by
  cases neg
  · by_cases hP : 0 ≤ P
    · exact fromLnx_pos0 g n c _ P pv w h hp rfl hP0 hP1 hP hnc
    · exact fromLnx_pos1 g n c _ P pv w h hp rfl hP0 hP1 (by omega) hnc
  · by_cases hs : pv.length < 19
    · by_cases hP : 0 ≤ P
      · exact fromLnx_neg0 g n c _ P pv w h hp rfl hs hP0 hP1 hP hnc
      · exact fromLnx_neg1 g n c _ P pv w h hp rfl hs hP0 hP1 (by omega) hnc
    · by_cases h19 : pv.length = 19
      · by_cases hP : 0 ≤ P
        · exact fromLnx_nine0 g n c _ P pv w h hp rfl h19 hP0 hP1 hP hnc
        · exact fromLnx_nine1 g n c _ P pv w h hp rfl h19 hP0 hP1 (by omega) hnc
      have hf : pv.length = 20 := by have := hp.2.2.1; omega
      by_cases hP : 0 ≤ P
      · exact fromLnx_full0 g n c _ P pv w h hp rfl hf hP0 hP1 hP hnc
      · exact fromLnx_full1 g n c _ P pv w h hp rfl hf hP0 hP1 (by omega) hnc
end Go.Proofs.YtcdbnjhkjfimkaaDoor
