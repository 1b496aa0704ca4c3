/-
  toInt64: the number of the pairs.
-/
import Derived.Test.YtcdbnjhkjfimkaaDoorTx16
namespace Go.Proofs.YtcdbnjhkjfimkaaDoor
open Go Go.RowKit

/-- The number that pairs make. -/
def pvI (l : List Int) : Int := l.foldl (fun a x => a * 100 + x) 0
theorem pvI_snoc (l : List Int) (x : Int) : pvI (l ++ [x]) = pvI l * 100 + x := by simp [pvI]
theorem pvI_fold : ∀ (l : List Int) (a : Int), 0 ≤ a → (∀ x ∈ l, 0 ≤ x) → a ≤ l.foldl (fun a x => a * 100 + x) a
  | [], a, _, _ => Int.le_refl _
  | x :: l, a, ha, h => by
    have hx := h x (by simp)
    have ih := pvI_fold l (a * 100 + x) (by omega) (fun y hy => h y (by simp [hy]))
    rw [List.foldl_cons]
    omega
theorem pvI_nonneg (l : List Int) (h : ∀ x ∈ l, 0 ≤ x) : 0 ≤ pvI l := pvI_fold l 0 (Int.le_refl _) h
theorem pvI_take (l : List Int) (j : Nat) (h : ∀ x ∈ l, 0 ≤ x) : pvI (l.take j) ≤ pvI l := by
  have e : pvI l = (l.drop j).foldl (fun a x => a * 100 + x) (pvI (l.take j)) := by
    conv => lhs; rw [← List.take_append_drop j l]
    unfold pvI
    rw [List.foldl_append]
  rw [e]
  exact pvI_fold _ _ (pvI_nonneg _ (fun x hx => h x (List.mem_of_mem_take hx))) (fun x hx => h x (List.mem_of_mem_drop hx))
/-- The number behind j further noughts, two by two. -/
def scI (v : Int) : Nat → Int
  | 0 => v
  | j + 1 => scI v j * 100
theorem scI_le (v : Int) (h : 0 ≤ v) : ∀ j k, j ≤ k → scI v j ≤ scI v k ∧ 0 ≤ scI v j := by
  have hn : ∀ j, 0 ≤ scI v j := fun j => by
    induction j with
    | zero => exact h
    | succ j ih => unfold scI; omega
  intro j k hjk
  refine ⟨?_, hn j⟩
  induction k with
  | zero => obtain rfl : j = 0 := by omega
            exact Int.le_refl _
  | succ k ih =>
    rcases Nat.lt_or_ge j (k + 1) with h1 | h1
    · have h2 := ih (by omega)
      have h3 := hn k
      show _ ≤ scI v k * 100
      omega
    · obtain rfl : j = k + 1 := by omega
      exact Int.le_refl _
def I64Post (n : Int) (w : World) (e : Ending) (w' : World) : Prop := e = .returned (.tuple #[.int .i64 n, .nilIface]) ∧ w = w'
theorem w64 (x : Int) : wrap64 x = IntKind.i64.wrap x := by
  unfold wrap64
  rw [IntKind.wrap_i64]
set_option maxRecDepth 100000 in
set_option maxHeartbeats 2000000 in
theorem toInt64_pos (g n c K P q : Nat) (pv : List Int) (N : Int) (w : World) (h : NumIs w g n false (P : Int) pv) (hp : Pairs pv) (hK : pv.length = K) (hq : K + q = P + 1) (hP : P ≤ 9) (hV : scI (pvI pv) q = N) (hN : N ≤ 9223372036854775808) (hnc : n ≤ c) (r : Int) (hr : IntKind.i64.wrap N = r) :
    Calls Tryd.prog 178 #[.slice (some ⟨g, 0, none⟩) n c] w (I64Post r w) := by
  have hK1 : 1 ≤ K := by have := hp.2.1; omega
  have hn : n = 1 + K := by rw [h.1, numB_pos, hK]
  have h0 : w.cell? ⟨g, 0, none⟩ = some (.int .u8 (193 + (P : Int))) := h.head
  have C := Lib.hid (isPositive_yes g n c _ w h0 (by omega) (by omega) (by omega))
  have x2 : bits .and .u8 (193 + (P : Int)) 127 = 65 + (P : Int) := by rw [and127_hi _ (by omega) (by omega)]; omega
  have pe : 65 + (P : Int) - 65 = (P : Int) := by omega
  have hnn : ∀ x ∈ pv, 0 ≤ x := fun x hx => (hp.1 x hx).1
  have HC := Lib.hid (show ∀ j, j < K → ∃ x : Int, x = pv.getD j 0 ∧ 0 ≤ x ∧ x ≤ 99 ∧ w.cell? ⟨g, 1 + j, none⟩ = some (.int .u8 (x + 1)) from fun j hj => ⟨pv.getD j 0, rfl, (hp.at j (by omega)).1, (hp.at j (by omega)).2, h.pair j (by omega)⟩)
  have HSC := Lib.hid (scI_le (pvI pv) (pvI_nonneg pv hnn))
  have HTK := Lib.hid (fun j (hj : j < K) => (show pvI (pv.take (j + 1)) = pvI (pv.take j) * 100 + pv.getD j 0 from by rw [take_snoc' pv j (by omega), pvI_snoc]))
  have HTL := Lib.hid (fun j => (show 0 ≤ pvI (pv.take j) ∧ pvI (pv.take j) ≤ pvI pv from ⟨pvI_nonneg _ (fun x hx => hnn x (List.mem_of_mem_take hx)), pvI_take pv j hnn⟩))
  have HFU := Lib.hid (show pv.take K = pv from List.take_of_length_le (by omega))
  have HV := Lib.hid hV
  have HNB := Lib.hid hN
  have HR := Lib.hid hr
  have HN := Lib.hid hn
  have i0 : (2 : Int) ≤ (n : Int) := by omega
  have i1 : (n : Int) ≤ 12 := by omega
  have i2 : (n : Int) ≤ (c : Int) := by omega
  have p0 : (0 : Int) ≤ (P : Int) := by omega
  have p1 : (P : Int) ≤ 9 := by omega
  have kn : (n : Int) - 1 = (K : Int) := by omega
  have n21 : ((n : Int) == 21) = false := by simp; omega
  have kp : ¬ ((P : Int) + 1 < (K : Int)) := by omega
  have kp2 : decide ((P : Int) + 1 < (K : Int)) = false := decide_eq_false kp
  have pq : (P : Int) - (K : Int) = (q : Int) - 1 := by omega
  have HQ := Lib.hid hq
  have HKK := Lib.hid hK1
  clear h hp hK hq hP hV hN hnc hn hK1 hnn hr
  go_enter Tryd.func178, Tryd.ntmps178
  go_wp2_with fail
  refine C.out.mono ?_
  rintro e w1 ⟨rfl, rfl⟩
  clear C
  go_wp2_with fail
  go_loopg [9, 8] K (fun G si s8 wr => ∃ j : Nat, K - j = G ∧ j ≤ K ∧ si = .int .i64 (j : Int) ∧ s8 = .int .i64 (IntKind.i64.wrap (pvI (pv.take j))) ∧ w = wr)
  case atStart => exact ⟨0, rfl, Nat.zero_le _, rfl, int_eq (by rw [IntKind.wrap_i64]; show (0 : Int) = (0 + 9223372036854775808) % 18446744073709551616 - 9223372036854775808; decide), rfl⟩
  case round =>
    obtain ⟨j, rfl, hj, rfl, rfl, rfl⟩ := hrel
    have j0 : (0 : Int) ≤ (j : Int) := by omega
    have j1 : ((j : Int) + 1).toNat = 1 + j := by omega
    by_cases hlt : j < K
    · obtain ⟨x, hx, x0, x1, d0⟩ := HC.out j hlt
      have j2 : (j : Int) < (K : Int) := by omega
      have j3 : (j : Int) + 1 < (n : Int) := by omega
      have htk := HTK.out j hlt
      have htl := HTL.out (j + 1)
      have htl0 := HTL.out j
      have hsc := HSC.out 0 q (Nat.zero_le _)
      have hv := HV.out
      have hnb := HNB.out
      have hs0 : scI (pvI pv) 0 = pvI pv := rfl
      rw [← hx] at htk
      obtain ⟨a, ha⟩ : ∃ a, a = pvI (pv.take j) := ⟨_, rfl⟩
      rw [← ha] at htk htl0 ⊢
      rw [htk] at htl
      have a0 : 0 ≤ a := htl0.1
      have a1 : a ≤ 92233720368547758 := by omega
      have wa : IntKind.i64.wrap a = a := by rw [IntKind.wrap_i64]; omega
      have xe : x + 1 - 1 = x := by omega
      have HT := Lib.hid htk
      have HLT := Lib.hid hlt
      rw [wa]
      clear wa hlt hj hx htk htl htl0 hsc hv hnb hs0 ha
      go_wp2
      go_roundg (K - (j + 1))
      case measure => have := HLT.out; omega
      case rel => exact ⟨j + 1, rfl, HLT.out, by go_num, int_eq (by rw [HT.out, ← w64]), rfl⟩
    · obtain rfl : j = K := by omega
      rw [HFU.out]
      clear hlt hj j1
      go_wp2
      go_loopg [11, 8] q (fun G s11 s8 wr => ∃ i : Nat, q - i = G ∧ i ≤ q ∧ s11 = .int .i64 ((q : Int) - 1 - (i : Int)) ∧ s8 = .int .i64 (IntKind.i64.wrap (scI (pvI pv) i)) ∧ w = wr)
      case atStart => exact ⟨0, rfl, Nat.zero_le _, int_eq (by omega), by first | rfl | exact int_eq (w64 _), rfl⟩
      case round =>
      obtain ⟨i, rfl, hi, rfl, rfl, rfl⟩ := hrel
      have qb : (q : Int) ≤ 10 := by have := HQ.out; omega
      by_cases hlt : i < q
      · have i3 : (0 : Int) ≤ (q : Int) - 1 - (i : Int) := by omega
        have i4 : (0 : Int) ≤ (i : Int) := by omega
        have hsc := HSC.out (i + 1) q hlt
        have hsc0 := HSC.out i q (by omega)
        have hv := HV.out
        have hnb := HNB.out
        have hs1 : scI (pvI pv) (i + 1) = scI (pvI pv) i * 100 := rfl
        obtain ⟨a, ha⟩ : ∃ a, a = scI (pvI pv) i := ⟨_, rfl⟩
        rw [← ha] at hsc0 hs1 ⊢
        have a0 : 0 ≤ a := hsc0.2
        have a1 : a ≤ 92233720368547758 := by omega
        have wa : IntKind.i64.wrap a = a := by rw [IntKind.wrap_i64]; omega
        have HS1 := Lib.hid (show IntKind.i64.wrap (scI (pvI pv) (i + 1)) = a * 100 from by rw [hs1, IntKind.wrap_i64]; omega)
        have HLT := Lib.hid hlt
        rw [wa]
        clear wa hlt hi hsc hsc0 hv hnb hs1 ha
        go_wp2
        go_roundg (q - (i + 1))
        case measure => have := HLT.out; omega
        case rel => exact ⟨i + 1, rfl, HLT.out, int_eq (by omega), int_eq HS1.out.symm, rfl⟩
      · obtain rfl : i = q := by omega
        have i3 : ¬ (0 : Int) ≤ (i : Int) - 1 - (i : Int) := by omega
        rw [show IntKind.i64.wrap (scI (pvI pv) i) = r from by rw [HV.out]; exact HR.out]
        clear hlt hi
        go_wp2
        go_ret2
        exact ⟨rfl, rfl⟩
set_option maxRecDepth 100000 in
set_option maxHeartbeats 2000000 in
theorem toInt64_neg (g n c K P q : Nat) (pv : List Int) (N : Int) (w : World) (h : NumIs w g n true (P : Int) pv) (hp : Pairs pv) (hK : pv.length = K) (hq : K + q = P + 1) (hP : P ≤ 9) (hV : scI (pvI pv) q = N) (hN : N ≤ 9223372036854775808) (hnc : n ≤ c) (r r2 : Int) (hr : IntKind.i64.wrap N = r) (hr2 : IntKind.i64.wrap (-r) = r2) :
    Calls Tryd.prog 178 #[.slice (some ⟨g, 0, none⟩) n c] w (I64Post r2 w) := by
  have hK1 : 1 ≤ K := by have := hp.2.1; omega
  have hn : n = 2 + K := by rw [h.1, numB_neg _ _ (by omega), hK]
  have h0 : w.cell? ⟨g, 0, none⟩ = some (.int .u8 (62 - (P : Int))) := h.head
  have C := Lib.hid (isPositive_no g n c _ w h0 (by omega) (by omega) (by omega))
  have x1 : bits .xor .u8 (62 - (P : Int)) 255 = 193 + (P : Int) := by rw [xor255 _ (by omega) (by omega)]; omega
  have x2 : bits .and .u8 (193 + (P : Int)) 127 = 65 + (P : Int) := by rw [and127_hi _ (by omega) (by omega)]; omega
  have pe : 65 + (P : Int) - 65 = (P : Int) := by omega
  have hnn : ∀ x ∈ pv, 0 ≤ x := fun x hx => (hp.1 x hx).1
  have HC := Lib.hid (show ∀ j, j < K → ∃ x : Int, x = pv.getD j 0 ∧ 0 ≤ x ∧ x ≤ 99 ∧ w.cell? ⟨g, 1 + j, none⟩ = some (.int .u8 (101 - x)) from fun j hj => ⟨pv.getD j 0, rfl, (hp.at j (by omega)).1, (hp.at j (by omega)).2, h.pair j (by omega)⟩)
  have HSC := Lib.hid (scI_le (pvI pv) (pvI_nonneg pv hnn))
  have HTK := Lib.hid (fun j (hj : j < K) => (show pvI (pv.take (j + 1)) = pvI (pv.take j) * 100 + pv.getD j 0 from by rw [take_snoc' pv j (by omega), pvI_snoc]))
  have HTL := Lib.hid (fun j => (show 0 ≤ pvI (pv.take j) ∧ pvI (pv.take j) ≤ pvI pv from ⟨pvI_nonneg _ (fun x hx => hnn x (List.mem_of_mem_take hx)), pvI_take pv j hnn⟩))
  have HFU := Lib.hid (show pv.take K = pv from List.take_of_length_le (by omega))
  have HV := Lib.hid hV
  have HNB := Lib.hid hN
  have HR := Lib.hid hr
  have HN := Lib.hid hn
  have i0 : (2 : Int) ≤ (n : Int) := by omega
  have i1 : (n : Int) ≤ 12 := by omega
  have i2 : (n : Int) ≤ (c : Int) := by omega
  have p0 : (0 : Int) ≤ (P : Int) := by omega
  have p1 : (P : Int) ≤ 9 := by omega
  have kn : (n : Int) - 2 = (K : Int) := by omega
  have n21 : ((n : Int) == 21) = false := by simp; omega
  have kp : ¬ ((P : Int) + 1 < (K : Int)) := by omega
  have kp2 : decide ((P : Int) + 1 < (K : Int)) = false := decide_eq_false kp
  have pq : (P : Int) - (K : Int) = (q : Int) - 1 := by omega
  have HQ := Lib.hid hq
  have HKK := Lib.hid hK1
  clear h hp hK hq hP hV hN hnc hn hK1 hnn hr
  go_enter Tryd.func178, Tryd.ntmps178
  go_wp2_with fail
  refine C.out.mono ?_
  rintro e w1 ⟨rfl, rfl⟩
  clear C
  go_wp2_with fail
  go_loopg [10, 8] K (fun G si s8 wr => ∃ j : Nat, K - j = G ∧ j ≤ K ∧ si = .int .i64 (j : Int) ∧ s8 = .int .i64 (IntKind.i64.wrap (pvI (pv.take j))) ∧ w = wr)
  case atStart => exact ⟨0, rfl, Nat.zero_le _, rfl, int_eq (by rw [IntKind.wrap_i64]; show (0 : Int) = (0 + 9223372036854775808) % 18446744073709551616 - 9223372036854775808; decide), rfl⟩
  case round =>
    obtain ⟨j, rfl, hj, rfl, rfl, rfl⟩ := hrel
    have j0 : (0 : Int) ≤ (j : Int) := by omega
    have j1 : ((j : Int) + 1).toNat = 1 + j := by omega
    by_cases hlt : j < K
    · obtain ⟨x, hx, x0, x1, d0⟩ := HC.out j hlt
      have j2 : (j : Int) < (K : Int) := by omega
      have j3 : (j : Int) + 1 < (n : Int) := by omega
      have htk := HTK.out j hlt
      have htl := HTL.out (j + 1)
      have htl0 := HTL.out j
      have hsc := HSC.out 0 q (Nat.zero_le _)
      have hv := HV.out
      have hnb := HNB.out
      have hs0 : scI (pvI pv) 0 = pvI pv := rfl
      rw [← hx] at htk
      obtain ⟨a, ha⟩ : ∃ a, a = pvI (pv.take j) := ⟨_, rfl⟩
      rw [← ha] at htk htl0 ⊢
      rw [htk] at htl
      have a0 : 0 ≤ a := htl0.1
      have a1 : a ≤ 92233720368547758 := by omega
      have wa : IntKind.i64.wrap a = a := by rw [IntKind.wrap_i64]; omega
      have xe : 101 - (101 - x) = x := by omega
      have HT := Lib.hid htk
      have HLT := Lib.hid hlt
      rw [wa]
      clear wa hlt hj hx htk htl htl0 hsc hv hnb hs0 ha
      go_wp2
      go_roundg (K - (j + 1))
      case measure => have := HLT.out; omega
      case rel => exact ⟨j + 1, rfl, HLT.out, by go_num, int_eq (by rw [HT.out, ← w64]), rfl⟩
    · obtain rfl : j = K := by omega
      rw [HFU.out]
      clear hlt hj j1
      go_wp2
      go_loopg [11, 8] q (fun G s11 s8 wr => ∃ i : Nat, q - i = G ∧ i ≤ q ∧ s11 = .int .i64 ((q : Int) - 1 - (i : Int)) ∧ s8 = .int .i64 (IntKind.i64.wrap (scI (pvI pv) i)) ∧ w = wr)
      case atStart => exact ⟨0, rfl, Nat.zero_le _, int_eq (by omega), by first | rfl | exact int_eq (w64 _), rfl⟩
      case round =>
      obtain ⟨i, rfl, hi, rfl, rfl, rfl⟩ := hrel
      have qb : (q : Int) ≤ 10 := by have := HQ.out; omega
      by_cases hlt : i < q
      · have i3 : (0 : Int) ≤ (q : Int) - 1 - (i : Int) := by omega
        have i4 : (0 : Int) ≤ (i : Int) := by omega
        have hsc := HSC.out (i + 1) q hlt
        have hsc0 := HSC.out i q (by omega)
        have hv := HV.out
        have hnb := HNB.out
        have hs1 : scI (pvI pv) (i + 1) = scI (pvI pv) i * 100 := rfl
        obtain ⟨a, ha⟩ : ∃ a, a = scI (pvI pv) i := ⟨_, rfl⟩
        rw [← ha] at hsc0 hs1 ⊢
        have a0 : 0 ≤ a := hsc0.2
        have a1 : a ≤ 92233720368547758 := by omega
        have wa : IntKind.i64.wrap a = a := by rw [IntKind.wrap_i64]; omega
        have HS1 := Lib.hid (show IntKind.i64.wrap (scI (pvI pv) (i + 1)) = a * 100 from by rw [hs1, IntKind.wrap_i64]; omega)
        have HLT := Lib.hid hlt
        rw [wa]
        clear wa hlt hi hsc hsc0 hv hnb hs1 ha
        go_wp2
        go_roundg (q - (i + 1))
        case measure => have := HLT.out; omega
        case rel => exact ⟨i + 1, rfl, HLT.out, int_eq (by omega), int_eq HS1.out.symm, rfl⟩
      · obtain rfl : i = q := by omega
        have i3 : ¬ (0 : Int) ≤ (i : Int) - 1 - (i : Int) := by omega
        rw [show IntKind.i64.wrap (scI (pvI pv) i) = r from by rw [HV.out]; exact HR.out]
        clear hlt hi
        go_wp2
        go_ret2
        exact ⟨rfl, rfl⟩
end Go.Proofs.YtcdbnjhkjfimkaaDoor
