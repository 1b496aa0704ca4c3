/-
  The reference's reader of a decimal text: spec.NumberRead.
-/
import Derived.Test.YtcdbnjhkjfimkaaDoorTx8
namespace Go.Proofs.YtcdbnjhkjfimkaaDoor
open Go Go.RowKit

/-- The letters of a number: digits, and perhaps a point and digits. -/
def bodyT (A B : List Int) (pt : Bool) : List Int := A ++ if pt then 46 :: B else []
/-- The digits of both. -/
def digT (A B : List Int) (pt : Bool) : List Int := (A ++ if pt then B else []).map (· - 48)
theorem bodyT_A (A B : List Int) (pt : Bool) (i : Nat) (h : i < A.length) : (bodyT A B pt).getD i 0 = A.getD i 0 := by
  unfold bodyT
  rw [List.getD_eq_getElem?_getD, List.getElem?_append_left h, ← List.getD_eq_getElem?_getD]
theorem bodyT_pt (A B : List Int) : (bodyT A B true).getD A.length 0 = 46 := by
  unfold bodyT
  rw [List.getD_eq_getElem?_getD, List.getElem?_append_right (Nat.le_refl _), Nat.sub_self]
  rfl
theorem bodyT_B (A B : List Int) (i : Nat) : (bodyT A B true).getD (A.length + 1 + i) 0 = B.getD i 0 := by
  unfold bodyT
  rw [List.getD_eq_getElem?_getD, List.getElem?_append_right (by omega), show A.length + 1 + i - A.length = i + 1 by omega]
  simp [List.getD_eq_getElem?_getD]
theorem digT_len (A B : List Int) (pt : Bool) : (digT A B pt).length = A.length + if pt then B.length else 0 := by
  unfold digT
  cases pt <;> simp
theorem digT_A (A B : List Int) (pt : Bool) (i : Nat) (h : i < A.length) : (digT A B pt).getD i 0 = A.getD i 0 - 48 := by
  unfold digT
  rw [List.getD_eq_getElem?_getD, List.getElem?_map, List.getElem?_append_left h, List.getElem?_eq_getElem h, List.getD_eq_getElem?_getD, List.getElem?_eq_getElem h]
  rfl
theorem digT_B (A B : List Int) (i : Nat) (h : i < B.length) : (digT A B true).getD (A.length + i) 0 = B.getD i 0 - 48 := by
  unfold digT
  rw [List.getD_eq_getElem?_getD, List.getElem?_map, List.getElem?_append_right (by omega), Nat.add_sub_cancel_left]
  simp only [if_true]
  rw [List.getElem?_eq_getElem h, List.getD_eq_getElem?_getD, List.getElem?_eq_getElem h]
  rfl
/-- How many digits are read ahead of a place. -/
def cntT (a i : Nat) : Nat := if i ≤ a then i else i - 1
def ReadPost (neg : Bool) (ds : List Int) (ex : Int) (w : World) (e : Ending) (w' : World) : Prop := ∃ q c, e = .returned (.tuple #[.slice q ds.length c, .bool neg, .int .i64 ex, .bool true]) ∧ Lib.BytesIn w' q ds.length ds ∧ Kp w w'
theorem s_char (s : ByteArray) (l : List Int) (hs : natI s.data.toList = l) (i : Nat) (h : i < s.size) : ((s[i]).toNat : Int) = l.getD i 0 := by
  subst hs
  unfold natI
  have h2 : i < s.data.toList.length := h
  rw [List.getD_eq_getElem?_getD, List.getElem?_map, List.getElem?_eq_getElem h2]
  rfl

set_option maxRecDepth 100000 in
set_option maxHeartbeats 4000000 in
theorem readT_pos (s : ByteArray) (A B : List Int) (pt : Bool) (z m : Nat) (w : World) (hs : natI s.data.toList = bodyT A B pt) (hA : ∀ x ∈ A, IsDigit x) (hB : ∀ x ∈ B, IsDigit x) (hA1 : 1 ≤ A.length) (hA2 : A.length ≤ 200) (hB2 : B.length ≤ 200)
    (hm : 1 ≤ m) (hzm : z + m ≤ (digT A B pt).length) (hz0 : ∀ i, i < z → (digT A B pt).getD i 0 = 0) (hz1 : (digT A B pt).getD z 0 ≠ 0) (hm1 : (digT A B pt).getD (z + m - 1) 0 ≠ 0) (hm0 : ∀ i, z + m ≤ i → i < (digT A B pt).length → (digT A B pt).getD i 0 = 0) :
    Calls Tryd.prog 27 #[.string s] w (ReadPost false (((digT A B pt).drop z).take m) ((A.length : Int) - 1 - (z : Int)) w) := by
  obtain ⟨L, hL⟩ : ∃ L, L = (bodyT A B pt).length := ⟨_, rfl⟩
  obtain ⟨D, hD⟩ : ∃ D, D = digT A B pt := ⟨_, rfl⟩
  obtain ⟨N, hN⟩ : ∃ N, N = D.length := ⟨_, rfl⟩
  obtain ⟨a, ha⟩ : ∃ a, a = A.length := ⟨_, rfl⟩
  have hLN : L = N + (if pt then 1 else 0) := by
    rw [hL, hN, hD, digT_len]
    unfold bodyT
    cases pt <;> simp <;> omega
  have haN : a ≤ N := by rw [hN, hD, digT_len]; omega
  have hN4 : N ≤ 400 := by rw [hN, hD, digT_len]; split <;> omega
  have hsz : s.size = 0 + L := by
    have h1 : (natI s.data.toList).length = s.size := by simp [natI]
    rw [← h1, hs, hL]; simp
  have hs0 : (1 : Int) ≤ (s.size : Int) := by omega
  have hne : ¬ s.toList = [] := fun h => by
    have h2 : s.toList.isEmpty = true := by rw [h]; rfl
    rw [← decide_eq_emptyBytes] at h2
    have h3 := of_decide_eq_true h2
    rw [h3] at hs0
    exact absurd hs0 (by decide)
  have he : s.toList.isEmpty = false := by
    rw [← decide_eq_emptyBytes]
    exact decide_eq_false (fun h => by rw [h] at hs0; exact absurd hs0 (by decide))
  have he2 : (!s.toList.isEmpty) = true := by rw [he]; rfl
  have hlt0 : 0 < s.size := by omega
  obtain ⟨y0, hy0⟩ : ∃ y0, (s[0]'hlt0).toNat = y0 := ⟨_, rfl⟩
  have hc0 := s_char s _ hs 0 hlt0
  rw [hy0] at hc0
  have hdg : IsDigit ((bodyT A B pt).getD 0 0) := by rw [bodyT_A _ _ _ _ (by omega)]; exact getD_digit hA 0 (by omega)
  rw [← hc0] at hdg
  unfold IsDigit at hdg
  have y45 : ((y0 : Int) == 45) = false := by simp; omega
  have y43 : ((y0 : Int) == 43) = false := by simp; omega
  have HBD := Lib.hid (fun i (hi : i < a) => (show IsDigit ((bodyT A B pt).getD i 0) ∧ D.getD i 0 = (bodyT A B pt).getD i 0 - 48 from by
    have hi2 : i < A.length := by omega
    rw [bodyT_A _ _ _ _ hi2, hD, digT_A _ _ _ _ hi2]
    exact ⟨getD_digit hA i hi2, rfl⟩))
  have HBP := Lib.hid (fun (h : a < L) => (show (bodyT A B pt).getD a 0 = 46 ∧ pt = true from by
    cases pt
    · exfalso
      have h1 : N = a := by rw [hN, hD, digT_len, ha]; simp
      simp at hLN
      omega
    · exact ⟨by rw [ha]; exact bodyT_pt A B, rfl⟩))
  have HBB := Lib.hid (fun i (h1 : a < i) (h2 : i < L) => (show IsDigit ((bodyT A B pt).getD i 0) ∧ D.getD (i - 1) 0 = (bodyT A B pt).getD i 0 - 48 from by
    obtain ⟨_, hpt⟩ := HBP.out (by omega)
    subst hpt
    simp only [if_true] at hLN
    have hNB : N = A.length + B.length := by rw [hN, hD, digT_len]; simp
    obtain ⟨r, rfl⟩ : ∃ r, i = A.length + 1 + r := ⟨i - (A.length + 1), by omega⟩
    have hr : r < B.length := by omega
    rw [bodyT_B, hD, show A.length + 1 + r - 1 = A.length + r by omega, digT_B _ _ _ hr]
    exact ⟨getD_digit hB r hr, rfl⟩))
  rw [← hD] at hz0 hz1 hm1 hm0 hzm ⊢
  rw [← ha]
  rw [← hN] at hm0 hzm
  obtain ⟨s0, rfl⟩ : ∃ s0, s0 = s := ⟨_, rfl⟩
  have hz0' : s0.size = L := by omega
  have HSZ := Lib.hid hz0'
  have HCH := Lib.hid (fun i (h : i < s0.size) => s_char s0 _ hs i h)
  have hzc : (s0.size : Int) = (L : Int) := by rw [hz0']
  have HLN := Lib.hid hLN
  have HAN := Lib.hid haN
  have HN4 := Lib.hid hN4
  have HND := Lib.hid hN
  have HZ0 := Lib.hid hz0
  have HZ1 := Lib.hid hz1
  have HM1 := Lib.hid hm1
  have HM0 := Lib.hid hm0
  have HZM := Lib.hid hzm
  have HM := Lib.hid hm
  have HA1 := Lib.hid (show 1 ≤ a from by omega)
  have hLa : a ≤ L := by omega
  have HLA := Lib.hid hLa
  generalize hbody : bodyT A B pt = Bd at HCH HBD HBP HBB
  have l4 : (L : Int) ≤ 401 := by split at hLN <;> omega
  have a1 : (1 : Int) ≤ (a : Int) := by omega
  have a2 : (a : Int) ≤ 200 := by omega
  clear hs hA hB hA1 hA2 hB2 hm hzm hz0 hz1 hm1 hm0 hL hD hN ha hLN haN hN4 hLa hbody hc0 he hdg hz0' hsz
  go_enter Tryd.func27, Tryd.ntmps27
  go_wp2_with fail
  go_loopg [9, 6, 7, 8, 2] L (fun G s9 s6 s7 s8 s2 wr => ∃ (i : Nat) (v : Value), L - i = G ∧ i ≤ L ∧ s9 = .int .i64 (i : Int) ∧ s6 = .int .i64 ((if i ≤ a then i else a : Nat) : Int) ∧ s7 = .bool (decide (a < i)) ∧ s8 = .bool (decide (i = 0)) ∧ v = s2 ∧ BRow wr w.heap.size v (cntT a i) (D.take (cntT a i)) ∧ Kp w wr)
  case atStart => exact ⟨0, _, rfl, Nat.zero_le _, rfl, rfl, rfl, rfl, rfl, World.ownsRow_nil _ _ _ _, Kp.refl w⟩
  case round =>
    obtain ⟨i, v, rfl, hi, rfl, rfl, rfl, rfl, rfl, hrow, hkw⟩ := hrel
    have HKW := Lib.hid hkw
    have HR := Lib.hid hrow
    have i0 : (0 : Int) ≤ (i : Int) := by omega
    have i1 : (i : Int) ≤ (L : Int) := by omega
    by_cases hlt : i < L
    · have i2 : (i : Int) < (L : Int) := by omega
      have hlt2 : i < s0.size := by rw [HSZ.out]; exact hlt
      have hc := HCH.out i hlt2
      obtain ⟨y, hy⟩ : ∃ y, (s0[i]'hlt2).toNat = y := ⟨_, rfl⟩
      rw [hy] at hc
      have HLT := Lib.hid hlt
      rcases Nat.lt_trichotomy i a with h | h | h
      · obtain ⟨hd, hdd⟩ := HBD.out i h
        rw [← hc] at hd hdd
        unfold IsDigit at hd
        have y1 : (48 : Int) ≤ (y : Int) := by omega
        have y2 : (y : Int) ≤ 57 := by omega
        have y3 : ((y : Int) == 46) = false := by simp; omega
        have b1 : decide (a < i) = false := decide_eq_false (by omega)
        have hci : cntT a i = i := by unfold cntT; rw [if_pos (by omega)]
        have hci2 : cntT a (i + 1) = i + 1 := by unfold cntT; rw [if_pos (by omega)]
        rw [hci] at hrow
        obtain ⟨v1, w5, r1, r2, r3, _⟩ := app_b wr hrow (Kp.refl wr) hkw.size (by have := HN4.out; have := HAN.out; omega) ((y : Int) - 48)
        have HA := Lib.hid r1
        have HA2 := Lib.hid (show BRow w5 w.heap.size v1 (cntT a (i + 1)) (D.take (cntT a (i + 1))) from by
          rw [hci2, take_snoc' D i (by rw [← HND.out]; have := HAN.out; omega), hdd]
          exact r2)
        have HA3 := Lib.hid (r3 w hkw (Nat.le_refl _))
        have HH := Lib.hid h
        have e6 : (if i ≤ a then i else a) = i := if_pos (by omega)
        rw [b1, e6]
        clear hd hdd hc hrow hkw r1 r2 r3 hlt hi h hci hci2 e6 b1
        go_wp2_with (at_builtin; refine Lib.wpList_append_run _ rfl _ _ _ _ rfl _ _ rfl rfl _ _ HA.out ?_)
        go_roundg (L - (i + 1))
        case measure => have := HLT.out; omega
        case rel => exact ⟨i + 1, v1, rfl, HLT.out, by go_num, int_eq (by rw [if_pos (show i + 1 ≤ a from HH.out)]; omega), by rw [decide_eq_false (show ¬ a < i + 1 by have := HH.out; omega)], by rw [decide_eq_false (show ¬ i + 1 = 0 by omega)], rfl, HA2.out, HA3.out⟩
      · subst h
        obtain ⟨h46, _⟩ := HBP.out hlt
        rw [h46] at hc
        have y1 : (y : Int) = 46 := hc
        have b1 : decide (i < i) = false := decide_eq_false (by omega)
        have b2 : decide (i = 0) = false := decide_eq_false (by have := HA1.out; omega)
        have hci : cntT i i = i := by unfold cntT; rw [if_pos (by omega)]
        have hci2 : cntT i (i + 1) = i := by unfold cntT; rw [if_neg (by omega)]; omega
        have HR2 := Lib.hid (show BRow wr w.heap.size v (cntT i (i + 1)) (D.take (cntT i (i + 1))) from by rw [hci2]; rw [hci] at hrow; exact hrow)
        have e6 : (if i ≤ i then i else i) = i := if_pos (by omega)
        rw [b1, b2, e6]
        clear h46 hc hrow hkw hlt hi hci hci2 e6 b1 b2
        go_wp2_with fail
        go_roundg (L - (i + 1))
        case measure => have := HLT.out; omega
        case rel => exact ⟨i + 1, v, rfl, HLT.out, by go_num, int_eq (by rw [if_neg (show ¬ i + 1 ≤ i by omega)]), by rw [decide_eq_true (show i < i + 1 by omega)], by rw [decide_eq_false (show ¬ i + 1 = 0 by omega)], rfl, HR2.out, HKW.out⟩
      · obtain ⟨hd, hdd⟩ := HBB.out i h hlt
        rw [← hc] at hd hdd
        unfold IsDigit at hd
        have y1 : (48 : Int) ≤ (y : Int) := by omega
        have y2 : (y : Int) ≤ 57 := by omega
        have y3 : ((y : Int) == 46) = false := by simp; omega
        have b1 : decide (a < i) = true := decide_eq_true (by omega)
        have hci : cntT a i = i - 1 := by unfold cntT; rw [if_neg (by omega)]
        have hci2 : cntT a (i + 1) = i - 1 + 1 := by unfold cntT; rw [if_neg (by omega)]; omega
        rw [hci] at hrow
        obtain ⟨v1, w5, r1, r2, r3, _⟩ := app_b wr hrow (Kp.refl wr) hkw.size (by omega) ((y : Int) - 48)
        have HA := Lib.hid r1
        have HA2 := Lib.hid (show BRow w5 w.heap.size v1 (cntT a (i + 1)) (D.take (cntT a (i + 1))) from by
          rw [hci2, take_snoc' D (i - 1) (by rw [← HND.out]; have h1 := HLN.out; split at h1 <;> omega), hdd]
          exact r2)
        have HA3 := Lib.hid (r3 w hkw (Nat.le_refl _))
        have HH := Lib.hid h
        have e6 : (if i ≤ a then i else a) = a := if_neg (by omega)
        rw [b1, e6]
        clear hd hdd hc hrow hkw r1 r2 r3 hlt hi h hci hci2 e6 b1
        go_wp2_with (at_builtin; refine Lib.wpList_append_run _ rfl _ _ _ _ rfl _ _ rfl rfl _ _ HA.out ?_)
        go_roundg (L - (i + 1))
        case measure => have := HLT.out; omega
        case rel => exact ⟨i + 1, v1, rfl, HLT.out, by go_num, int_eq (by rw [if_neg (show ¬ i + 1 ≤ a by have := HH.out; omega)]), by rw [decide_eq_true (show a < i + 1 by have := HH.out; omega)], by rw [decide_eq_false (show ¬ i + 1 = 0 by omega)], rfl, HA2.out, HA3.out⟩
    · obtain rfl : i = L := by omega
      have hcn : cntT a i = N := by
        unfold cntT
        have h1 := HLN.out
        have h2 := HAN.out
        by_cases hia : i ≤ a
        · rw [if_pos hia]
          split at h1 <;> omega
        · rw [if_neg hia]
          obtain ⟨_, hpt⟩ := HBP.out (by omega)
          rw [if_pos hpt] at h1
          omega
      rw [hcn, List.take_of_length_le (by rw [HND.out]; exact Nat.le_refl _)] at hrow
      have b2 : decide (i = 0) = false := decide_eq_false (by have := HA1.out; have := HLA.out; omega)
      have e6 : (if i ≤ a then i else a) = a := by have := HLA.out; split <;> omega
      obtain ⟨g, c, rfl, hc1, hc2, hin⟩ := own_pos hrow (by have := HM.out; have := HZM.out; omega)
      have HIN := Lib.hid hin
      have HCE := Lib.hid (fun j (hj : j < N) => by
        have h := bin_cells hin j hj
        rw [Nat.zero_add] at h
        exact h)
      rw [b2, e6]
      have HCC := Lib.hid hc1
      have HCM := Lib.hid hc2
      clear hrow hkw hlt hi hcn b2 e6 hin hc1 hc2
      obtain ⟨wo, rfl⟩ : ∃ wo : World, wo = wr := ⟨_, rfl⟩
      go_wp2_with fail
      go_loopg [2, 4] z (fun G s2 s4 wr => ∃ (k r cc : Nat), z - k = G ∧ k ≤ z ∧ k + r = N ∧ k + cc = c ∧ s2 = .slice (some ⟨g, k, none⟩) r cc ∧ s4 = .int .i64 ((a : Int) - 1 - (k : Int)) ∧ wo = wr)
      case atStart => exact ⟨0, N, c, rfl, Nat.zero_le _, by omega, by omega, rfl, int_eq (by omega), rfl⟩
      case round =>
      obtain ⟨k, r, cc, rfl, hk, hkr, hkc, rfl, rfl, rfl⟩ := hrel
      have hr1 : m ≤ r := by have := HZM.out; omega
      have r0 : (0 : Int) < (r : Int) := by have := HM.out; omega
      have r1 : (1 : Int) ≤ (r : Int) := by omega
      have r2 : (r : Int) ≤ 400 := by have := HN4.out; omega
      have r3 : (r : Int) ≤ (cc : Int) := by have := HCC.out; omega
      by_cases hlt : k < z
      · have ck := HCE.out k (by have := HZM.out; omega)
        rw [HZ0.out k hlt] at ck
        have cc1 : (cc = 1) = False := by
          apply eq_false
          have := HZM.out; have := HM.out; have := HCC.out; omega
        have cm : (cc : Int) ≤ 9223372036854775807 := by have h := HCM.out; unfold maxLen at h; omega
        have HLT := Lib.hid hlt
        have HKR := Lib.hid (show k + 1 + (r - 1) = N from by have := HZM.out; have := HM.out; omega)
        have HKC := Lib.hid (show k + 1 + (cc - 1) = c from by have := HZM.out; have := HM.out; have := HCC.out; omega)
        have k0 : (0 : Int) ≤ (k : Int) := by omega
        have k1 : (k : Int) ≤ 400 := by have := HZM.out; have := HN4.out; omega
        clear hk hkr hkc hr1 hlt
        go_wp2_with fail
        go_roundg (z - (k + 1))
        case measure => have := HLT.out; omega
        case rel => exact ⟨k + 1, r - 1, cc - 1, rfl, HLT.out, HKR.out, HKC.out, rfl, int_eq (by omega), rfl⟩
      obtain rfl : k = z := by omega
      have ck := HCE.out k (by have := HZM.out; have := HM.out; omega)
      obtain ⟨x, hx⟩ : ∃ x, x = D.getD k 0 := ⟨_, rfl⟩
      have x0 : (x == 0) = false := by
        simp only [beq_eq_false_iff_ne, ne_eq]
        rw [hx]; exact HZ1.out
      rw [← hx] at ck
      have HKR := Lib.hid hkr
      clear hx hk hlt hr1
      go_wp2_with fail
      go_loopg [2] r (fun G s2 wr => ∃ (q : Nat), q = G ∧ m ≤ q ∧ q ≤ r ∧ s2 = .slice (some ⟨g, k, none⟩) q cc ∧ wo = wr)
      case atStart => exact ⟨r, rfl, by have := HZM.out; omega, Nat.le_refl _, rfl, rfl⟩
      case round =>
      obtain ⟨q, rfl, hq, hqr, rfl, rfl⟩ := hrel
      have q0 : (0 : Int) < (q : Int) := by have := HM.out; omega
      have q1 : (1 : Int) ≤ (q : Int) := by omega
      have q2 : ((q : Int) - 1).toNat = q - 1 := by omega
      have q3 : (q : Int) ≤ (cc : Int) := by omega
      have q4 : (q : Int) ≤ 400 := by omega
      have cq := HCE.out (k + (q - 1)) (by have := HKR.out; have := HM.out; omega)
      by_cases hlt : m < q
      · rw [HM0.out _ (by omega) (by have := HKR.out; omega)] at cq
        have HLT := Lib.hid hlt
        have HQR := Lib.hid hqr
        clear hlt hq hqr ck
        go_wp2_with fail
        go_roundg (q - 1)
        case measure => have := HLT.out; omega
        case rel => exact ⟨q - 1, rfl, by have := HLT.out; omega, by have := HQR.out; omega, rfl, rfl⟩
      obtain rfl : q = m := by omega
      obtain ⟨x2, hx2⟩ : ∃ x2, x2 = D.getD (k + (q - 1)) 0 := ⟨_, rfl⟩
      have x3 : (x2 == 0) = false := by
        simp only [beq_eq_false_iff_ne, ne_eq]
        rw [hx2, show k + (q - 1) = k + q - 1 by have := HM.out; omega]; exact HM1.out
      rw [← hx2] at cq
      have hlen : ((D.drop k).take q).length = q := by
        rw [List.length_take, List.length_drop, ← HND.out]; have := HZM.out; omega
      have HPO := Lib.hid (show ReadPost false ((D.drop k).take q) ((a : Int) - 1 - (k : Int)) w (.returned (.tuple #[.slice (some ⟨g, k, none⟩) q cc, .bool false, .int .i64 ((a : Int) - 1 - (k : Int)), .bool true])) wo from
        ⟨some ⟨g, k, none⟩, cc, by rw [hlen], by
          rw [hlen]
          have h := bin_sub HIN.out k q HZM.out
          rw [Nat.zero_add] at h
          exact h, HKW.out⟩)
      have qz : ((q : Int) == 0) = false := by simp; omega
      clear hx2 hlen hlt hq hqr ck
      go_wp2_with fail
      exact bodyPost_ret (v := .tuple #[.slice (some ⟨g, k, none⟩) q cc, .bool false, .int .i64 ((a : Int) - 1 - (k : Int)), .bool true]) (by simp [results, Tryd.results27, go_sem]) rfl HPO.out

set_option maxRecDepth 100000 in
set_option maxHeartbeats 4000000 in
theorem readT_neg (s : ByteArray) (A B : List Int) (pt : Bool) (z m : Nat) (w : World) (hs : natI s.data.toList = 45 :: bodyT A B pt) (hA : ∀ x ∈ A, IsDigit x) (hB : ∀ x ∈ B, IsDigit x) (hA1 : 1 ≤ A.length) (hA2 : A.length ≤ 200) (hB2 : B.length ≤ 200)
    (hm : 1 ≤ m) (hzm : z + m ≤ (digT A B pt).length) (hz0 : ∀ i, i < z → (digT A B pt).getD i 0 = 0) (hz1 : (digT A B pt).getD z 0 ≠ 0) (hm1 : (digT A B pt).getD (z + m - 1) 0 ≠ 0) (hm0 : ∀ i, z + m ≤ i → i < (digT A B pt).length → (digT A B pt).getD i 0 = 0) :
    Calls Tryd.prog 27 #[.string s] w (ReadPost true (((digT A B pt).drop z).take m) ((A.length : Int) - 1 - (z : Int)) w) := by
  obtain ⟨L, hL⟩ : ∃ L, L = (bodyT A B pt).length := ⟨_, rfl⟩
  obtain ⟨D, hD⟩ : ∃ D, D = digT A B pt := ⟨_, rfl⟩
  obtain ⟨N, hN⟩ : ∃ N, N = D.length := ⟨_, rfl⟩
  obtain ⟨a, ha⟩ : ∃ a, a = A.length := ⟨_, rfl⟩
  have hLN : L = N + (if pt then 1 else 0) := by
    rw [hL, hN, hD, digT_len]
    unfold bodyT
    cases pt <;> simp <;> omega
  have haN : a ≤ N := by rw [hN, hD, digT_len]; omega
  have hN4 : N ≤ 400 := by rw [hN, hD, digT_len]; split <;> omega
  have hsz : s.size = 1 + L := by
    have h1 : (natI s.data.toList).length = s.size := by simp [natI]
    rw [← h1, hs, hL]; simp; omega
  have hs0 : (1 : Int) ≤ (s.size : Int) := by omega
  have hne : ¬ s.toList = [] := fun h => by
    have h2 : s.toList.isEmpty = true := by rw [h]; rfl
    rw [← decide_eq_emptyBytes] at h2
    have h3 := of_decide_eq_true h2
    rw [h3] at hs0
    exact absurd hs0 (by decide)
  have he : s.toList.isEmpty = false := by
    rw [← decide_eq_emptyBytes]
    exact decide_eq_false (fun h => by rw [h] at hs0; exact absurd hs0 (by decide))
  have he2 : (!s.toList.isEmpty) = true := by rw [he]; rfl
  have hlt0 : 0 < s.size := by omega
  obtain ⟨y0, hy0⟩ : ∃ y0, (s[0]'hlt0).toNat = y0 := ⟨_, rfl⟩
  have hc0 := s_char s _ hs 0 hlt0
  rw [hy0] at hc0
  have y45 : (y0 : Int) = 45 := hc0
  have HBD := Lib.hid (fun i (hi : i < a) => (show IsDigit ((bodyT A B pt).getD i 0) ∧ D.getD i 0 = (bodyT A B pt).getD i 0 - 48 from by
    have hi2 : i < A.length := by omega
    rw [bodyT_A _ _ _ _ hi2, hD, digT_A _ _ _ _ hi2]
    exact ⟨getD_digit hA i hi2, rfl⟩))
  have HBP := Lib.hid (fun (h : a < L) => (show (bodyT A B pt).getD a 0 = 46 ∧ pt = true from by
    cases pt
    · exfalso
      have h1 : N = a := by rw [hN, hD, digT_len, ha]; simp
      simp at hLN
      omega
    · exact ⟨by rw [ha]; exact bodyT_pt A B, rfl⟩))
  have HBB := Lib.hid (fun i (h1 : a < i) (h2 : i < L) => (show IsDigit ((bodyT A B pt).getD i 0) ∧ D.getD (i - 1) 0 = (bodyT A B pt).getD i 0 - 48 from by
    obtain ⟨_, hpt⟩ := HBP.out (by omega)
    subst hpt
    simp only [if_true] at hLN
    have hNB : N = A.length + B.length := by rw [hN, hD, digT_len]; simp
    obtain ⟨r, rfl⟩ : ∃ r, i = A.length + 1 + r := ⟨i - (A.length + 1), by omega⟩
    have hr : r < B.length := by omega
    rw [bodyT_B, hD, show A.length + 1 + r - 1 = A.length + r by omega, digT_B _ _ _ hr]
    exact ⟨getD_digit hB r hr, rfl⟩))
  rw [← hD] at hz0 hz1 hm1 hm0 hzm ⊢
  rw [← ha]
  rw [← hN] at hm0 hzm
  obtain ⟨s0, hs0e⟩ : ∃ s0, s0 = s.extract 1 s.size := ⟨_, rfl⟩
  have hs0d : s0.data.toList = s.data.toList.drop 1 := by rw [hs0e, Lib.extract_data]; exact List.take_of_length_le (by rw [List.length_drop]; exact Nat.le_refl _)
  have hn0 : natI s0.data.toList = bodyT A B pt := by
    rw [hs0d]
    have h1 := congrArg (List.drop 1) hs
    rw [List.drop_succ_cons, List.drop_zero] at h1
    rw [← h1]
    simp [natI]
  have hz0' : s0.size = L := by
    have h1 : (natI s0.data.toList).length = s0.size := by simp [natI]
    rw [← h1, hn0, hL]
  have HS0 := Lib.hid hs0e
  have HSZ := Lib.hid hz0'
  have HCH := Lib.hid (fun i (h : i < s0.size) => s_char s0 _ hn0 i h)
  have hzc : (s0.size : Int) = (L : Int) := by rw [hz0']
  have HLN := Lib.hid hLN
  have HAN := Lib.hid haN
  have HN4 := Lib.hid hN4
  have HND := Lib.hid hN
  have HZ0 := Lib.hid hz0
  have HZ1 := Lib.hid hz1
  have HM1 := Lib.hid hm1
  have HM0 := Lib.hid hm0
  have HZM := Lib.hid hzm
  have HM := Lib.hid hm
  have HA1 := Lib.hid (show 1 ≤ a from by omega)
  have hLa : a ≤ L := by omega
  have HLA := Lib.hid hLa
  generalize hbody : bodyT A B pt = Bd at HCH HBD HBP HBB
  have l4 : (L : Int) ≤ 401 := by split at hLN <;> omega
  have a1 : (1 : Int) ≤ (a : Int) := by omega
  have a2 : (a : Int) ≤ 200 := by omega
  clear hs hA hB hA1 hA2 hB2 hm hzm hz0 hz1 hm1 hm0 hL hD hN ha hLN haN hN4 hLa hbody hc0 he hs0e hs0d hn0 hz0' hsz
  go_enter Tryd.func27, Tryd.ntmps27
  go_wp2_with fail
  go_quiet (fail)
  go_wp2_with fail
  rw [← HS0.out]
  go_loopg [9, 6, 7, 8, 2] L (fun G s9 s6 s7 s8 s2 wr => ∃ (i : Nat) (v : Value), L - i = G ∧ i ≤ L ∧ s9 = .int .i64 (i : Int) ∧ s6 = .int .i64 ((if i ≤ a then i else a : Nat) : Int) ∧ s7 = .bool (decide (a < i)) ∧ s8 = .bool (decide (i = 0)) ∧ v = s2 ∧ BRow wr w.heap.size v (cntT a i) (D.take (cntT a i)) ∧ Kp w wr)
  case atStart => exact ⟨0, _, rfl, Nat.zero_le _, rfl, rfl, rfl, rfl, rfl, World.ownsRow_nil _ _ _ _, (Kp.refl w).drewN _⟩
  case round =>
    obtain ⟨i, v, rfl, hi, rfl, rfl, rfl, rfl, rfl, hrow, hkw⟩ := hrel
    have HKW := Lib.hid hkw
    have HR := Lib.hid hrow
    have i0 : (0 : Int) ≤ (i : Int) := by omega
    have i1 : (i : Int) ≤ (L : Int) := by omega
    by_cases hlt : i < L
    · have i2 : (i : Int) < (L : Int) := by omega
      have hlt2 : i < s0.size := by rw [HSZ.out]; exact hlt
      have hc := HCH.out i hlt2
      obtain ⟨y, hy⟩ : ∃ y, (s0[i]'hlt2).toNat = y := ⟨_, rfl⟩
      rw [hy] at hc
      have HLT := Lib.hid hlt
      rcases Nat.lt_trichotomy i a with h | h | h
      · obtain ⟨hd, hdd⟩ := HBD.out i h
        rw [← hc] at hd hdd
        unfold IsDigit at hd
        have y1 : (48 : Int) ≤ (y : Int) := by omega
        have y2 : (y : Int) ≤ 57 := by omega
        have y3 : ((y : Int) == 46) = false := by simp; omega
        have b1 : decide (a < i) = false := decide_eq_false (by omega)
        have hci : cntT a i = i := by unfold cntT; rw [if_pos (by omega)]
        have hci2 : cntT a (i + 1) = i + 1 := by unfold cntT; rw [if_pos (by omega)]
        rw [hci] at hrow
        obtain ⟨v1, w5, r1, r2, r3, _⟩ := app_b wr hrow (Kp.refl wr) hkw.size (by have := HN4.out; have := HAN.out; omega) ((y : Int) - 48)
        have HA := Lib.hid r1
        have HA2 := Lib.hid (show BRow w5 w.heap.size v1 (cntT a (i + 1)) (D.take (cntT a (i + 1))) from by
          rw [hci2, take_snoc' D i (by rw [← HND.out]; have := HAN.out; omega), hdd]
          exact r2)
        have HA3 := Lib.hid (r3 w hkw (Nat.le_refl _))
        have HH := Lib.hid h
        have e6 : (if i ≤ a then i else a) = i := if_pos (by omega)
        rw [b1, e6]
        clear hd hdd hc hrow hkw r1 r2 r3 hlt hi h hci hci2 e6 b1
        go_wp2_with (at_builtin; refine Lib.wpList_append_run _ rfl _ _ _ _ rfl _ _ rfl rfl _ _ HA.out ?_)
        go_roundg (L - (i + 1))
        case measure => have := HLT.out; omega
        case rel => exact ⟨i + 1, v1, rfl, HLT.out, by go_num, int_eq (by rw [if_pos (show i + 1 ≤ a from HH.out)]; omega), by rw [decide_eq_false (show ¬ a < i + 1 by have := HH.out; omega)], by rw [decide_eq_false (show ¬ i + 1 = 0 by omega)], rfl, HA2.out, HA3.out⟩
      · subst h
        obtain ⟨h46, _⟩ := HBP.out hlt
        rw [h46] at hc
        have y1 : (y : Int) = 46 := hc
        have b1 : decide (i < i) = false := decide_eq_false (by omega)
        have b2 : decide (i = 0) = false := decide_eq_false (by have := HA1.out; omega)
        have hci : cntT i i = i := by unfold cntT; rw [if_pos (by omega)]
        have hci2 : cntT i (i + 1) = i := by unfold cntT; rw [if_neg (by omega)]; omega
        have HR2 := Lib.hid (show BRow wr w.heap.size v (cntT i (i + 1)) (D.take (cntT i (i + 1))) from by rw [hci2]; rw [hci] at hrow; exact hrow)
        have e6 : (if i ≤ i then i else i) = i := if_pos (by omega)
        rw [b1, b2, e6]
        clear h46 hc hrow hkw hlt hi hci hci2 e6 b1 b2
        go_wp2_with fail
        go_roundg (L - (i + 1))
        case measure => have := HLT.out; omega
        case rel => exact ⟨i + 1, v, rfl, HLT.out, by go_num, int_eq (by rw [if_neg (show ¬ i + 1 ≤ i by omega)]), by rw [decide_eq_true (show i < i + 1 by omega)], by rw [decide_eq_false (show ¬ i + 1 = 0 by omega)], rfl, HR2.out, HKW.out⟩
      · obtain ⟨hd, hdd⟩ := HBB.out i h hlt
        rw [← hc] at hd hdd
        unfold IsDigit at hd
        have y1 : (48 : Int) ≤ (y : Int) := by omega
        have y2 : (y : Int) ≤ 57 := by omega
        have y3 : ((y : Int) == 46) = false := by simp; omega
        have b1 : decide (a < i) = true := decide_eq_true (by omega)
        have hci : cntT a i = i - 1 := by unfold cntT; rw [if_neg (by omega)]
        have hci2 : cntT a (i + 1) = i - 1 + 1 := by unfold cntT; rw [if_neg (by omega)]; omega
        rw [hci] at hrow
        obtain ⟨v1, w5, r1, r2, r3, _⟩ := app_b wr hrow (Kp.refl wr) hkw.size (by omega) ((y : Int) - 48)
        have HA := Lib.hid r1
        have HA2 := Lib.hid (show BRow w5 w.heap.size v1 (cntT a (i + 1)) (D.take (cntT a (i + 1))) from by
          rw [hci2, take_snoc' D (i - 1) (by rw [← HND.out]; have h1 := HLN.out; split at h1 <;> omega), hdd]
          exact r2)
        have HA3 := Lib.hid (r3 w hkw (Nat.le_refl _))
        have HH := Lib.hid h
        have e6 : (if i ≤ a then i else a) = a := if_neg (by omega)
        rw [b1, e6]
        clear hd hdd hc hrow hkw r1 r2 r3 hlt hi h hci hci2 e6 b1
        go_wp2_with (at_builtin; refine Lib.wpList_append_run _ rfl _ _ _ _ rfl _ _ rfl rfl _ _ HA.out ?_)
        go_roundg (L - (i + 1))
        case measure => have := HLT.out; omega
        case rel => exact ⟨i + 1, v1, rfl, HLT.out, by go_num, int_eq (by rw [if_neg (show ¬ i + 1 ≤ a by have := HH.out; omega)]), by rw [decide_eq_true (show a < i + 1 by have := HH.out; omega)], by rw [decide_eq_false (show ¬ i + 1 = 0 by omega)], rfl, HA2.out, HA3.out⟩
    · obtain rfl : i = L := by omega
      have hcn : cntT a i = N := by
        unfold cntT
        have h1 := HLN.out
        have h2 := HAN.out
        by_cases hia : i ≤ a
        · rw [if_pos hia]
          split at h1 <;> omega
        · rw [if_neg hia]
          obtain ⟨_, hpt⟩ := HBP.out (by omega)
          rw [if_pos hpt] at h1
          omega
      rw [hcn, List.take_of_length_le (by rw [HND.out]; exact Nat.le_refl _)] at hrow
      have b2 : decide (i = 0) = false := decide_eq_false (by have := HA1.out; have := HLA.out; omega)
      have e6 : (if i ≤ a then i else a) = a := by have := HLA.out; split <;> omega
      obtain ⟨g, c, rfl, hc1, hc2, hin⟩ := own_pos hrow (by have := HM.out; have := HZM.out; omega)
      have HIN := Lib.hid hin
      have HCE := Lib.hid (fun j (hj : j < N) => by
        have h := bin_cells hin j hj
        rw [Nat.zero_add] at h
        exact h)
      rw [b2, e6]
      have HCC := Lib.hid hc1
      have HCM := Lib.hid hc2
      clear hrow hkw hlt hi hcn b2 e6 hin hc1 hc2
      obtain ⟨wo, rfl⟩ : ∃ wo : World, wo = wr := ⟨_, rfl⟩
      go_wp2_with fail
      go_loopg [2, 4] z (fun G s2 s4 wr => ∃ (k r cc : Nat), z - k = G ∧ k ≤ z ∧ k + r = N ∧ k + cc = c ∧ s2 = .slice (some ⟨g, k, none⟩) r cc ∧ s4 = .int .i64 ((a : Int) - 1 - (k : Int)) ∧ wo = wr)
      case atStart => exact ⟨0, N, c, rfl, Nat.zero_le _, by omega, by omega, rfl, int_eq (by omega), rfl⟩
      case round =>
      obtain ⟨k, r, cc, rfl, hk, hkr, hkc, rfl, rfl, rfl⟩ := hrel
      have hr1 : m ≤ r := by have := HZM.out; omega
      have r0 : (0 : Int) < (r : Int) := by have := HM.out; omega
      have r1 : (1 : Int) ≤ (r : Int) := by omega
      have r2 : (r : Int) ≤ 400 := by have := HN4.out; omega
      have r3 : (r : Int) ≤ (cc : Int) := by have := HCC.out; omega
      by_cases hlt : k < z
      · have ck := HCE.out k (by have := HZM.out; omega)
        rw [HZ0.out k hlt] at ck
        have cc1 : (cc = 1) = False := by
          apply eq_false
          have := HZM.out; have := HM.out; have := HCC.out; omega
        have cm : (cc : Int) ≤ 9223372036854775807 := by have h := HCM.out; unfold maxLen at h; omega
        have HLT := Lib.hid hlt
        have HKR := Lib.hid (show k + 1 + (r - 1) = N from by have := HZM.out; have := HM.out; omega)
        have HKC := Lib.hid (show k + 1 + (cc - 1) = c from by have := HZM.out; have := HM.out; have := HCC.out; omega)
        have k0 : (0 : Int) ≤ (k : Int) := by omega
        have k1 : (k : Int) ≤ 400 := by have := HZM.out; have := HN4.out; omega
        clear hk hkr hkc hr1 hlt
        go_wp2_with fail
        go_roundg (z - (k + 1))
        case measure => have := HLT.out; omega
        case rel => exact ⟨k + 1, r - 1, cc - 1, rfl, HLT.out, HKR.out, HKC.out, rfl, int_eq (by omega), rfl⟩
      obtain rfl : k = z := by omega
      have ck := HCE.out k (by have := HZM.out; have := HM.out; omega)
      obtain ⟨x, hx⟩ : ∃ x, x = D.getD k 0 := ⟨_, rfl⟩
      have x0 : (x == 0) = false := by
        simp only [beq_eq_false_iff_ne, ne_eq]
        rw [hx]; exact HZ1.out
      rw [← hx] at ck
      have HKR := Lib.hid hkr
      clear hx hk hlt hr1
      go_wp2_with fail
      go_loopg [2] r (fun G s2 wr => ∃ (q : Nat), q = G ∧ m ≤ q ∧ q ≤ r ∧ s2 = .slice (some ⟨g, k, none⟩) q cc ∧ wo = wr)
      case atStart => exact ⟨r, rfl, by have := HZM.out; omega, Nat.le_refl _, rfl, rfl⟩
      case round =>
      obtain ⟨q, rfl, hq, hqr, rfl, rfl⟩ := hrel
      have q0 : (0 : Int) < (q : Int) := by have := HM.out; omega
      have q1 : (1 : Int) ≤ (q : Int) := by omega
      have q2 : ((q : Int) - 1).toNat = q - 1 := by omega
      have q3 : (q : Int) ≤ (cc : Int) := by omega
      have q4 : (q : Int) ≤ 400 := by omega
      have cq := HCE.out (k + (q - 1)) (by have := HKR.out; have := HM.out; omega)
      by_cases hlt : m < q
      · rw [HM0.out _ (by omega) (by have := HKR.out; omega)] at cq
        have HLT := Lib.hid hlt
        have HQR := Lib.hid hqr
        clear hlt hq hqr ck
        go_wp2_with fail
        go_roundg (q - 1)
        case measure => have := HLT.out; omega
        case rel => exact ⟨q - 1, rfl, by have := HLT.out; omega, by have := HQR.out; omega, rfl, rfl⟩
      obtain rfl : q = m := by omega
      obtain ⟨x2, hx2⟩ : ∃ x2, x2 = D.getD (k + (q - 1)) 0 := ⟨_, rfl⟩
      have x3 : (x2 == 0) = false := by
        simp only [beq_eq_false_iff_ne, ne_eq]
        rw [hx2, show k + (q - 1) = k + q - 1 by have := HM.out; omega]; exact HM1.out
      rw [← hx2] at cq
      have hlen : ((D.drop k).take q).length = q := by
        rw [List.length_take, List.length_drop, ← HND.out]; have := HZM.out; omega
      have HPO := Lib.hid (show ReadPost true ((D.drop k).take q) ((a : Int) - 1 - (k : Int)) w (.returned (.tuple #[.slice (some ⟨g, k, none⟩) q cc, .bool true, .int .i64 ((a : Int) - 1 - (k : Int)), .bool true])) wo from
        ⟨some ⟨g, k, none⟩, cc, by rw [hlen], by
          rw [hlen]
          have h := bin_sub HIN.out k q HZM.out
          rw [Nat.zero_add] at h
          exact h, HKW.out⟩)
      have qz : ((q : Int) == 0) = false := by simp; omega
      clear hx2 hlen hlt hq hqr ck
      go_wp2_with fail
      exact bodyPost_ret (v := .tuple #[.slice (some ⟨g, k, none⟩) q cc, .bool true, .int .i64 ((a : Int) - 1 - (k : Int)), .bool true]) (by simp [results, Tryd.results27, go_sem]) rfl HPO.out

end Go.Proofs.YtcdbnjhkjfimkaaDoor
