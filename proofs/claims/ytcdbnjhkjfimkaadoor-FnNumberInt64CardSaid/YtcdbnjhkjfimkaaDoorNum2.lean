/-
  ToNumber, walked.
-/
import Derived.Test.YtcdbnjhkjfimkaaDoorNum1
namespace Go.Proofs.YtcdbnjhkjfimkaaDoor
open Go Go.RowKit

theorem xor127 (v : Int) (h0 : 0 ≤ v) (h1 : v < 128) : bits .xor .u8 v 127 = 127 - v := by
  obtain ⟨n, rfl⟩ := Int.eq_ofNat_of_zero_le h0
  have key : ∀ i : Fin 128, bits .xor .u8 (i.val : Int) 127 = 127 - (i.val : Int) := by decide +kernel
  exact key ⟨n, by omega⟩
theorem or128 (v : Int) (h0 : 0 ≤ v) (h1 : v < 128) : bits .or .u8 v 128 = v + 128 := by
  obtain ⟨n, rfl⟩ := Int.eq_ofNat_of_zero_le h0
  have key : ∀ i : Fin 128, bits .or .u8 (i.val : Int) 128 = (i.val : Int) + 128 := by decide +kernel
  exact key ⟨n, by omega⟩
theorem tmod2_neg (e : Int) (h : e < 0) : e.tmod 2 = -((-e) % 2) := by
  have h1 : e = -(-e) := by omega
  rw [h1, Int.neg_tmod, Int.tmod_eq_emod_of_nonneg (by omega)]
  simp
theorem tdiv2_neg (e : Int) (h : e < 0) : (e - 1).tdiv 2 = e / 2 := by
  have h1 : e - 1 = -(1 - e) := by omega
  rw [h1, Int.neg_tdiv, Int.tdiv_eq_ediv_of_nonneg (by omega)]
  omega
theorem bin_at {w : World} {b o n : Nat} {xs : List Int} (h : Lib.BytesIn w (some ⟨b, o, none⟩) n xs) : ∀ i, i < n → w.cell? ⟨b, o + i, none⟩ = some (.int .u8 (xs.getD i 0)) := fun i hi => by
  obtain ⟨b', o', he, hc⟩ := h (by omega)
  injection he with he
  injection he with h1 h2
  subst h1 h2
  exact hc i hi
theorem getD_digit {l : List Int} (h : ∀ x ∈ l, IsDigit x) (i : Nat) (hi : i < l.length) : 48 ≤ l.getD i 0 ∧ l.getD i 0 ≤ 57 := by
  rw [List.getD_eq_getElem?_getD, List.getElem?_eq_getElem hi]; exact h _ (List.getElem_mem hi)
theorem take_snoc' (bs : List Int) (j : Nat) (h : j < bs.length) : bs.take (j + 1) = bs.take j ++ [bs.getD j 0] := by
  rw [List.take_succ_eq_append_getElem h]
  simp [List.getD, h]
theorem own_repl (w : World) (n : Nat) (t : TypeId) (hm : n ≤ maxLen) : (w.alloc (.cells (zeroA n) t)).ownsRow w.heap.size t 1 (.slice (some ⟨w.heap.size, 0, none⟩) n n) n ((setAll (List.replicate n (0 : Int)) 1 []).map (Value.int .u8)) := own_zero w n n t (Nat.le_refl _) hm

def NumPost (ms : List Int) (neg : Bool) (e : Int) (w : World) (r : Ending) (w' : World) : Prop := ∃ v, r = .returned v ∧ w'.ownsRow w.heap.size 5 1 v (numL ms neg e).length ((numL ms neg e).map (Value.int .u8)) ∧ Kp w w'

set_option maxRecDepth 100000 in
set_option maxHeartbeats 4000000 in
theorem toNumber_false_even_pos (p : Option Addr) (n k : Nat) (ms : List Int) (e : Int) (w : World) (hi : Lib.BytesIn w p n ms) (hx : ms.length = n) (hn : 1 ≤ n) (hn1 : n ≤ 19) (hd : ∀ x ∈ ms, IsDigit x) (he0 : -100 ≤ e) (he1 : e ≤ 100) (hev : e % 2 = 0) (hs : 0 ≤ e) :
    Calls Tryd.prog 90 #[.slice p n k, .bool false, .int .i64 e] w (NumPost ms false e w) := by
  have i0 : ((n : Nat) : Int) ≤ 19 := by omega
  have i1 : (1 : Int) ≤ (n : Int) := by omega
  have HEV := Lib.hid hev
  have j0 : (e % 2 == 0) = true := by
    skip
    simp
    omega
  clear hev
  obtain ⟨v1, w1, hrun1, hov1, hgr1, hnil1⟩ := run_append_bytes (w.alloc (.cells #[.int .u8 48] 5)) w.heap.size _ 1 [48] (by exact own_new w [48] _ (by simp [maxLen])) p n k ms (bin_alloc hi _) hx (by omega) (by simp)
  have HK1 := Lib.hid (((Kp.refl w).alloc _).grown hgr1 (fun k' hk' => own_ge (own_new w [48] 5 (by simp [maxLen])) k' hk'))
  obtain ⟨g1, d1, rfl, hnd1, hdm1, hin1⟩ := own_pos hov1 (by omega)
  have H1 := Lib.hid hrun1
  have HL := Lib.hid hin1
  have HLL := Lib.hid (show ([48] ++ ms).length = 1 + n by simp [hx]; omega)
  have HLD := Lib.hid (show ∀ x ∈ [48] ++ ms, IsDigit x from fun x hx' => by
    rcases List.mem_append.1 hx' with h | h
    · simp at h; subst h; unfold IsDigit; omega
    · exact hd x h)
  have HEL := Lib.hid (show evenL e ms = [48] ++ ms by unfold evenL; rw [if_pos HEV.out]; rfl)
  generalize [48] ++ ms = l at *
  generalize hm : 1 + n = m at *
  have im : 1 + (n : Int) = (m : Int) := by omega
  have hm0 : 2 ≤ m := by omega
  have hm2 : m ≤ 20 := by omega
  clear hrun1 hov1 hgr1 hnil1 hi hx hd hm hin1
  have HEV2 := HEV
  obtain ⟨K, hK⟩ : ∃ K, K = (m + 1) / 2 := ⟨_, rfl⟩
  have hK2 : 2 * K = m ∨ 2 * K = m + 1 := by omega
  obtain ⟨S, hS⟩ : ∃ S, S = 1 + K := ⟨_, rfl⟩
  have s0 : 1 + ((m : Int) + 1) / 2 = (S : Int) := by omega
  have hmk := run_make_bytes .i64 .i64 S S (Nat.le_refl _) (by omega)
  obtain ⟨bs, hbs⟩ : ∃ bs, bs = (prs l).map (enc false) := ⟨_, rfl⟩
  have HBS := Lib.hid hbs
  have HBL := Lib.hid (show bs.length = K by rw [hbs, List.length_map, prs_length, HLL.out, hK])
  have HB := Lib.hid (show ∀ j, j < K → bs.getD j 0 = enc false (10 * (l.getD (2 * j) 0 - 48) + (if 2 * j + 1 < m then l.getD (2 * j + 1) 0 - 48 else 0)) from fun j hj => by
    have hlen : j < (prs l).length := by rw [prs_length, HLL.out]; omega
    have h := prs_at l j (by rw [HLL.out]; omega)
    rw [HLL.out] at h
    rw [hbs, ← h]
    simp [List.getD, hlen])
  have HS := Lib.hid hS
  have HK := Lib.hid hK
  have hS0 : 2 ≤ S := by omega
  have hS1 : S ≤ 20 := by omega
  have hSK : K + 1 ≤ S := by omega
  have jm : ((m : Int) == 0) = false := by simp; omega
  have jm21 : decide ((m : Int) < 21) = true := by simp; omega
  clear hbs hK hS
  go_enter Tryd.func90, Tryd.ntmps90
  go_wp2_with (at_builtin; refine Lib.wpList_append_run _ rfl _ _ _ _ rfl _ _ rfl rfl _ _ H1.out ?_)
  go_loopg [10] K (fun g i wr => ∃ j : Nat, j ≤ K ∧ g = K - j ∧ i = .int .i64 (2 * (j : Int)) ∧ wr.ownsRow w1.heap.size 5 1 (.slice (some ⟨w1.heap.size, 0, none⟩) S S) S ((setAll (List.replicate S (0 : Int)) 1 (bs.take j)).map (Value.int .u8)) ∧ Kp w1 wr)
  case atStart => exact ⟨0, Nat.zero_le _, rfl, rfl, own_repl w1 S _ (by unfold maxLen; omega), (Kp.refl w1).alloc _⟩
  case round =>
    obtain ⟨j, hj, rfl, rfl, hown, hkr⟩ := hrel
    have HO := Lib.hid hown
    have HKR := Lib.hid hkr
    clear hown hkr
    by_cases hlt : j < K
    · have i2 : 2 * (j : Int) < (m : Int) := by omega
      have ca : wr.cell? ⟨g1, 2 * j, none⟩ = some (.int .u8 (l.getD (2 * j) 0)) := by
        have h := bin_at (bin_kp HL.out HKR.out) (2 * j) (by omega)
        rw [Nat.zero_add] at h; exact h
      have ba := getD_digit HLD.out (2 * j) (by rw [HLL.out]; omega)
      have e1 : (2 * (j : Int)).toNat = 2 * j := by omega
      have e3 : (1 + (j : Int)).toNat = 1 + j := by omega
      have e4 : 2 * (j : Int) / 2 = j := by omega
      have so := own_cell HO.out (1 + j) (by omega)
      have zo := HO.out.frozenAt (1 + j)
      have HTK := Lib.hid (take_snoc' bs j (by rw [HBL.out]; omega))
      have HTL := Lib.hid (show (bs.take j).length = j by rw [List.length_take, HBL.out]; omega)
      have HEN0 := Lib.hid (HB.out j hlt)
      by_cases h2 : 2 * j + 1 < m
      · have i3 : 2 * (j : Int) < (m : Int) - 1 := by omega
        have i4 : 2 * (j : Int) + 1 < (m : Int) := by omega
        have cb : wr.cell? ⟨g1, (2 * j + 1), none⟩ = some (.int .u8 (l.getD (2 * j + 1) 0)) := by
          have h := bin_at (bin_kp HL.out HKR.out) (2 * j + 1) (by omega)
          rw [Nat.zero_add] at h; exact h
        have bb := getD_digit HLD.out (2 * j + 1) (by rw [HLL.out]; omega)
        have e2 : (2 * (j : Int) + 1).toNat = 2 * j + 1 := by omega
        have HEN := Lib.hid (show bs.getD j 0 = enc false (10 * (l.getD (2 * j) 0 - 48) + (l.getD (2 * j + 1) 0 - 48)) by rw [HEN0.out, if_pos h2])
        generalize l.getD (2 * j) 0 = x at *
        generalize l.getD (2 * j + 1) 0 = y at *
        clear HEN0
        go_wp2
        go_roundg (K - (j + 1))
        case measure => omega
        case rel =>
          have hs := (own_store HO.out (1 + j) (10 * (x - 48) + (y - 48) + 1)).1
          have hq := HEN.out
          have ht := HTK.out
          have hv : (10 * (x - 48) + (y - 48) + 1 : Int) = bs.getD j 0 := by rw [hq]; rfl
          first | refine ⟨j + 1, by omega, rfl, by congr 1, ?_, HKR.out.set (Nat.le_refl _) _⟩ | ((repeat apply Exists.intro); refine ⟨⟨j + 1, by omega, rfl, by congr 1, ?_, HKR.out.set (Nat.le_refl _) _⟩, rfl⟩)
          rw [ht, setAll_snoc, HTL.out, ← hv]
          exact hs
      · have i3 : ¬ 2 * (j : Int) < (m : Int) - 1 := by omega
        have HEN := Lib.hid (show bs.getD j 0 = enc false (10 * (l.getD (2 * j) 0 - 48)) by rw [HEN0.out, if_neg h2, Int.add_zero])
        generalize l.getD (2 * j) 0 = x at *
        clear HEN0
        go_wp2
        go_roundg (K - (j + 1))
        case measure => omega
        case rel =>
          have hs := (own_store HO.out (1 + j) (10 * (x - 48) + 1)).1
          have hq := HEN.out
          have ht := HTK.out
          have hv : (10 * (x - 48) + 1 : Int) = bs.getD j 0 := by rw [hq]; rfl
          first | refine ⟨j + 1, by omega, rfl, by congr 1, ?_, HKR.out.set (Nat.le_refl _) _⟩ | ((repeat apply Exists.intro); refine ⟨⟨j + 1, by omega, rfl, by congr 1, ?_, HKR.out.set (Nat.le_refl _) _⟩, rfl⟩)
          rw [ht, setAll_snoc, HTL.out, ← hv]
          exact hs
    · obtain rfl : j = K := by omega
      have i2 : ¬ 2 * (j : Int) < (m : Int) := by omega
      have hfull := HO.out
      rw [List.take_of_length_le (by rw [HBL.out]; exact Nat.le_refl _)] at hfull
      have HF := Lib.hid hfull
      clear hfull
      have so := own_cell HF.out 0 (by omega)
      have zo := HF.out.frozenAt 0
      
      
      
      
      
      have q0 : -50 ≤ e / 2 := by omega
      have q1 : e / 2 ≤ 50 := by omega
      have hbit := or128 (e / 2 + 1 + 64) (by omega) (by omega)
      go_wp2
      go_ret
      refine ⟨_, rfl, ?_, HK1.out.trans (HKR.out.set (Nat.le_refl _) _)⟩
      have h := (own_store HF.out 0 (e / 2 + 1 + 64 + 128)).1
      have hc := num_close false l (e / 2 + 1 + 64 + 128)
      simp only [Bool.false_eq_true, if_false, Nat.add_zero] at hc
      rw [HLL.out, ← HBS.out, ← HK.out, ← HS.out] at hc
      have e1 : numL ms false e = (e / 2 + 1 + 64 + 128) :: tailL false l := by unfold numL; rw [HEL.out]; rfl
      rw [e1, ← hc, show ((setAll (List.replicate S (0 : Int)) 1 bs).set 0 (e / 2 + 1 + 64 + 128)).length = S by simp [setAll_length]]
      exact own_base h HK1.out.size

set_option maxRecDepth 100000 in
set_option maxHeartbeats 4000000 in
theorem toNumber_false_even_neg (p : Option Addr) (n k : Nat) (ms : List Int) (e : Int) (w : World) (hi : Lib.BytesIn w p n ms) (hx : ms.length = n) (hn : 1 ≤ n) (hn1 : n ≤ 19) (hd : ∀ x ∈ ms, IsDigit x) (he0 : -100 ≤ e) (he1 : e ≤ 100) (hev : e % 2 = 0) (hs : e < 0) :
    Calls Tryd.prog 90 #[.slice p n k, .bool false, .int .i64 e] w (NumPost ms false e w) := by
  have i0 : ((n : Nat) : Int) ≤ 19 := by omega
  have i1 : (1 : Int) ≤ (n : Int) := by omega
  have HEV := Lib.hid hev
  have j0 : (e.tmod 2 == 0) = true := by
    rw [tmod2_neg e hs]
    simp
    omega
  clear hev
  obtain ⟨v1, w1, hrun1, hov1, hgr1, hnil1⟩ := run_append_bytes (w.alloc (.cells #[.int .u8 48] 5)) w.heap.size _ 1 [48] (by exact own_new w [48] _ (by simp [maxLen])) p n k ms (bin_alloc hi _) hx (by omega) (by simp)
  have HK1 := Lib.hid (((Kp.refl w).alloc _).grown hgr1 (fun k' hk' => own_ge (own_new w [48] 5 (by simp [maxLen])) k' hk'))
  obtain ⟨g1, d1, rfl, hnd1, hdm1, hin1⟩ := own_pos hov1 (by omega)
  have H1 := Lib.hid hrun1
  have HL := Lib.hid hin1
  have HLL := Lib.hid (show ([48] ++ ms).length = 1 + n by simp [hx]; omega)
  have HLD := Lib.hid (show ∀ x ∈ [48] ++ ms, IsDigit x from fun x hx' => by
    rcases List.mem_append.1 hx' with h | h
    · simp at h; subst h; unfold IsDigit; omega
    · exact hd x h)
  have HEL := Lib.hid (show evenL e ms = [48] ++ ms by unfold evenL; rw [if_pos HEV.out]; rfl)
  generalize [48] ++ ms = l at *
  generalize hm : 1 + n = m at *
  have im : 1 + (n : Int) = (m : Int) := by omega
  have hm0 : 2 ≤ m := by omega
  have hm2 : m ≤ 20 := by omega
  clear hrun1 hov1 hgr1 hnil1 hi hx hd hm hin1
  have HEV2 := HEV
  obtain ⟨K, hK⟩ : ∃ K, K = (m + 1) / 2 := ⟨_, rfl⟩
  have hK2 : 2 * K = m ∨ 2 * K = m + 1 := by omega
  obtain ⟨S, hS⟩ : ∃ S, S = 1 + K := ⟨_, rfl⟩
  have s0 : 1 + ((m : Int) + 1) / 2 = (S : Int) := by omega
  have hmk := run_make_bytes .i64 .i64 S S (Nat.le_refl _) (by omega)
  obtain ⟨bs, hbs⟩ : ∃ bs, bs = (prs l).map (enc false) := ⟨_, rfl⟩
  have HBS := Lib.hid hbs
  have HBL := Lib.hid (show bs.length = K by rw [hbs, List.length_map, prs_length, HLL.out, hK])
  have HB := Lib.hid (show ∀ j, j < K → bs.getD j 0 = enc false (10 * (l.getD (2 * j) 0 - 48) + (if 2 * j + 1 < m then l.getD (2 * j + 1) 0 - 48 else 0)) from fun j hj => by
    have hlen : j < (prs l).length := by rw [prs_length, HLL.out]; omega
    have h := prs_at l j (by rw [HLL.out]; omega)
    rw [HLL.out] at h
    rw [hbs, ← h]
    simp [List.getD, hlen])
  have HS := Lib.hid hS
  have HK := Lib.hid hK
  have hS0 : 2 ≤ S := by omega
  have hS1 : S ≤ 20 := by omega
  have hSK : K + 1 ≤ S := by omega
  have jm : ((m : Int) == 0) = false := by simp; omega
  have jm21 : decide ((m : Int) < 21) = true := by simp; omega
  clear hbs hK hS
  go_enter Tryd.func90, Tryd.ntmps90
  go_wp2_with (at_builtin; refine Lib.wpList_append_run _ rfl _ _ _ _ rfl _ _ rfl rfl _ _ H1.out ?_)
  go_loopg [10] K (fun g i wr => ∃ j : Nat, j ≤ K ∧ g = K - j ∧ i = .int .i64 (2 * (j : Int)) ∧ wr.ownsRow w1.heap.size 5 1 (.slice (some ⟨w1.heap.size, 0, none⟩) S S) S ((setAll (List.replicate S (0 : Int)) 1 (bs.take j)).map (Value.int .u8)) ∧ Kp w1 wr)
  case atStart => exact ⟨0, Nat.zero_le _, rfl, rfl, own_repl w1 S _ (by unfold maxLen; omega), (Kp.refl w1).alloc _⟩
  case round =>
    obtain ⟨j, hj, rfl, rfl, hown, hkr⟩ := hrel
    have HO := Lib.hid hown
    have HKR := Lib.hid hkr
    clear hown hkr
    by_cases hlt : j < K
    · have i2 : 2 * (j : Int) < (m : Int) := by omega
      have ca : wr.cell? ⟨g1, 2 * j, none⟩ = some (.int .u8 (l.getD (2 * j) 0)) := by
        have h := bin_at (bin_kp HL.out HKR.out) (2 * j) (by omega)
        rw [Nat.zero_add] at h; exact h
      have ba := getD_digit HLD.out (2 * j) (by rw [HLL.out]; omega)
      have e1 : (2 * (j : Int)).toNat = 2 * j := by omega
      have e3 : (1 + (j : Int)).toNat = 1 + j := by omega
      have e4 : 2 * (j : Int) / 2 = j := by omega
      have so := own_cell HO.out (1 + j) (by omega)
      have zo := HO.out.frozenAt (1 + j)
      have HTK := Lib.hid (take_snoc' bs j (by rw [HBL.out]; omega))
      have HTL := Lib.hid (show (bs.take j).length = j by rw [List.length_take, HBL.out]; omega)
      have HEN0 := Lib.hid (HB.out j hlt)
      by_cases h2 : 2 * j + 1 < m
      · have i3 : 2 * (j : Int) < (m : Int) - 1 := by omega
        have i4 : 2 * (j : Int) + 1 < (m : Int) := by omega
        have cb : wr.cell? ⟨g1, (2 * j + 1), none⟩ = some (.int .u8 (l.getD (2 * j + 1) 0)) := by
          have h := bin_at (bin_kp HL.out HKR.out) (2 * j + 1) (by omega)
          rw [Nat.zero_add] at h; exact h
        have bb := getD_digit HLD.out (2 * j + 1) (by rw [HLL.out]; omega)
        have e2 : (2 * (j : Int) + 1).toNat = 2 * j + 1 := by omega
        have HEN := Lib.hid (show bs.getD j 0 = enc false (10 * (l.getD (2 * j) 0 - 48) + (l.getD (2 * j + 1) 0 - 48)) by rw [HEN0.out, if_pos h2])
        generalize l.getD (2 * j) 0 = x at *
        generalize l.getD (2 * j + 1) 0 = y at *
        clear HEN0
        go_wp2
        go_roundg (K - (j + 1))
        case measure => omega
        case rel =>
          have hs := (own_store HO.out (1 + j) (10 * (x - 48) + (y - 48) + 1)).1
          have hq := HEN.out
          have ht := HTK.out
          have hv : (10 * (x - 48) + (y - 48) + 1 : Int) = bs.getD j 0 := by rw [hq]; rfl
          first | refine ⟨j + 1, by omega, rfl, by congr 1, ?_, HKR.out.set (Nat.le_refl _) _⟩ | ((repeat apply Exists.intro); refine ⟨⟨j + 1, by omega, rfl, by congr 1, ?_, HKR.out.set (Nat.le_refl _) _⟩, rfl⟩)
          rw [ht, setAll_snoc, HTL.out, ← hv]
          exact hs
      · have i3 : ¬ 2 * (j : Int) < (m : Int) - 1 := by omega
        have HEN := Lib.hid (show bs.getD j 0 = enc false (10 * (l.getD (2 * j) 0 - 48)) by rw [HEN0.out, if_neg h2, Int.add_zero])
        generalize l.getD (2 * j) 0 = x at *
        clear HEN0
        go_wp2
        go_roundg (K - (j + 1))
        case measure => omega
        case rel =>
          have hs := (own_store HO.out (1 + j) (10 * (x - 48) + 1)).1
          have hq := HEN.out
          have ht := HTK.out
          have hv : (10 * (x - 48) + 1 : Int) = bs.getD j 0 := by rw [hq]; rfl
          first | refine ⟨j + 1, by omega, rfl, by congr 1, ?_, HKR.out.set (Nat.le_refl _) _⟩ | ((repeat apply Exists.intro); refine ⟨⟨j + 1, by omega, rfl, by congr 1, ?_, HKR.out.set (Nat.le_refl _) _⟩, rfl⟩)
          rw [ht, setAll_snoc, HTL.out, ← hv]
          exact hs
    · obtain rfl : j = K := by omega
      have i2 : ¬ 2 * (j : Int) < (m : Int) := by omega
      have hfull := HO.out
      rw [List.take_of_length_le (by rw [HBL.out]; exact Nat.le_refl _)] at hfull
      have HF := Lib.hid hfull
      clear hfull
      have so := own_cell HF.out 0 (by omega)
      have zo := HF.out.frozenAt 0
      
      
      
      
      have eq := tdiv2_neg e hs
      have q0 : -50 ≤ e / 2 := by omega
      have q1 : e / 2 ≤ 50 := by omega
      have hbit := or128 (e / 2 + 1 + 64) (by omega) (by omega)
      go_wp2
      go_ret
      refine ⟨_, rfl, ?_, HK1.out.trans (HKR.out.set (Nat.le_refl _) _)⟩
      have h := (own_store HF.out 0 (e / 2 + 1 + 64 + 128)).1
      have hc := num_close false l (e / 2 + 1 + 64 + 128)
      simp only [Bool.false_eq_true, if_false, Nat.add_zero] at hc
      rw [HLL.out, ← HBS.out, ← HK.out, ← HS.out] at hc
      have e1 : numL ms false e = (e / 2 + 1 + 64 + 128) :: tailL false l := by unfold numL; rw [HEL.out]; rfl
      rw [e1, ← hc, show ((setAll (List.replicate S (0 : Int)) 1 bs).set 0 (e / 2 + 1 + 64 + 128)).length = S by simp [setAll_length]]
      exact own_base h HK1.out.size

set_option maxRecDepth 100000 in
set_option maxHeartbeats 4000000 in
theorem toNumber_false_odd_pos (p : Option Addr) (n k : Nat) (ms : List Int) (e : Int) (w : World) (hi : Lib.BytesIn w p n ms) (hx : ms.length = n) (hn : 1 ≤ n) (hn1 : n ≤ 19) (hd : ∀ x ∈ ms, IsDigit x) (he0 : -100 ≤ e) (he1 : e ≤ 100) (hev : e % 2 ≠ 0) (hs : 0 ≤ e) :
    Calls Tryd.prog 90 #[.slice p n k, .bool false, .int .i64 e] w (NumPost ms false e w) := by
  have i0 : ((n : Nat) : Int) ≤ 19 := by omega
  have i1 : (1 : Int) ≤ (n : Int) := by omega
  have HEV := Lib.hid hev
  have j0 : (e % 2 == 0) = false := by
    skip
    simp
    omega
  clear hev
  have HEL := Lib.hid (show evenL e ms = ms by unfold evenL; rw [if_neg HEV.out])
  obtain ⟨b, o, rfl, hcell⟩ := hi (by omega)
  have HL := Lib.hid (show Lib.BytesIn w (some ⟨b, o, none⟩) n ms from hi)
  have HLL := Lib.hid hx
  have HLD := Lib.hid hd
  obtain ⟨w1, hw1⟩ : ∃ w1, w1 = w := ⟨_, rfl⟩
  subst hw1
  have HK1 := Lib.hid (Kp.refl w1)
  obtain ⟨l, hl⟩ : ∃ l, l = ms := ⟨_, rfl⟩
  obtain ⟨m, hm⟩ : ∃ m, m = n := ⟨_, rfl⟩
  subst hl hm
  have hm0 : 1 ≤ m := hn
  have hm2 : m ≤ 20 := by omega
  clear hi hx hd hcell
  have HEV2 := HEV
  obtain ⟨K, hK⟩ : ∃ K, K = (m + 1) / 2 := ⟨_, rfl⟩
  have hK2 : 2 * K = m ∨ 2 * K = m + 1 := by omega
  obtain ⟨S, hS⟩ : ∃ S, S = 1 + K := ⟨_, rfl⟩
  have s0 : 1 + ((m : Int) + 1) / 2 = (S : Int) := by omega
  have hmk := run_make_bytes .i64 .i64 S S (Nat.le_refl _) (by omega)
  obtain ⟨bs, hbs⟩ : ∃ bs, bs = (prs l).map (enc false) := ⟨_, rfl⟩
  have HBS := Lib.hid hbs
  have HBL := Lib.hid (show bs.length = K by rw [hbs, List.length_map, prs_length, HLL.out, hK])
  have HB := Lib.hid (show ∀ j, j < K → bs.getD j 0 = enc false (10 * (l.getD (2 * j) 0 - 48) + (if 2 * j + 1 < m then l.getD (2 * j + 1) 0 - 48 else 0)) from fun j hj => by
    have hlen : j < (prs l).length := by rw [prs_length, HLL.out]; omega
    have h := prs_at l j (by rw [HLL.out]; omega)
    rw [HLL.out] at h
    rw [hbs, ← h]
    simp [List.getD, hlen])
  have HS := Lib.hid hS
  have HK := Lib.hid hK
  have hS0 : 2 ≤ S := by omega
  have hS1 : S ≤ 20 := by omega
  have hSK : K + 1 ≤ S := by omega
  have jm : ((m : Int) == 0) = false := by simp; omega
  have jm21 : decide ((m : Int) < 21) = true := by simp; omega
  clear hbs hK hS
  go_enter Tryd.func90, Tryd.ntmps90
  go_wp2_with fail
  go_loopg [10] K (fun g i wr => ∃ j : Nat, j ≤ K ∧ g = K - j ∧ i = .int .i64 (2 * (j : Int)) ∧ wr.ownsRow w1.heap.size 5 1 (.slice (some ⟨w1.heap.size, 0, none⟩) S S) S ((setAll (List.replicate S (0 : Int)) 1 (bs.take j)).map (Value.int .u8)) ∧ Kp w1 wr)
  case atStart => exact ⟨0, Nat.zero_le _, rfl, rfl, own_repl w1 S _ (by unfold maxLen; omega), (Kp.refl w1).alloc _⟩
  case round =>
    obtain ⟨j, hj, rfl, rfl, hown, hkr⟩ := hrel
    have HO := Lib.hid hown
    have HKR := Lib.hid hkr
    clear hown hkr
    by_cases hlt : j < K
    · have i2 : 2 * (j : Int) < (m : Int) := by omega
      have ca : wr.cell? ⟨b, o + 2 * j, none⟩ = some (.int .u8 (l.getD (2 * j) 0)) := by
        have h := bin_at (bin_kp HL.out HKR.out) (2 * j) (by omega)
        exact h
      have ba := getD_digit HLD.out (2 * j) (by rw [HLL.out]; omega)
      have e1 : (2 * (j : Int)).toNat = 2 * j := by omega
      have e3 : (1 + (j : Int)).toNat = 1 + j := by omega
      have e4 : 2 * (j : Int) / 2 = j := by omega
      have so := own_cell HO.out (1 + j) (by omega)
      have zo := HO.out.frozenAt (1 + j)
      have HTK := Lib.hid (take_snoc' bs j (by rw [HBL.out]; omega))
      have HTL := Lib.hid (show (bs.take j).length = j by rw [List.length_take, HBL.out]; omega)
      have HEN0 := Lib.hid (HB.out j hlt)
      by_cases h2 : 2 * j + 1 < m
      · have i3 : 2 * (j : Int) < (m : Int) - 1 := by omega
        have i4 : 2 * (j : Int) + 1 < (m : Int) := by omega
        have cb : wr.cell? ⟨b, o + (2 * j + 1), none⟩ = some (.int .u8 (l.getD (2 * j + 1) 0)) := by
          have h := bin_at (bin_kp HL.out HKR.out) (2 * j + 1) (by omega)
          exact h
        have bb := getD_digit HLD.out (2 * j + 1) (by rw [HLL.out]; omega)
        have e2 : (2 * (j : Int) + 1).toNat = 2 * j + 1 := by omega
        have HEN := Lib.hid (show bs.getD j 0 = enc false (10 * (l.getD (2 * j) 0 - 48) + (l.getD (2 * j + 1) 0 - 48)) by rw [HEN0.out, if_pos h2])
        generalize l.getD (2 * j) 0 = x at *
        generalize l.getD (2 * j + 1) 0 = y at *
        clear HEN0
        go_wp2
        go_roundg (K - (j + 1))
        case measure => omega
        case rel =>
          have hs := (own_store HO.out (1 + j) (10 * (x - 48) + (y - 48) + 1)).1
          have hq := HEN.out
          have ht := HTK.out
          have hv : (10 * (x - 48) + (y - 48) + 1 : Int) = bs.getD j 0 := by rw [hq]; rfl
          first | refine ⟨j + 1, by omega, rfl, by congr 1, ?_, HKR.out.set (Nat.le_refl _) _⟩ | ((repeat apply Exists.intro); refine ⟨⟨j + 1, by omega, rfl, by congr 1, ?_, HKR.out.set (Nat.le_refl _) _⟩, rfl⟩)
          rw [ht, setAll_snoc, HTL.out, ← hv]
          exact hs
      · have i3 : ¬ 2 * (j : Int) < (m : Int) - 1 := by omega
        have HEN := Lib.hid (show bs.getD j 0 = enc false (10 * (l.getD (2 * j) 0 - 48)) by rw [HEN0.out, if_neg h2, Int.add_zero])
        generalize l.getD (2 * j) 0 = x at *
        clear HEN0
        go_wp2
        go_roundg (K - (j + 1))
        case measure => omega
        case rel =>
          have hs := (own_store HO.out (1 + j) (10 * (x - 48) + 1)).1
          have hq := HEN.out
          have ht := HTK.out
          have hv : (10 * (x - 48) + 1 : Int) = bs.getD j 0 := by rw [hq]; rfl
          first | refine ⟨j + 1, by omega, rfl, by congr 1, ?_, HKR.out.set (Nat.le_refl _) _⟩ | ((repeat apply Exists.intro); refine ⟨⟨j + 1, by omega, rfl, by congr 1, ?_, HKR.out.set (Nat.le_refl _) _⟩, rfl⟩)
          rw [ht, setAll_snoc, HTL.out, ← hv]
          exact hs
    · obtain rfl : j = K := by omega
      have i2 : ¬ 2 * (j : Int) < (m : Int) := by omega
      have hfull := HO.out
      rw [List.take_of_length_le (by rw [HBL.out]; exact Nat.le_refl _)] at hfull
      have HF := Lib.hid hfull
      clear hfull
      have so := own_cell HF.out 0 (by omega)
      have zo := HF.out.frozenAt 0
      
      
      
      
      
      have q0 : -50 ≤ e / 2 := by omega
      have q1 : e / 2 ≤ 50 := by omega
      have hbit := or128 (e / 2 + 1 + 64) (by omega) (by omega)
      go_wp2
      go_ret
      refine ⟨_, rfl, ?_, HK1.out.trans (HKR.out.set (Nat.le_refl _) _)⟩
      have h := (own_store HF.out 0 (e / 2 + 1 + 64 + 128)).1
      have hc := num_close false l (e / 2 + 1 + 64 + 128)
      simp only [Bool.false_eq_true, if_false, Nat.add_zero] at hc
      rw [HLL.out, ← HBS.out, ← HK.out, ← HS.out] at hc
      have e1 : numL l false e = (e / 2 + 1 + 64 + 128) :: tailL false l := by unfold numL; rw [HEL.out]; rfl
      rw [e1, ← hc, show ((setAll (List.replicate S (0 : Int)) 1 bs).set 0 (e / 2 + 1 + 64 + 128)).length = S by simp [setAll_length]]
      exact own_base h HK1.out.size

set_option maxRecDepth 100000 in
set_option maxHeartbeats 4000000 in
theorem toNumber_false_odd_neg (p : Option Addr) (n k : Nat) (ms : List Int) (e : Int) (w : World) (hi : Lib.BytesIn w p n ms) (hx : ms.length = n) (hn : 1 ≤ n) (hn1 : n ≤ 19) (hd : ∀ x ∈ ms, IsDigit x) (he0 : -100 ≤ e) (he1 : e ≤ 100) (hev : e % 2 ≠ 0) (hs : e < 0) :
    Calls Tryd.prog 90 #[.slice p n k, .bool false, .int .i64 e] w (NumPost ms false e w) := by
  have i0 : ((n : Nat) : Int) ≤ 19 := by omega
  have i1 : (1 : Int) ≤ (n : Int) := by omega
  have HEV := Lib.hid hev
  have j0 : (e.tmod 2 == 0) = false := by
    rw [tmod2_neg e hs]
    simp
    omega
  clear hev
  have HEL := Lib.hid (show evenL e ms = ms by unfold evenL; rw [if_neg HEV.out])
  obtain ⟨b, o, rfl, hcell⟩ := hi (by omega)
  have HL := Lib.hid (show Lib.BytesIn w (some ⟨b, o, none⟩) n ms from hi)
  have HLL := Lib.hid hx
  have HLD := Lib.hid hd
  obtain ⟨w1, hw1⟩ : ∃ w1, w1 = w := ⟨_, rfl⟩
  subst hw1
  have HK1 := Lib.hid (Kp.refl w1)
  obtain ⟨l, hl⟩ : ∃ l, l = ms := ⟨_, rfl⟩
  obtain ⟨m, hm⟩ : ∃ m, m = n := ⟨_, rfl⟩
  subst hl hm
  have hm0 : 1 ≤ m := hn
  have hm2 : m ≤ 20 := by omega
  clear hi hx hd hcell
  have HEV2 := HEV
  obtain ⟨K, hK⟩ : ∃ K, K = (m + 1) / 2 := ⟨_, rfl⟩
  have hK2 : 2 * K = m ∨ 2 * K = m + 1 := by omega
  obtain ⟨S, hS⟩ : ∃ S, S = 1 + K := ⟨_, rfl⟩
  have s0 : 1 + ((m : Int) + 1) / 2 = (S : Int) := by omega
  have hmk := run_make_bytes .i64 .i64 S S (Nat.le_refl _) (by omega)
  obtain ⟨bs, hbs⟩ : ∃ bs, bs = (prs l).map (enc false) := ⟨_, rfl⟩
  have HBS := Lib.hid hbs
  have HBL := Lib.hid (show bs.length = K by rw [hbs, List.length_map, prs_length, HLL.out, hK])
  have HB := Lib.hid (show ∀ j, j < K → bs.getD j 0 = enc false (10 * (l.getD (2 * j) 0 - 48) + (if 2 * j + 1 < m then l.getD (2 * j + 1) 0 - 48 else 0)) from fun j hj => by
    have hlen : j < (prs l).length := by rw [prs_length, HLL.out]; omega
    have h := prs_at l j (by rw [HLL.out]; omega)
    rw [HLL.out] at h
    rw [hbs, ← h]
    simp [List.getD, hlen])
  have HS := Lib.hid hS
  have HK := Lib.hid hK
  have hS0 : 2 ≤ S := by omega
  have hS1 : S ≤ 20 := by omega
  have hSK : K + 1 ≤ S := by omega
  have jm : ((m : Int) == 0) = false := by simp; omega
  have jm21 : decide ((m : Int) < 21) = true := by simp; omega
  clear hbs hK hS
  go_enter Tryd.func90, Tryd.ntmps90
  go_wp2_with fail
  go_loopg [10] K (fun g i wr => ∃ j : Nat, j ≤ K ∧ g = K - j ∧ i = .int .i64 (2 * (j : Int)) ∧ wr.ownsRow w1.heap.size 5 1 (.slice (some ⟨w1.heap.size, 0, none⟩) S S) S ((setAll (List.replicate S (0 : Int)) 1 (bs.take j)).map (Value.int .u8)) ∧ Kp w1 wr)
  case atStart => exact ⟨0, Nat.zero_le _, rfl, rfl, own_repl w1 S _ (by unfold maxLen; omega), (Kp.refl w1).alloc _⟩
  case round =>
    obtain ⟨j, hj, rfl, rfl, hown, hkr⟩ := hrel
    have HO := Lib.hid hown
    have HKR := Lib.hid hkr
    clear hown hkr
    by_cases hlt : j < K
    · have i2 : 2 * (j : Int) < (m : Int) := by omega
      have ca : wr.cell? ⟨b, o + 2 * j, none⟩ = some (.int .u8 (l.getD (2 * j) 0)) := by
        have h := bin_at (bin_kp HL.out HKR.out) (2 * j) (by omega)
        exact h
      have ba := getD_digit HLD.out (2 * j) (by rw [HLL.out]; omega)
      have e1 : (2 * (j : Int)).toNat = 2 * j := by omega
      have e3 : (1 + (j : Int)).toNat = 1 + j := by omega
      have e4 : 2 * (j : Int) / 2 = j := by omega
      have so := own_cell HO.out (1 + j) (by omega)
      have zo := HO.out.frozenAt (1 + j)
      have HTK := Lib.hid (take_snoc' bs j (by rw [HBL.out]; omega))
      have HTL := Lib.hid (show (bs.take j).length = j by rw [List.length_take, HBL.out]; omega)
      have HEN0 := Lib.hid (HB.out j hlt)
      by_cases h2 : 2 * j + 1 < m
      · have i3 : 2 * (j : Int) < (m : Int) - 1 := by omega
        have i4 : 2 * (j : Int) + 1 < (m : Int) := by omega
        have cb : wr.cell? ⟨b, o + (2 * j + 1), none⟩ = some (.int .u8 (l.getD (2 * j + 1) 0)) := by
          have h := bin_at (bin_kp HL.out HKR.out) (2 * j + 1) (by omega)
          exact h
        have bb := getD_digit HLD.out (2 * j + 1) (by rw [HLL.out]; omega)
        have e2 : (2 * (j : Int) + 1).toNat = 2 * j + 1 := by omega
        have HEN := Lib.hid (show bs.getD j 0 = enc false (10 * (l.getD (2 * j) 0 - 48) + (l.getD (2 * j + 1) 0 - 48)) by rw [HEN0.out, if_pos h2])
        generalize l.getD (2 * j) 0 = x at *
        generalize l.getD (2 * j + 1) 0 = y at *
        clear HEN0
        go_wp2
        go_roundg (K - (j + 1))
        case measure => omega
        case rel =>
          have hs := (own_store HO.out (1 + j) (10 * (x - 48) + (y - 48) + 1)).1
          have hq := HEN.out
          have ht := HTK.out
          have hv : (10 * (x - 48) + (y - 48) + 1 : Int) = bs.getD j 0 := by rw [hq]; rfl
          first | refine ⟨j + 1, by omega, rfl, by congr 1, ?_, HKR.out.set (Nat.le_refl _) _⟩ | ((repeat apply Exists.intro); refine ⟨⟨j + 1, by omega, rfl, by congr 1, ?_, HKR.out.set (Nat.le_refl _) _⟩, rfl⟩)
          rw [ht, setAll_snoc, HTL.out, ← hv]
          exact hs
      · have i3 : ¬ 2 * (j : Int) < (m : Int) - 1 := by omega
        have HEN := Lib.hid (show bs.getD j 0 = enc false (10 * (l.getD (2 * j) 0 - 48)) by rw [HEN0.out, if_neg h2, Int.add_zero])
        generalize l.getD (2 * j) 0 = x at *
        clear HEN0
        go_wp2
        go_roundg (K - (j + 1))
        case measure => omega
        case rel =>
          have hs := (own_store HO.out (1 + j) (10 * (x - 48) + 1)).1
          have hq := HEN.out
          have ht := HTK.out
          have hv : (10 * (x - 48) + 1 : Int) = bs.getD j 0 := by rw [hq]; rfl
          first | refine ⟨j + 1, by omega, rfl, by congr 1, ?_, HKR.out.set (Nat.le_refl _) _⟩ | ((repeat apply Exists.intro); refine ⟨⟨j + 1, by omega, rfl, by congr 1, ?_, HKR.out.set (Nat.le_refl _) _⟩, rfl⟩)
          rw [ht, setAll_snoc, HTL.out, ← hv]
          exact hs
    · obtain rfl : j = K := by omega
      have i2 : ¬ 2 * (j : Int) < (m : Int) := by omega
      have hfull := HO.out
      rw [List.take_of_length_le (by rw [HBL.out]; exact Nat.le_refl _)] at hfull
      have HF := Lib.hid hfull
      clear hfull
      have so := own_cell HF.out 0 (by omega)
      have zo := HF.out.frozenAt 0
      
      
      
      
      have eq := tdiv2_neg e hs
      have q0 : -50 ≤ e / 2 := by omega
      have q1 : e / 2 ≤ 50 := by omega
      have hbit := or128 (e / 2 + 1 + 64) (by omega) (by omega)
      go_wp2
      go_ret
      refine ⟨_, rfl, ?_, HK1.out.trans (HKR.out.set (Nat.le_refl _) _)⟩
      have h := (own_store HF.out 0 (e / 2 + 1 + 64 + 128)).1
      have hc := num_close false l (e / 2 + 1 + 64 + 128)
      simp only [Bool.false_eq_true, if_false, Nat.add_zero] at hc
      rw [HLL.out, ← HBS.out, ← HK.out, ← HS.out] at hc
      have e1 : numL l false e = (e / 2 + 1 + 64 + 128) :: tailL false l := by unfold numL; rw [HEL.out]; rfl
      rw [e1, ← hc, show ((setAll (List.replicate S (0 : Int)) 1 bs).set 0 (e / 2 + 1 + 64 + 128)).length = S by simp [setAll_length]]
      exact own_base h HK1.out.size

set_option maxRecDepth 100000 in
set_option maxHeartbeats 4000000 in
theorem toNumber_true_even_pos (p : Option Addr) (n k : Nat) (ms : List Int) (e : Int) (w : World) (hi : Lib.BytesIn w p n ms) (hx : ms.length = n) (hn : 1 ≤ n) (hn1 : n ≤ 19) (hd : ∀ x ∈ ms, IsDigit x) (he0 : -100 ≤ e) (he1 : e ≤ 100) (hev : e % 2 = 0) (hs : 0 ≤ e) :
    Calls Tryd.prog 90 #[.slice p n k, .bool true, .int .i64 e] w (NumPost ms true e w) := by
  have i0 : ((n : Nat) : Int) ≤ 19 := by omega
  have i1 : (1 : Int) ≤ (n : Int) := by omega
  have HEV := Lib.hid hev
  have j0 : (e % 2 == 0) = true := by
    skip
    simp
    omega
  clear hev
  obtain ⟨v1, w1, hrun1, hov1, hgr1, hnil1⟩ := run_append_bytes (w.alloc (.cells #[.int .u8 48] 5)) w.heap.size _ 1 [48] (by exact own_new w [48] _ (by simp [maxLen])) p n k ms (bin_alloc hi _) hx (by omega) (by simp)
  have HK1 := Lib.hid (((Kp.refl w).alloc _).grown hgr1 (fun k' hk' => own_ge (own_new w [48] 5 (by simp [maxLen])) k' hk'))
  obtain ⟨g1, d1, rfl, hnd1, hdm1, hin1⟩ := own_pos hov1 (by omega)
  have H1 := Lib.hid hrun1
  have HL := Lib.hid hin1
  have HLL := Lib.hid (show ([48] ++ ms).length = 1 + n by simp [hx]; omega)
  have HLD := Lib.hid (show ∀ x ∈ [48] ++ ms, IsDigit x from fun x hx' => by
    rcases List.mem_append.1 hx' with h | h
    · simp at h; subst h; unfold IsDigit; omega
    · exact hd x h)
  have HEL := Lib.hid (show evenL e ms = [48] ++ ms by unfold evenL; rw [if_pos HEV.out]; rfl)
  generalize [48] ++ ms = l at *
  generalize hm : 1 + n = m at *
  have im : 1 + (n : Int) = (m : Int) := by omega
  have hm0 : 2 ≤ m := by omega
  have hm2 : m ≤ 20 := by omega
  clear hrun1 hov1 hgr1 hnil1 hi hx hd hm hin1
  have HEV2 := HEV
  obtain ⟨K, hK⟩ : ∃ K, K = (m + 1) / 2 := ⟨_, rfl⟩
  have hK2 : 2 * K = m ∨ 2 * K = m + 1 := by omega
  obtain ⟨S, hS⟩ : ∃ S, S = 1 + K + 1 := ⟨_, rfl⟩
  have s0 : 1 + ((m : Int) + 1) / 2 + 1 = (S : Int) := by omega
  have hmk := run_make_bytes .i64 .i64 S S (Nat.le_refl _) (by omega)
  obtain ⟨bs, hbs⟩ : ∃ bs, bs = (prs l).map (enc true) := ⟨_, rfl⟩
  have HBS := Lib.hid hbs
  have HBL := Lib.hid (show bs.length = K by rw [hbs, List.length_map, prs_length, HLL.out, hK])
  have HB := Lib.hid (show ∀ j, j < K → bs.getD j 0 = enc true (10 * (l.getD (2 * j) 0 - 48) + (if 2 * j + 1 < m then l.getD (2 * j + 1) 0 - 48 else 0)) from fun j hj => by
    have hlen : j < (prs l).length := by rw [prs_length, HLL.out]; omega
    have h := prs_at l j (by rw [HLL.out]; omega)
    rw [HLL.out] at h
    rw [hbs, ← h]
    simp [List.getD, hlen])
  have HS := Lib.hid hS
  have HK := Lib.hid hK
  have hS0 : 2 ≤ S := by omega
  have hS1 : S ≤ 20 := by omega
  have hSK : K + 1 ≤ S := by omega
  have jm : ((m : Int) == 0) = false := by simp; omega
  have jm21 : decide ((m : Int) < 21) = true := by simp; omega
  clear hbs hK hS
  go_enter Tryd.func90, Tryd.ntmps90
  go_wp2_with (at_builtin; refine Lib.wpList_append_run _ rfl _ _ _ _ rfl _ _ rfl rfl _ _ H1.out ?_)
  go_loopg [10] K (fun g i wr => ∃ j : Nat, j ≤ K ∧ g = K - j ∧ i = .int .i64 (2 * (j : Int)) ∧ wr.ownsRow w1.heap.size 5 1 (.slice (some ⟨w1.heap.size, 0, none⟩) S S) S ((setAll (List.replicate S (0 : Int)) 1 (bs.take j)).map (Value.int .u8)) ∧ Kp w1 wr)
  case atStart => exact ⟨0, Nat.zero_le _, rfl, rfl, own_repl w1 S _ (by unfold maxLen; omega), (Kp.refl w1).alloc _⟩
  case round =>
    obtain ⟨j, hj, rfl, rfl, hown, hkr⟩ := hrel
    have HO := Lib.hid hown
    have HKR := Lib.hid hkr
    clear hown hkr
    by_cases hlt : j < K
    · have i2 : 2 * (j : Int) < (m : Int) := by omega
      have ca : wr.cell? ⟨g1, 2 * j, none⟩ = some (.int .u8 (l.getD (2 * j) 0)) := by
        have h := bin_at (bin_kp HL.out HKR.out) (2 * j) (by omega)
        rw [Nat.zero_add] at h; exact h
      have ba := getD_digit HLD.out (2 * j) (by rw [HLL.out]; omega)
      have e1 : (2 * (j : Int)).toNat = 2 * j := by omega
      have e3 : (1 + (j : Int)).toNat = 1 + j := by omega
      have e4 : 2 * (j : Int) / 2 = j := by omega
      have so := own_cell HO.out (1 + j) (by omega)
      have zo := HO.out.frozenAt (1 + j)
      have HTK := Lib.hid (take_snoc' bs j (by rw [HBL.out]; omega))
      have HTL := Lib.hid (show (bs.take j).length = j by rw [List.length_take, HBL.out]; omega)
      have HEN0 := Lib.hid (HB.out j hlt)
      by_cases h2 : 2 * j + 1 < m
      · have i3 : 2 * (j : Int) < (m : Int) - 1 := by omega
        have i4 : 2 * (j : Int) + 1 < (m : Int) := by omega
        have cb : wr.cell? ⟨g1, (2 * j + 1), none⟩ = some (.int .u8 (l.getD (2 * j + 1) 0)) := by
          have h := bin_at (bin_kp HL.out HKR.out) (2 * j + 1) (by omega)
          rw [Nat.zero_add] at h; exact h
        have bb := getD_digit HLD.out (2 * j + 1) (by rw [HLL.out]; omega)
        have e2 : (2 * (j : Int) + 1).toNat = 2 * j + 1 := by omega
        have HEN := Lib.hid (show bs.getD j 0 = enc true (10 * (l.getD (2 * j) 0 - 48) + (l.getD (2 * j + 1) 0 - 48)) by rw [HEN0.out, if_pos h2])
        generalize l.getD (2 * j) 0 = x at *
        generalize l.getD (2 * j + 1) 0 = y at *
        clear HEN0
        go_wp2
        go_roundg (K - (j + 1))
        case measure => omega
        case rel =>
          have hs := (own_store HO.out (1 + j) (100 - (10 * (x - 48) + (y - 48)) + 1)).1
          have hq := HEN.out
          have ht := HTK.out
          have hv : (100 - (10 * (x - 48) + (y - 48)) + 1 : Int) = bs.getD j 0 := by rw [hq]; unfold enc; simp only [if_true]; omega
          first | refine ⟨j + 1, by omega, rfl, by congr 1, ?_, HKR.out.set (Nat.le_refl _) _⟩ | ((repeat apply Exists.intro); refine ⟨⟨j + 1, by omega, rfl, by congr 1, ?_, HKR.out.set (Nat.le_refl _) _⟩, rfl⟩)
          rw [ht, setAll_snoc, HTL.out, ← hv]
          exact hs
      · have i3 : ¬ 2 * (j : Int) < (m : Int) - 1 := by omega
        have HEN := Lib.hid (show bs.getD j 0 = enc true (10 * (l.getD (2 * j) 0 - 48)) by rw [HEN0.out, if_neg h2, Int.add_zero])
        generalize l.getD (2 * j) 0 = x at *
        clear HEN0
        go_wp2
        go_roundg (K - (j + 1))
        case measure => omega
        case rel =>
          have hs := (own_store HO.out (1 + j) (100 - 10 * (x - 48) + 1)).1
          have hq := HEN.out
          have ht := HTK.out
          have hv : (100 - 10 * (x - 48) + 1 : Int) = bs.getD j 0 := by rw [hq]; unfold enc; simp only [if_true]; omega
          first | refine ⟨j + 1, by omega, rfl, by congr 1, ?_, HKR.out.set (Nat.le_refl _) _⟩ | ((repeat apply Exists.intro); refine ⟨⟨j + 1, by omega, rfl, by congr 1, ?_, HKR.out.set (Nat.le_refl _) _⟩, rfl⟩)
          rw [ht, setAll_snoc, HTL.out, ← hv]
          exact hs
    · obtain rfl : j = K := by omega
      have i2 : ¬ 2 * (j : Int) < (m : Int) := by omega
      have hfull := HO.out
      rw [List.take_of_length_le (by rw [HBL.out]; exact Nat.le_refl _)] at hfull
      have HF := Lib.hid hfull
      clear hfull
      have so := own_cell HF.out 0 (by omega)
      have zo := HF.out.frozenAt 0
      have sl := own_cell HF.out (S - 1) (by omega)
      have zl := HF.out.frozenAt (S - 1)
      have el : ((S : Int) - 1).toNat = S - 1 := by omega
      have el2 : S - 1 ≠ 0 := by omega
      
      have q0 : -50 ≤ e / 2 := by omega
      have q1 : e / 2 ≤ 50 := by omega
      have hbit := xor127 (e / 2 + 1 + 64) (by omega) (by omega)
      go_wp2
      go_ret
      refine ⟨_, rfl, ?_, HK1.out.trans ((HKR.out.set (Nat.le_refl _) _).set (Nat.le_refl _) _)⟩
      have h := (own_store (own_store HF.out (S - 1) 102).1 0 (127 - (e / 2 + 1 + 64))).1
      have hc := num_close true l (127 - (e / 2 + 1 + 64))
      simp only [if_true] at hc
      rw [HLL.out, ← HBS.out, ← HK.out, ← HS.out, show 1 + j = S - 1 by rw [HS.out]; omega] at hc
      have e1 : numL ms true e = (127 - (e / 2 + 1 + 64)) :: tailL true l := by unfold numL; rw [HEL.out]; rfl
      rw [e1, ← hc, show (((setAll (List.replicate S (0 : Int)) 1 bs).set (S - 1) 102).set 0 (127 - (e / 2 + 1 + 64))).length = S by simp [setAll_length]]
      exact own_base h HK1.out.size

set_option maxRecDepth 100000 in
set_option maxHeartbeats 4000000 in
theorem toNumber_true_even_neg (p : Option Addr) (n k : Nat) (ms : List Int) (e : Int) (w : World) (hi : Lib.BytesIn w p n ms) (hx : ms.length = n) (hn : 1 ≤ n) (hn1 : n ≤ 19) (hd : ∀ x ∈ ms, IsDigit x) (he0 : -100 ≤ e) (he1 : e ≤ 100) (hev : e % 2 = 0) (hs : e < 0) :
    Calls Tryd.prog 90 #[.slice p n k, .bool true, .int .i64 e] w (NumPost ms true e w) := by
  have i0 : ((n : Nat) : Int) ≤ 19 := by omega
  have i1 : (1 : Int) ≤ (n : Int) := by omega
  have HEV := Lib.hid hev
  have j0 : (e.tmod 2 == 0) = true := by
    rw [tmod2_neg e hs]
    simp
    omega
  clear hev
  obtain ⟨v1, w1, hrun1, hov1, hgr1, hnil1⟩ := run_append_bytes (w.alloc (.cells #[.int .u8 48] 5)) w.heap.size _ 1 [48] (by exact own_new w [48] _ (by simp [maxLen])) p n k ms (bin_alloc hi _) hx (by omega) (by simp)
  have HK1 := Lib.hid (((Kp.refl w).alloc _).grown hgr1 (fun k' hk' => own_ge (own_new w [48] 5 (by simp [maxLen])) k' hk'))
  obtain ⟨g1, d1, rfl, hnd1, hdm1, hin1⟩ := own_pos hov1 (by omega)
  have H1 := Lib.hid hrun1
  have HL := Lib.hid hin1
  have HLL := Lib.hid (show ([48] ++ ms).length = 1 + n by simp [hx]; omega)
  have HLD := Lib.hid (show ∀ x ∈ [48] ++ ms, IsDigit x from fun x hx' => by
    rcases List.mem_append.1 hx' with h | h
    · simp at h; subst h; unfold IsDigit; omega
    · exact hd x h)
  have HEL := Lib.hid (show evenL e ms = [48] ++ ms by unfold evenL; rw [if_pos HEV.out]; rfl)
  generalize [48] ++ ms = l at *
  generalize hm : 1 + n = m at *
  have im : 1 + (n : Int) = (m : Int) := by omega
  have hm0 : 2 ≤ m := by omega
  have hm2 : m ≤ 20 := by omega
  clear hrun1 hov1 hgr1 hnil1 hi hx hd hm hin1
  have HEV2 := HEV
  obtain ⟨K, hK⟩ : ∃ K, K = (m + 1) / 2 := ⟨_, rfl⟩
  have hK2 : 2 * K = m ∨ 2 * K = m + 1 := by omega
  obtain ⟨S, hS⟩ : ∃ S, S = 1 + K + 1 := ⟨_, rfl⟩
  have s0 : 1 + ((m : Int) + 1) / 2 + 1 = (S : Int) := by omega
  have hmk := run_make_bytes .i64 .i64 S S (Nat.le_refl _) (by omega)
  obtain ⟨bs, hbs⟩ : ∃ bs, bs = (prs l).map (enc true) := ⟨_, rfl⟩
  have HBS := Lib.hid hbs
  have HBL := Lib.hid (show bs.length = K by rw [hbs, List.length_map, prs_length, HLL.out, hK])
  have HB := Lib.hid (show ∀ j, j < K → bs.getD j 0 = enc true (10 * (l.getD (2 * j) 0 - 48) + (if 2 * j + 1 < m then l.getD (2 * j + 1) 0 - 48 else 0)) from fun j hj => by
    have hlen : j < (prs l).length := by rw [prs_length, HLL.out]; omega
    have h := prs_at l j (by rw [HLL.out]; omega)
    rw [HLL.out] at h
    rw [hbs, ← h]
    simp [List.getD, hlen])
  have HS := Lib.hid hS
  have HK := Lib.hid hK
  have hS0 : 2 ≤ S := by omega
  have hS1 : S ≤ 20 := by omega
  have hSK : K + 1 ≤ S := by omega
  have jm : ((m : Int) == 0) = false := by simp; omega
  have jm21 : decide ((m : Int) < 21) = true := by simp; omega
  clear hbs hK hS
  go_enter Tryd.func90, Tryd.ntmps90
  go_wp2_with (at_builtin; refine Lib.wpList_append_run _ rfl _ _ _ _ rfl _ _ rfl rfl _ _ H1.out ?_)
  go_loopg [10] K (fun g i wr => ∃ j : Nat, j ≤ K ∧ g = K - j ∧ i = .int .i64 (2 * (j : Int)) ∧ wr.ownsRow w1.heap.size 5 1 (.slice (some ⟨w1.heap.size, 0, none⟩) S S) S ((setAll (List.replicate S (0 : Int)) 1 (bs.take j)).map (Value.int .u8)) ∧ Kp w1 wr)
  case atStart => exact ⟨0, Nat.zero_le _, rfl, rfl, own_repl w1 S _ (by unfold maxLen; omega), (Kp.refl w1).alloc _⟩
  case round =>
    obtain ⟨j, hj, rfl, rfl, hown, hkr⟩ := hrel
    have HO := Lib.hid hown
    have HKR := Lib.hid hkr
    clear hown hkr
    by_cases hlt : j < K
    · have i2 : 2 * (j : Int) < (m : Int) := by omega
      have ca : wr.cell? ⟨g1, 2 * j, none⟩ = some (.int .u8 (l.getD (2 * j) 0)) := by
        have h := bin_at (bin_kp HL.out HKR.out) (2 * j) (by omega)
        rw [Nat.zero_add] at h; exact h
      have ba := getD_digit HLD.out (2 * j) (by rw [HLL.out]; omega)
      have e1 : (2 * (j : Int)).toNat = 2 * j := by omega
      have e3 : (1 + (j : Int)).toNat = 1 + j := by omega
      have e4 : 2 * (j : Int) / 2 = j := by omega
      have so := own_cell HO.out (1 + j) (by omega)
      have zo := HO.out.frozenAt (1 + j)
      have HTK := Lib.hid (take_snoc' bs j (by rw [HBL.out]; omega))
      have HTL := Lib.hid (show (bs.take j).length = j by rw [List.length_take, HBL.out]; omega)
      have HEN0 := Lib.hid (HB.out j hlt)
      by_cases h2 : 2 * j + 1 < m
      · have i3 : 2 * (j : Int) < (m : Int) - 1 := by omega
        have i4 : 2 * (j : Int) + 1 < (m : Int) := by omega
        have cb : wr.cell? ⟨g1, (2 * j + 1), none⟩ = some (.int .u8 (l.getD (2 * j + 1) 0)) := by
          have h := bin_at (bin_kp HL.out HKR.out) (2 * j + 1) (by omega)
          rw [Nat.zero_add] at h; exact h
        have bb := getD_digit HLD.out (2 * j + 1) (by rw [HLL.out]; omega)
        have e2 : (2 * (j : Int) + 1).toNat = 2 * j + 1 := by omega
        have HEN := Lib.hid (show bs.getD j 0 = enc true (10 * (l.getD (2 * j) 0 - 48) + (l.getD (2 * j + 1) 0 - 48)) by rw [HEN0.out, if_pos h2])
        generalize l.getD (2 * j) 0 = x at *
        generalize l.getD (2 * j + 1) 0 = y at *
        clear HEN0
        go_wp2
        go_roundg (K - (j + 1))
        case measure => omega
        case rel =>
          have hs := (own_store HO.out (1 + j) (100 - (10 * (x - 48) + (y - 48)) + 1)).1
          have hq := HEN.out
          have ht := HTK.out
          have hv : (100 - (10 * (x - 48) + (y - 48)) + 1 : Int) = bs.getD j 0 := by rw [hq]; unfold enc; simp only [if_true]; omega
          first | refine ⟨j + 1, by omega, rfl, by congr 1, ?_, HKR.out.set (Nat.le_refl _) _⟩ | ((repeat apply Exists.intro); refine ⟨⟨j + 1, by omega, rfl, by congr 1, ?_, HKR.out.set (Nat.le_refl _) _⟩, rfl⟩)
          rw [ht, setAll_snoc, HTL.out, ← hv]
          exact hs
      · have i3 : ¬ 2 * (j : Int) < (m : Int) - 1 := by omega
        have HEN := Lib.hid (show bs.getD j 0 = enc true (10 * (l.getD (2 * j) 0 - 48)) by rw [HEN0.out, if_neg h2, Int.add_zero])
        generalize l.getD (2 * j) 0 = x at *
        clear HEN0
        go_wp2
        go_roundg (K - (j + 1))
        case measure => omega
        case rel =>
          have hs := (own_store HO.out (1 + j) (100 - 10 * (x - 48) + 1)).1
          have hq := HEN.out
          have ht := HTK.out
          have hv : (100 - 10 * (x - 48) + 1 : Int) = bs.getD j 0 := by rw [hq]; unfold enc; simp only [if_true]; omega
          first | refine ⟨j + 1, by omega, rfl, by congr 1, ?_, HKR.out.set (Nat.le_refl _) _⟩ | ((repeat apply Exists.intro); refine ⟨⟨j + 1, by omega, rfl, by congr 1, ?_, HKR.out.set (Nat.le_refl _) _⟩, rfl⟩)
          rw [ht, setAll_snoc, HTL.out, ← hv]
          exact hs
    · obtain rfl : j = K := by omega
      have i2 : ¬ 2 * (j : Int) < (m : Int) := by omega
      have hfull := HO.out
      rw [List.take_of_length_le (by rw [HBL.out]; exact Nat.le_refl _)] at hfull
      have HF := Lib.hid hfull
      clear hfull
      have so := own_cell HF.out 0 (by omega)
      have zo := HF.out.frozenAt 0
      have sl := own_cell HF.out (S - 1) (by omega)
      have zl := HF.out.frozenAt (S - 1)
      have el : ((S : Int) - 1).toNat = S - 1 := by omega
      have el2 : S - 1 ≠ 0 := by omega
      have eq := tdiv2_neg e hs
      have q0 : -50 ≤ e / 2 := by omega
      have q1 : e / 2 ≤ 50 := by omega
      have hbit := xor127 (e / 2 + 1 + 64) (by omega) (by omega)
      go_wp2
      go_ret
      refine ⟨_, rfl, ?_, HK1.out.trans ((HKR.out.set (Nat.le_refl _) _).set (Nat.le_refl _) _)⟩
      have h := (own_store (own_store HF.out (S - 1) 102).1 0 (127 - (e / 2 + 1 + 64))).1
      have hc := num_close true l (127 - (e / 2 + 1 + 64))
      simp only [if_true] at hc
      rw [HLL.out, ← HBS.out, ← HK.out, ← HS.out, show 1 + j = S - 1 by rw [HS.out]; omega] at hc
      have e1 : numL ms true e = (127 - (e / 2 + 1 + 64)) :: tailL true l := by unfold numL; rw [HEL.out]; rfl
      rw [e1, ← hc, show (((setAll (List.replicate S (0 : Int)) 1 bs).set (S - 1) 102).set 0 (127 - (e / 2 + 1 + 64))).length = S by simp [setAll_length]]
      exact own_base h HK1.out.size

set_option maxRecDepth 100000 in
set_option maxHeartbeats 4000000 in
theorem toNumber_true_odd_pos (p : Option Addr) (n k : Nat) (ms : List Int) (e : Int) (w : World) (hi : Lib.BytesIn w p n ms) (hx : ms.length = n) (hn : 1 ≤ n) (hn1 : n ≤ 19) (hd : ∀ x ∈ ms, IsDigit x) (he0 : -100 ≤ e) (he1 : e ≤ 100) (hev : e % 2 ≠ 0) (hs : 0 ≤ e) :
    Calls Tryd.prog 90 #[.slice p n k, .bool true, .int .i64 e] w (NumPost ms true e w) := by
  have i0 : ((n : Nat) : Int) ≤ 19 := by omega
  have i1 : (1 : Int) ≤ (n : Int) := by omega
  have HEV := Lib.hid hev
  have j0 : (e % 2 == 0) = false := by
    skip
    simp
    omega
  clear hev
  have HEL := Lib.hid (show evenL e ms = ms by unfold evenL; rw [if_neg HEV.out])
  obtain ⟨b, o, rfl, hcell⟩ := hi (by omega)
  have HL := Lib.hid (show Lib.BytesIn w (some ⟨b, o, none⟩) n ms from hi)
  have HLL := Lib.hid hx
  have HLD := Lib.hid hd
  obtain ⟨w1, hw1⟩ : ∃ w1, w1 = w := ⟨_, rfl⟩
  subst hw1
  have HK1 := Lib.hid (Kp.refl w1)
  obtain ⟨l, hl⟩ : ∃ l, l = ms := ⟨_, rfl⟩
  obtain ⟨m, hm⟩ : ∃ m, m = n := ⟨_, rfl⟩
  subst hl hm
  have hm0 : 1 ≤ m := hn
  have hm2 : m ≤ 20 := by omega
  clear hi hx hd hcell
  have HEV2 := HEV
  obtain ⟨K, hK⟩ : ∃ K, K = (m + 1) / 2 := ⟨_, rfl⟩
  have hK2 : 2 * K = m ∨ 2 * K = m + 1 := by omega
  obtain ⟨S, hS⟩ : ∃ S, S = 1 + K + 1 := ⟨_, rfl⟩
  have s0 : 1 + ((m : Int) + 1) / 2 + 1 = (S : Int) := by omega
  have hmk := run_make_bytes .i64 .i64 S S (Nat.le_refl _) (by omega)
  obtain ⟨bs, hbs⟩ : ∃ bs, bs = (prs l).map (enc true) := ⟨_, rfl⟩
  have HBS := Lib.hid hbs
  have HBL := Lib.hid (show bs.length = K by rw [hbs, List.length_map, prs_length, HLL.out, hK])
  have HB := Lib.hid (show ∀ j, j < K → bs.getD j 0 = enc true (10 * (l.getD (2 * j) 0 - 48) + (if 2 * j + 1 < m then l.getD (2 * j + 1) 0 - 48 else 0)) from fun j hj => by
    have hlen : j < (prs l).length := by rw [prs_length, HLL.out]; omega
    have h := prs_at l j (by rw [HLL.out]; omega)
    rw [HLL.out] at h
    rw [hbs, ← h]
    simp [List.getD, hlen])
  have HS := Lib.hid hS
  have HK := Lib.hid hK
  have hS0 : 2 ≤ S := by omega
  have hS1 : S ≤ 20 := by omega
  have hSK : K + 1 ≤ S := by omega
  have jm : ((m : Int) == 0) = false := by simp; omega
  have jm21 : decide ((m : Int) < 21) = true := by simp; omega
  clear hbs hK hS
  go_enter Tryd.func90, Tryd.ntmps90
  go_wp2_with fail
  go_loopg [10] K (fun g i wr => ∃ j : Nat, j ≤ K ∧ g = K - j ∧ i = .int .i64 (2 * (j : Int)) ∧ wr.ownsRow w1.heap.size 5 1 (.slice (some ⟨w1.heap.size, 0, none⟩) S S) S ((setAll (List.replicate S (0 : Int)) 1 (bs.take j)).map (Value.int .u8)) ∧ Kp w1 wr)
  case atStart => exact ⟨0, Nat.zero_le _, rfl, rfl, own_repl w1 S _ (by unfold maxLen; omega), (Kp.refl w1).alloc _⟩
  case round =>
    obtain ⟨j, hj, rfl, rfl, hown, hkr⟩ := hrel
    have HO := Lib.hid hown
    have HKR := Lib.hid hkr
    clear hown hkr
    by_cases hlt : j < K
    · have i2 : 2 * (j : Int) < (m : Int) := by omega
      have ca : wr.cell? ⟨b, o + 2 * j, none⟩ = some (.int .u8 (l.getD (2 * j) 0)) := by
        have h := bin_at (bin_kp HL.out HKR.out) (2 * j) (by omega)
        exact h
      have ba := getD_digit HLD.out (2 * j) (by rw [HLL.out]; omega)
      have e1 : (2 * (j : Int)).toNat = 2 * j := by omega
      have e3 : (1 + (j : Int)).toNat = 1 + j := by omega
      have e4 : 2 * (j : Int) / 2 = j := by omega
      have so := own_cell HO.out (1 + j) (by omega)
      have zo := HO.out.frozenAt (1 + j)
      have HTK := Lib.hid (take_snoc' bs j (by rw [HBL.out]; omega))
      have HTL := Lib.hid (show (bs.take j).length = j by rw [List.length_take, HBL.out]; omega)
      have HEN0 := Lib.hid (HB.out j hlt)
      by_cases h2 : 2 * j + 1 < m
      · have i3 : 2 * (j : Int) < (m : Int) - 1 := by omega
        have i4 : 2 * (j : Int) + 1 < (m : Int) := by omega
        have cb : wr.cell? ⟨b, o + (2 * j + 1), none⟩ = some (.int .u8 (l.getD (2 * j + 1) 0)) := by
          have h := bin_at (bin_kp HL.out HKR.out) (2 * j + 1) (by omega)
          exact h
        have bb := getD_digit HLD.out (2 * j + 1) (by rw [HLL.out]; omega)
        have e2 : (2 * (j : Int) + 1).toNat = 2 * j + 1 := by omega
        have HEN := Lib.hid (show bs.getD j 0 = enc true (10 * (l.getD (2 * j) 0 - 48) + (l.getD (2 * j + 1) 0 - 48)) by rw [HEN0.out, if_pos h2])
        generalize l.getD (2 * j) 0 = x at *
        generalize l.getD (2 * j + 1) 0 = y at *
        clear HEN0
        go_wp2
        go_roundg (K - (j + 1))
        case measure => omega
        case rel =>
          have hs := (own_store HO.out (1 + j) (100 - (10 * (x - 48) + (y - 48)) + 1)).1
          have hq := HEN.out
          have ht := HTK.out
          have hv : (100 - (10 * (x - 48) + (y - 48)) + 1 : Int) = bs.getD j 0 := by rw [hq]; unfold enc; simp only [if_true]; omega
          first | refine ⟨j + 1, by omega, rfl, by congr 1, ?_, HKR.out.set (Nat.le_refl _) _⟩ | ((repeat apply Exists.intro); refine ⟨⟨j + 1, by omega, rfl, by congr 1, ?_, HKR.out.set (Nat.le_refl _) _⟩, rfl⟩)
          rw [ht, setAll_snoc, HTL.out, ← hv]
          exact hs
      · have i3 : ¬ 2 * (j : Int) < (m : Int) - 1 := by omega
        have HEN := Lib.hid (show bs.getD j 0 = enc true (10 * (l.getD (2 * j) 0 - 48)) by rw [HEN0.out, if_neg h2, Int.add_zero])
        generalize l.getD (2 * j) 0 = x at *
        clear HEN0
        go_wp2
        go_roundg (K - (j + 1))
        case measure => omega
        case rel =>
          have hs := (own_store HO.out (1 + j) (100 - 10 * (x - 48) + 1)).1
          have hq := HEN.out
          have ht := HTK.out
          have hv : (100 - 10 * (x - 48) + 1 : Int) = bs.getD j 0 := by rw [hq]; unfold enc; simp only [if_true]; omega
          first | refine ⟨j + 1, by omega, rfl, by congr 1, ?_, HKR.out.set (Nat.le_refl _) _⟩ | ((repeat apply Exists.intro); refine ⟨⟨j + 1, by omega, rfl, by congr 1, ?_, HKR.out.set (Nat.le_refl _) _⟩, rfl⟩)
          rw [ht, setAll_snoc, HTL.out, ← hv]
          exact hs
    · obtain rfl : j = K := by omega
      have i2 : ¬ 2 * (j : Int) < (m : Int) := by omega
      have hfull := HO.out
      rw [List.take_of_length_le (by rw [HBL.out]; exact Nat.le_refl _)] at hfull
      have HF := Lib.hid hfull
      clear hfull
      have so := own_cell HF.out 0 (by omega)
      have zo := HF.out.frozenAt 0
      have sl := own_cell HF.out (S - 1) (by omega)
      have zl := HF.out.frozenAt (S - 1)
      have el : ((S : Int) - 1).toNat = S - 1 := by omega
      have el2 : S - 1 ≠ 0 := by omega
      
      have q0 : -50 ≤ e / 2 := by omega
      have q1 : e / 2 ≤ 50 := by omega
      have hbit := xor127 (e / 2 + 1 + 64) (by omega) (by omega)
      go_wp2
      go_ret
      refine ⟨_, rfl, ?_, HK1.out.trans ((HKR.out.set (Nat.le_refl _) _).set (Nat.le_refl _) _)⟩
      have h := (own_store (own_store HF.out (S - 1) 102).1 0 (127 - (e / 2 + 1 + 64))).1
      have hc := num_close true l (127 - (e / 2 + 1 + 64))
      simp only [if_true] at hc
      rw [HLL.out, ← HBS.out, ← HK.out, ← HS.out, show 1 + j = S - 1 by rw [HS.out]; omega] at hc
      have e1 : numL l true e = (127 - (e / 2 + 1 + 64)) :: tailL true l := by unfold numL; rw [HEL.out]; rfl
      rw [e1, ← hc, show (((setAll (List.replicate S (0 : Int)) 1 bs).set (S - 1) 102).set 0 (127 - (e / 2 + 1 + 64))).length = S by simp [setAll_length]]
      exact own_base h HK1.out.size

set_option maxRecDepth 100000 in
set_option maxHeartbeats 4000000 in
theorem toNumber_true_odd_neg (p : Option Addr) (n k : Nat) (ms : List Int) (e : Int) (w : World) (hi : Lib.BytesIn w p n ms) (hx : ms.length = n) (hn : 1 ≤ n) (hn1 : n ≤ 19) (hd : ∀ x ∈ ms, IsDigit x) (he0 : -100 ≤ e) (he1 : e ≤ 100) (hev : e % 2 ≠ 0) (hs : e < 0) :
    Calls Tryd.prog 90 #[.slice p n k, .bool true, .int .i64 e] w (NumPost ms true e w) := by
  have i0 : ((n : Nat) : Int) ≤ 19 := by omega
  have i1 : (1 : Int) ≤ (n : Int) := by omega
  have HEV := Lib.hid hev
  have j0 : (e.tmod 2 == 0) = false := by
    rw [tmod2_neg e hs]
    simp
    omega
  clear hev
  have HEL := Lib.hid (show evenL e ms = ms by unfold evenL; rw [if_neg HEV.out])
  obtain ⟨b, o, rfl, hcell⟩ := hi (by omega)
  have HL := Lib.hid (show Lib.BytesIn w (some ⟨b, o, none⟩) n ms from hi)
  have HLL := Lib.hid hx
  have HLD := Lib.hid hd
  obtain ⟨w1, hw1⟩ : ∃ w1, w1 = w := ⟨_, rfl⟩
  subst hw1
  have HK1 := Lib.hid (Kp.refl w1)
  obtain ⟨l, hl⟩ : ∃ l, l = ms := ⟨_, rfl⟩
  obtain ⟨m, hm⟩ : ∃ m, m = n := ⟨_, rfl⟩
  subst hl hm
  have hm0 : 1 ≤ m := hn
  have hm2 : m ≤ 20 := by omega
  clear hi hx hd hcell
  have HEV2 := HEV
  obtain ⟨K, hK⟩ : ∃ K, K = (m + 1) / 2 := ⟨_, rfl⟩
  have hK2 : 2 * K = m ∨ 2 * K = m + 1 := by omega
  obtain ⟨S, hS⟩ : ∃ S, S = 1 + K + 1 := ⟨_, rfl⟩
  have s0 : 1 + ((m : Int) + 1) / 2 + 1 = (S : Int) := by omega
  have hmk := run_make_bytes .i64 .i64 S S (Nat.le_refl _) (by omega)
  obtain ⟨bs, hbs⟩ : ∃ bs, bs = (prs l).map (enc true) := ⟨_, rfl⟩
  have HBS := Lib.hid hbs
  have HBL := Lib.hid (show bs.length = K by rw [hbs, List.length_map, prs_length, HLL.out, hK])
  have HB := Lib.hid (show ∀ j, j < K → bs.getD j 0 = enc true (10 * (l.getD (2 * j) 0 - 48) + (if 2 * j + 1 < m then l.getD (2 * j + 1) 0 - 48 else 0)) from fun j hj => by
    have hlen : j < (prs l).length := by rw [prs_length, HLL.out]; omega
    have h := prs_at l j (by rw [HLL.out]; omega)
    rw [HLL.out] at h
    rw [hbs, ← h]
    simp [List.getD, hlen])
  have HS := Lib.hid hS
  have HK := Lib.hid hK
  have hS0 : 2 ≤ S := by omega
  have hS1 : S ≤ 20 := by omega
  have hSK : K + 1 ≤ S := by omega
  have jm : ((m : Int) == 0) = false := by simp; omega
  have jm21 : decide ((m : Int) < 21) = true := by simp; omega
  clear hbs hK hS
  go_enter Tryd.func90, Tryd.ntmps90
  go_wp2_with fail
  go_loopg [10] K (fun g i wr => ∃ j : Nat, j ≤ K ∧ g = K - j ∧ i = .int .i64 (2 * (j : Int)) ∧ wr.ownsRow w1.heap.size 5 1 (.slice (some ⟨w1.heap.size, 0, none⟩) S S) S ((setAll (List.replicate S (0 : Int)) 1 (bs.take j)).map (Value.int .u8)) ∧ Kp w1 wr)
  case atStart => exact ⟨0, Nat.zero_le _, rfl, rfl, own_repl w1 S _ (by unfold maxLen; omega), (Kp.refl w1).alloc _⟩
  case round =>
    obtain ⟨j, hj, rfl, rfl, hown, hkr⟩ := hrel
    have HO := Lib.hid hown
    have HKR := Lib.hid hkr
    clear hown hkr
    by_cases hlt : j < K
    · have i2 : 2 * (j : Int) < (m : Int) := by omega
      have ca : wr.cell? ⟨b, o + 2 * j, none⟩ = some (.int .u8 (l.getD (2 * j) 0)) := by
        have h := bin_at (bin_kp HL.out HKR.out) (2 * j) (by omega)
        exact h
      have ba := getD_digit HLD.out (2 * j) (by rw [HLL.out]; omega)
      have e1 : (2 * (j : Int)).toNat = 2 * j := by omega
      have e3 : (1 + (j : Int)).toNat = 1 + j := by omega
      have e4 : 2 * (j : Int) / 2 = j := by omega
      have so := own_cell HO.out (1 + j) (by omega)
      have zo := HO.out.frozenAt (1 + j)
      have HTK := Lib.hid (take_snoc' bs j (by rw [HBL.out]; omega))
      have HTL := Lib.hid (show (bs.take j).length = j by rw [List.length_take, HBL.out]; omega)
      have HEN0 := Lib.hid (HB.out j hlt)
      by_cases h2 : 2 * j + 1 < m
      · have i3 : 2 * (j : Int) < (m : Int) - 1 := by omega
        have i4 : 2 * (j : Int) + 1 < (m : Int) := by omega
        have cb : wr.cell? ⟨b, o + (2 * j + 1), none⟩ = some (.int .u8 (l.getD (2 * j + 1) 0)) := by
          have h := bin_at (bin_kp HL.out HKR.out) (2 * j + 1) (by omega)
          exact h
        have bb := getD_digit HLD.out (2 * j + 1) (by rw [HLL.out]; omega)
        have e2 : (2 * (j : Int) + 1).toNat = 2 * j + 1 := by omega
        have HEN := Lib.hid (show bs.getD j 0 = enc true (10 * (l.getD (2 * j) 0 - 48) + (l.getD (2 * j + 1) 0 - 48)) by rw [HEN0.out, if_pos h2])
        generalize l.getD (2 * j) 0 = x at *
        generalize l.getD (2 * j + 1) 0 = y at *
        clear HEN0
        go_wp2
        go_roundg (K - (j + 1))
        case measure => omega
        case rel =>
          have hs := (own_store HO.out (1 + j) (100 - (10 * (x - 48) + (y - 48)) + 1)).1
          have hq := HEN.out
          have ht := HTK.out
          have hv : (100 - (10 * (x - 48) + (y - 48)) + 1 : Int) = bs.getD j 0 := by rw [hq]; unfold enc; simp only [if_true]; omega
          first | refine ⟨j + 1, by omega, rfl, by congr 1, ?_, HKR.out.set (Nat.le_refl _) _⟩ | ((repeat apply Exists.intro); refine ⟨⟨j + 1, by omega, rfl, by congr 1, ?_, HKR.out.set (Nat.le_refl _) _⟩, rfl⟩)
          rw [ht, setAll_snoc, HTL.out, ← hv]
          exact hs
      · have i3 : ¬ 2 * (j : Int) < (m : Int) - 1 := by omega
        have HEN := Lib.hid (show bs.getD j 0 = enc true (10 * (l.getD (2 * j) 0 - 48)) by rw [HEN0.out, if_neg h2, Int.add_zero])
        generalize l.getD (2 * j) 0 = x at *
        clear HEN0
        go_wp2
        go_roundg (K - (j + 1))
        case measure => omega
        case rel =>
          have hs := (own_store HO.out (1 + j) (100 - 10 * (x - 48) + 1)).1
          have hq := HEN.out
          have ht := HTK.out
          have hv : (100 - 10 * (x - 48) + 1 : Int) = bs.getD j 0 := by rw [hq]; unfold enc; simp only [if_true]; omega
          first | refine ⟨j + 1, by omega, rfl, by congr 1, ?_, HKR.out.set (Nat.le_refl _) _⟩ | ((repeat apply Exists.intro); refine ⟨⟨j + 1, by omega, rfl, by congr 1, ?_, HKR.out.set (Nat.le_refl _) _⟩, rfl⟩)
          rw [ht, setAll_snoc, HTL.out, ← hv]
          exact hs
    · obtain rfl : j = K := by omega
      have i2 : ¬ 2 * (j : Int) < (m : Int) := by omega
      have hfull := HO.out
      rw [List.take_of_length_le (by rw [HBL.out]; exact Nat.le_refl _)] at hfull
      have HF := Lib.hid hfull
      clear hfull
      have so := own_cell HF.out 0 (by omega)
      have zo := HF.out.frozenAt 0
      have sl := own_cell HF.out (S - 1) (by omega)
      have zl := HF.out.frozenAt (S - 1)
      have el : ((S : Int) - 1).toNat = S - 1 := by omega
      have el2 : S - 1 ≠ 0 := by omega
      have eq := tdiv2_neg e hs
      have q0 : -50 ≤ e / 2 := by omega
      have q1 : e / 2 ≤ 50 := by omega
      have hbit := xor127 (e / 2 + 1 + 64) (by omega) (by omega)
      go_wp2
      go_ret
      refine ⟨_, rfl, ?_, HK1.out.trans ((HKR.out.set (Nat.le_refl _) _).set (Nat.le_refl _) _)⟩
      have h := (own_store (own_store HF.out (S - 1) 102).1 0 (127 - (e / 2 + 1 + 64))).1
      have hc := num_close true l (127 - (e / 2 + 1 + 64))
      simp only [if_true] at hc
      rw [HLL.out, ← HBS.out, ← HK.out, ← HS.out, show 1 + j = S - 1 by rw [HS.out]; omega] at hc
      have e1 : numL l true e = (127 - (e / 2 + 1 + 64)) :: tailL true l := by unfold numL; rw [HEL.out]; rfl
      rw [e1, ← hc, show (((setAll (List.replicate S (0 : Int)) 1 bs).set (S - 1) 102).set 0 (127 - (e / 2 + 1 + 64))).length = S by simp [setAll_length]]
      exact own_base h HK1.out.size

/-- What ToNumber makes of one to nineteen digits. -/
theorem toNumber_any (p : Option Addr) (n k : Nat) (ms : List Int) (neg : Bool) (e : Int) (w : World) (hi : Lib.BytesIn w p n ms) (hx : ms.length = n) (hn : 1 ≤ n) (hn1 : n ≤ 19) (hd : ∀ x ∈ ms, IsDigit x) (he0 : -100 ≤ e) (he1 : e ≤ 100) :
    Calls Tryd.prog 90 #[.slice p n k, .bool neg, .int .i64 e] w (NumPost ms neg e w) := by
  by_cases hev : e % 2 = 0
  all_goals by_cases hs : e < 0
  all_goals cases neg
  · exact toNumber_false_even_neg p n k ms e w hi hx hn hn1 hd he0 he1 hev hs
  · exact toNumber_true_even_neg p n k ms e w hi hx hn hn1 hd he0 he1 hev hs
  · exact toNumber_false_even_pos p n k ms e w hi hx hn hn1 hd he0 he1 hev (by omega)
  · exact toNumber_true_even_pos p n k ms e w hi hx hn hn1 hd he0 he1 hev (by omega)
  · exact toNumber_false_odd_neg p n k ms e w hi hx hn hn1 hd he0 he1 hev hs
  · exact toNumber_true_odd_neg p n k ms e w hi hx hn hn1 hd he0 he1 hev hs
  · exact toNumber_false_odd_pos p n k ms e w hi hx hn hn1 hd he0 he1 hev (by omega)
  · exact toNumber_true_odd_pos p n k ms e w hi hx hn hn1 hd he0 he1 hev (by omega)

end Go.Proofs.YtcdbnjhkjfimkaaDoor
