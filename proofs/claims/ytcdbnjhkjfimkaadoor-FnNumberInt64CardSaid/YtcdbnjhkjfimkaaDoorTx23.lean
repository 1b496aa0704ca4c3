/-
  DecodeInt and impl.NumberInt of an integer's bytes.
-/
import Derived.Test.YtcdbnjhkjfimkaaDoorTx22
import Derived.Test.YtcdbnjhkjfimkaaDoorNum3
namespace Go.Proofs.YtcdbnjhkjfimkaaDoor
open Go Go.RowKit

theorem pval_cast : ∀ (l : List Int) (a : Nat), (∀ x ∈ l, 0 ≤ x) → (((l.map Int.toNat).foldl (fun a x => a * 100 + x) a : Nat) : Int) = l.foldl (fun a x => a * 100 + x) (a : Int)
  | [], a, _ => rfl
  | x :: l, a, h => by
    have hx := h x (by simp)
    rw [List.map_cons, List.foldl_cons, List.foldl_cons, pval_cast l _ (fun y hy => h y (by simp [hy]))]
    congr 1
    omega
theorem pval_pvI (l : List Int) (h : ∀ x ∈ l, 0 ≤ x) : ((pval (l.map Int.toNat) : Nat) : Int) = pvI l := pval_cast l 0 h
theorem packL_numB (neg : Bool) (P : Nat) (pv : List Int) (h : ∀ x ∈ pv, 0 ≤ x ∧ x ≤ 99) (hl : pv.length < 20) : packL neg ((P : Int) + 65) (pv.map Int.toNat) = numB neg (P : Int) pv := by
  have e : ((pv.map Int.toNat).map fun (x : Nat) => enc neg (x : Int)) = pv.map (enc neg) := by
    rw [List.map_map]
    exact List.map_congr_left fun x hx => by
      have := (h x hx).1
      show enc neg ((x.toNat : Nat) : Int) = enc neg x
      rw [Int.toNat_of_nonneg this]
  unfold packL numB
  rw [e]
  cases neg
  · simp; omega
  · simp [hl]; omega
set_option maxRecDepth 100000 in
set_option maxHeartbeats 2000000 in
theorem decode_of (p : Value) (V E N : Nat) (neg : Bool) (k n : Int) (w : World) (hE : E ≤ 20) (hV : V * 10 ^ E = N) (hN : N ≤ 9223372036854775808) (hb : neg = false → N ≤ 9223372036854775807) (hn : n = if neg then -(N : Int) else (N : Int))
    (h : Calls Tryd.prog 92 #[p] w fun e w' => e = .returned (.tuple #[.int .u64 (V : Int), .bool neg, .int .i64 (E : Int), .int .i64 k, .nilIface]) ∧ w = w') :
    Calls Tryd.prog 62 #[p] w fun e w' => e = .returned (.int .i64 n) ∧ w = w' := by
  have C := Lib.hid h
  have HV := Lib.hid hV
  have HN := Lib.hid hN
  have HB := Lib.hid hb
  have HNN := Lib.hid hn
  have e0 : (0 : Int) ≤ (E : Int) := by omega
  have e1 : (E : Int) ≤ 20 := by omega
  clear h hV hN hb hn hE
  go_enter Tryd.func62, Tryd.ntmps62
  go_wp2_with fail
  refine C.out.mono ?_
  rintro e w1 ⟨rfl, rfl⟩
  clear C
  go_wp2_with fail
  go_loopg [3, 5] E (fun G s3 s5 wr => ∃ i : Nat, E - i = G ∧ i ≤ E ∧ s3 = .int .u64 ((V * 10 ^ i : Nat) : Int) ∧ s5 = .int .i64 ((E : Int) - (i : Int)) ∧ w = wr)
  case atStart => exact ⟨0, rfl, Nat.zero_le _, by simp, by simp, rfl⟩
  case round =>
    obtain ⟨i, rfl, hi, rfl, rfl, rfl⟩ := hrel
    obtain ⟨M, hM⟩ : ∃ M, M = V * 10 ^ i := ⟨_, rfl⟩
    rw [← hM]
    have i0 : (0 : Int) ≤ (i : Int) := by omega
    have i1 : (i : Int) ≤ (E : Int) := by omega
    by_cases hlt : i < E
    · obtain ⟨M2, hM2⟩ : ∃ M2, M2 = V * 10 ^ (i + 1) := ⟨_, rfl⟩
      have hle : M2 ≤ 9223372036854775808 := by
        rw [hM2]
        refine Nat.le_trans ?_ HN.out
        rw [← HV.out]
        exact Nat.mul_le_mul_left _ (Nat.pow_le_pow_right (by decide) hlt)
      have hmm : M * 10 = M2 := by rw [hM, hM2, Nat.pow_succ, Nat.mul_assoc]
      have q0 : (M : Int) * 10 = (M2 : Int) := by omega
      have q1 : (M : Int) ≤ 922337203685477580 := by omega
      have q2 : (0 : Int) ≤ (M : Int) := by omega
      have i2 : (i : Int) < (E : Int) := by omega
      have HLT := Lib.hid hlt
      have HM2 := Lib.hid hM2
      clear hi hlt hM hle hmm hM2
      go_wp2_with fail
      go_roundg (E - (i + 1))
      case measure => have := HLT.out; omega
      case rel => exact ⟨i + 1, rfl, HLT.out, by rw [← HM2.out, ← q0] <;> go_num, by go_num, rfl⟩
    · obtain rfl : i = E := by omega
      have hMN : M = N := by rw [hM]; exact HV.out
      subst hMN
      have m0 : (0 : Int) ≤ (M : Int) := by omega
      clear hi hlt hM i0 i1
      cases neg
      · have hb := HB.out rfl
        have m1 : (M : Int) ≤ 9223372036854775807 := by omega
        have ew : IntKind.i64.wrap (M : Int) = (M : Int) := wrapI_id _ (by omega) (by omega)
        clear hb
        go_wp2_with fail
        go_ret
        exact ⟨by rw [HNN.out]; rfl, rfl⟩
      · by_cases hM : M = 9223372036854775808
        · subst hM
          obtain rfl : n = -9223372036854775808 := by rw [HNN.out]; simp
          have hw : wrap64 9223372036854775808 = -9223372036854775808 := by decide +kernel
          go_wp2_with fail
          go_ret
          exact ⟨rfl, rfl⟩
        · have hb := HN.out
          have m1 : (M : Int) ≤ 9223372036854775807 := by omega
          have ew : IntKind.i64.wrap (M : Int) = (M : Int) := wrapI_id _ (by omega) (by omega)
          have ew2 : IntKind.i64.wrap (-(M : Int)) = -(M : Int) := wrapI_id _ (by omega) (by omega)
          have sh : (M : Int) / 9223372036854775808 = 0 := by omega
          clear hb hM
          go_wp2_with fail
          go_ret
          exact ⟨by rw [HNN.out]; rfl, rfl⟩
set_option maxRecDepth 100000 in
theorem fromNumber_zero (g c : Nat) (w : World) (h0 : w.cell? ⟨g, 0, none⟩ = some (.int .u8 128)) :
    Calls Tryd.prog 92 #[.slice (some ⟨g, 0, none⟩) 1 c] w fun e w' => e = .returned (.tuple #[.int .u64 0, .bool false, .int .i64 0, .int .i64 0, .nilIface]) ∧ w = w' := by
  go_enter Tryd.func92, Tryd.ntmps92
  go_wp2
  exact bodyPost_ret (v := .tuple #[.int .u64 0, .bool false, .int .i64 0, .int .i64 0, .nilIface]) (by simp [results, Tryd.results92, go_sem]) rfl ⟨rfl, rfl⟩
/-- Whatever bytes stand at a block are decoded as this number. -/
def DecIs (l : List Int) (n : Int) : Prop := ∀ (w : World) (g c : Nat), (∀ i, i < l.length → w.cell? ⟨g, i, none⟩ = some (.int .u8 (l.getD i 0))) → l.length ≤ c → c ≤ maxLen → Calls Tryd.prog 62 #[.slice (some ⟨g, 0, none⟩) l.length c] w fun e w' => e = .returned (.int .i64 n) ∧ w = w'
set_option maxHeartbeats 2000000 in
theorem dec_enc (n : Int) (l : List Int) (h0 : -9223372036854775808 ≤ n) (h1 : n ≤ 9223372036854775807) (h : EncL n l) : DecIs l n := by
  intro w g c hc hl hm
  by_cases hn : n = 0
  · subst hn
    have hl2 := tens_zero h
    subst hl2
    refine decode_of _ 0 0 0 false 0 0 w (by decide) (by decide) (by decide) (by decide) (by simp) ?_
    refine (fromNumber_zero g c w (hc 0 (by simp))).mono ?_
    rintro e w' ⟨rfl, rfl⟩
    exact ⟨rfl, rfl⟩
  · obtain ⟨P, K, q, pv, rfl, hp, hK, hq, hP, hV⟩ := enc_pairs n l h0 h1 hn h
    have hK1 := hp.2.1
    have hpc := pval_pvI pv (fun x hx => (hp.1 x hx).1)
    obtain ⟨V, hVV⟩ : ∃ V, V = pval (pv.map Int.toNat) := ⟨_, rfl⟩
    have hVN : V * 10 ^ (2 * q) = n.natAbs := by
      apply Int.natCast_inj.1
      rw [← hV, scI_pow, pow100I, ← hpc, ← hVV, Int.natCast_mul, Int.natCast_pow]
      rfl
    have hVb : V ≤ n.natAbs := by
      rw [← hVN]
      exact Nat.le_mul_of_pos_right _ (Nat.pow_pos (by decide))
    have hex : ((P : Int) + 65 - 64) * 2 - 2 * (K : Int) = ((2 * q : Nat) : Int) := by omega
    have hx99 : ∀ x ∈ pv.map Int.toNat, x ≤ 99 := fun x hx => by
      obtain ⟨y, hy, rfl⟩ := List.mem_map.1 hx
      have := hp.1 y hy
      omega
    have hpk := packL_numB (decide (n < 0)) P pv hp.1 (by omega)
    refine decode_of _ V (2 * q) n.natAbs (decide (n < 0)) (2 * (K : Int) + -1) n w (by omega) hVN (by omega) (fun hb => by have := of_decide_eq_false hb; omega) (by by_cases hneg : n < 0 <;> simp [hneg] <;> omega) ?_
    by_cases hneg : n < 0
    · rw [decide_eq_true hneg] at hc hl hpk ⊢
      have hn2 : (numB true (P : Int) pv).length = 1 + K + 1 := by rw [numB_neg _ _ (by omega), hK]; omega
      have hf := fromNumber_true g 0 _ c ((P : Int) + 65) (pv.map Int.toNat) K w (by rw [List.length_map, hK]) hn2 (by omega) (by omega) hx99 (by rw [← hVV]; omega) (by omega) (by omega) hl hm (fun i hi => by rw [hpk, Nat.zero_add]; exact hc i hi)
      refine hf.mono ?_
      rintro e w' ⟨rfl, rfl⟩
      exact ⟨by rw [hex, ← hVV], rfl⟩
    · rw [decide_eq_false hneg] at hc hl hpk ⊢
      have hn2 : (numB false (P : Int) pv).length = 1 + K := by rw [numB_pos, hK]
      have hf := fromNumber_false g 0 _ c ((P : Int) + 65) (pv.map Int.toNat) K w (by rw [List.length_map, hK]) hn2 (by omega) (by omega) hx99 (by rw [← hVV]; omega) (by omega) (by omega) hl hm (fun i hi => by rw [hpk, Nat.zero_add]; exact hc i hi)
      refine hf.mono ?_
      rintro e w' ⟨rfl, rfl⟩
      exact ⟨by rw [hex, ← hVV], rfl⟩
set_option maxRecDepth 100000 in
set_option maxHeartbeats 1000000 in
theorem numberInt_of (p : Option Addr) (n c : Nat) (l : List Int) (v : Int) (w : World) (h : Lib.BytesIn w p n l) (hl : l.length = n) (hn : 1 ≤ n) (hn2 : n ≤ 1000) (ht : DecIs l v) :
    Calls Tryd.prog 22 #[.slice p n c] w fun e w' => e = .returned (.int .i64 v) ∧ Kp w w' := by
  have C := Lib.hid (clone_any w p n c l h hl (by omega))
  have HT := Lib.hid ht
  have HL := Lib.hid (And.intro hl hn)
  clear h hl hn hn2 ht
  go_enter Tryd.func22, Tryd.ntmps22
  go_wp2_with fail
  refine C.out.mono ?_
  rintro e w1 ⟨q, d, rfl, hown, hk⟩
  obtain ⟨g, d2, hv, hd1, hdm, hin⟩ := own_pos hown HL.out.2
  injection hv with e1 e2 e3
  subst e1 e3
  have HK1 := Lib.hid (show Kp w w1 from hk)
  have hcc := bin_cells hin
  have CD := Lib.hid (show Calls Tryd.prog 62 #[.slice (some ⟨g, 0, none⟩) n d] w1 (fun e w' => e = .returned (.int .i64 v) ∧ w1 = w') from by
    have h := HT.out w1 g d (fun i hi => by
      have h := hcc i (by rw [← HL.out.1]; exact hi)
      rw [Nat.zero_add] at h
      exact h) (by rw [HL.out.1]; exact hd1) hdm
    rw [HL.out.1] at h
    exact h)
  clear hown hk hin hd1 hdm hcc C
  go_wp2_with fail
  refine CD.out.mono ?_
  rintro e w3 ⟨rfl, rfl⟩
  clear CD
  go_wp2_with fail
  go_ret
  exact ⟨rfl, HK1.out⟩
end Go.Proofs.YtcdbnjhkjfimkaaDoor
