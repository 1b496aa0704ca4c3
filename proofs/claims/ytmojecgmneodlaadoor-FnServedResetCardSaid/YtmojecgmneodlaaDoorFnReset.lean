/-
  FnServedReset: behind a reset the steps give what they give on the servers that there are, from the first one on.
-/
import Derived.Test.YtmojecgmneodlaaDoorSrv12
import Derived.IntWalk
namespace Go.Proofs.YtmojecgmneodlaaDoor
open Go Go.RowKit

/-- The state from a given one on. -/
def stFrom (t : SrvSt) (K : Nat → Int) (S : Nat → Srv) : Nat → SrvSt
  | 0 => t
  | j + 1 => (stFrom t K S j).step (K j) (S j)
theorem stAt_from (K K1 : Nat → Int) (S S1 : Nat → Srv) (p : Nat) : ∀ j, stAt (fun r => if r < p then K r else K1 (r - p)) (fun r => if r < p then S r else S1 (r - p)) (p + j) = stFrom (stAt K S p) K1 S1 j
  | 0 => by
    rw [stFrom, Nat.add_zero]
    have key : ∀ r, r ≤ p → stAt (fun r => if r < p then K r else K1 (r - p)) (fun r => if r < p then S r else S1 (r - p)) r = stAt K S r := fun r => by
      induction r with
      | zero => exact fun _ => rfl
      | succ r ih =>
        intro h
        rw [stAt, stAt, ih (by omega), if_pos (by omega), if_pos (by omega)]
    exact key p (Nat.le_refl _)
  | j + 1 => by
    rw [← Nat.add_assoc, stAt, stAt_from K K1 S S1 p j, stFrom, if_neg (by omega), if_neg (by omega), Nat.add_sub_cancel_left]
theorem stAt_apart (K : Nat → Int) (S : Nat → Srv) : ∀ n, Apart (stAt K S n).all
  | 0 => List.Pairwise.nil
  | n + 1 => by
    have h := stAt_apart K S n
    rw [stAt]
    unfold SrvSt.step
    split
    · exact h.add _
    · split
      · exact h
      · split <;> exact h
theorem range_getD (L : List Srv) : (List.range L.length).map (fun r => L.getD r zS) = L := by
  refine List.ext_getElem (by simp) fun i h1 h2 => ?_
  simp [List.getD_eq_getElem?_getD, List.getElem?_eq_getElem h2]
/-- Steps that add servers that are apart make just these. -/
theorem stAt_list (L : List Srv) (h : Apart L) : stAt (fun _ => 0) (fun r => L.getD r zS) L.length = ⟨L, 0⟩ := by
  rw [stAt_adds, range_getD, Apart.fold L [] h]
  rfl
theorem stAt_reset (K : Nat → Int) (S : Nat → Srv) (n : Nat) : stAt (fun r => if r < n then K r else 3) (fun r => if r < n then S r else zS) (n + 1) = ⟨(stAt (fun r => if r < n then K r else 3) (fun r => if r < n then S r else zS) (n + 1)).all, 0⟩ := by
  rw [stAt, if_neg (Nat.lt_irrefl n)]
  rfl
/-- The bools that the steps give, in a row that begins behind p of them. -/
theorem boolRow_cut {w : World} {base N p c : Nat} {q : Option Addr} {f : Nat → List Value} {R : Nat → Bool} {e : TypeId} (h : w.ownsRow base e 1 (.slice q N c) N (flatV f N)) (hf : ∀ r, (f r).length = 1) (hR : ∀ j, p + j < N → f (p + j) = [.bool (R j)]) (a : Option Addr) (ha : c ≠ p → a = q.map (·.add p)) (hc : N ≤ c) : BoolRow w a (N - p) R := fun r hr => by
  obtain ⟨g, cap, e, _, _, _, _, hcell⟩ := own_form h (show 0 < N by omega)
  injection e with e1 _ e2
  subst e1 e2
  rw [ha (by omega)]
  refine ⟨g, p, by simp [Addr.add]; omega, ?_⟩
  have h2 := hcell _ _ (flatV_at hf N (p + r) 0 _ (by omega) (by rw [hR r (by omega)]; rfl))
  rwa [Nat.mul_one, Nat.add_zero] at h2

set_option maxRecDepth 100000 in
set_option maxHeartbeats 16000000 in
theorem fnServedReset_any (a0 a1 : Option Addr) (n0 c0 n1 c1 : Nat) (K0 K1 : Nat → Int) (S0 S1 : Nat → Srv) (w : World) (h0 : StpIn w a0 n0 K0 S0) (z0 : a0 = none → n0 = 0) (hn0 : n0 ≤ c0) (hc0 : c0 ≤ maxLen) (h1 : StpIn w a1 n1 K1 S1) (z1 : a1 = none → n1 = 0) (hn1 : n1 ≤ c1) (hc1 : c1 ≤ maxLen) :
    Calls Tryd.prog 4 #[.slice a0 n0 c0, .slice a1 n1 c1] w fun e w' => e = .returned (.bool true) ∧ Kp w w' := by
  have C1 := Lib.hid (fun wx (hk : Kp w wx) => zzFits2_any a0 n0 c0 K0 S0 wx (h0.kp hk) hn0 hc0)
  have C2 := Lib.hid (fun wx (hk : Kp w wx) => zzFits2_any a1 n1 c1 K1 S1 wx (h1.kp hk) hn1 hc1)
  have C3 := Lib.hid (fun wx (hk : Kp w wx) h => configSteps_any a0 n0 c0 K0 S0 wx (h0.kp hk) h)
  have C4 := Lib.hid (fun wx (hk : Kp w wx) h => configSteps_any a1 n1 c1 K1 S1 wx (h1.kp hk) h)
  have H0 := Lib.hid h0.1
  have H1 := Lib.hid h1.1
  have Z0 := Lib.hid z0
  have Z1 := Lib.hid z1
  clear h0 h1 z0 z1 hn0 hn1 hc0 hc1
  go_enter Tryd.func4, Tryd.ntmps4
  go_wp2_with fail
  refine (C1.out w (Kp.refl w)).mono ?_
  rintro e w1 ⟨b1, rfl, hb1, hk1⟩
  have HK1 := Lib.hid hk1
  have HB1 := Lib.hid hb1
  clear hk1 hb1 C1
  cases b1
  · go_wp2_with fail
    go_ret
    exact ⟨rfl, HK1.out⟩
  go_wp2_with fail
  refine (C2.out w1 HK1.out).mono ?_
  rintro e w2 ⟨b2, rfl, hb2, hk2⟩
  have HK2 := Lib.hid (HK1.out.trans hk2)
  have HB2 := Lib.hid hb2
  clear hk2 hb2 C2 HK1
  cases b2
  · go_wp2_with fail
    go_ret
    exact ⟨rfl, HK2.out⟩
  go_wp2_with fail
  refine (C3.out w2 HK2.out (by first | exact HB1.out trivial | exact HB1.out rfl)).mono ?_
  rintro e w3 ⟨b3, rfl, hb3, hk3⟩
  have HK3 := Lib.hid (HK2.out.trans hk3)
  have HB3 := Lib.hid hb3
  clear hk3 hb3 C3 HK2
  cases b3
  · go_wp2_with fail
    refine (servedAwake_any w3).mono ?_
    rintro e w4 ⟨rfl, hk4⟩
    have HK4 := Lib.hid (HK3.out.trans hk4)
    clear hk4
    go_wp2_with fail
    go_ret
    exact ⟨rfl, HK4.out⟩
  go_wp2_with fail
  refine (C4.out w3 HK3.out (by first | exact HB2.out trivial | exact HB2.out rfl)).mono ?_
  rintro e w4 ⟨b4, rfl, hb4, hk4⟩
  have HK4 := Lib.hid (HK3.out.trans hk4)
  have HB4 := Lib.hid hb4
  clear hk4 hb4 C4 HK3
  cases b4
  · go_wp2_with fail
    refine (servedAwake_any w4).mono ?_
    rintro e w5 ⟨rfl, hk5⟩
    have HK5 := Lib.hid (HK4.out.trans hk5)
    clear hk5
    go_wp2_with fail
    go_ret
    exact ⟨rfl, HK5.out⟩
  have hx3 : n0 ≤ 100 ∧ ∀ r, r < n0 → srvOk (S0 r).pr (S0 r).ad = true := by first | exact HB3.out trivial | exact HB3.out rfl
  have hx4 : n1 ≤ 100 ∧ ∀ r, r < n1 → srvOk (S1 r).pr (S1 r).ad = true := by first | exact HB4.out trivial | exact HB4.out rfl
  have HN0 := Lib.hid hx3.1
  have HS0 := Lib.hid hx3.2
  have HN1 := Lib.hid hx4.1
  have HS1 := Lib.hid hx4.2
  clear hx3 hx4
  clear HB1 HB2 HB3 HB4
  have i0 : (n0 : Int) ≤ 100 := by have := HN0.out; omega
  have i1 : (n1 : Int) ≤ 100 := by have := HN1.out; omega
  obtain ⟨KA, hKA⟩ : ∃ KA : Nat → Int, KA = fun r => if r < n0 then K0 r else 3 := ⟨_, rfl⟩
  obtain ⟨SA, hSA⟩ : ∃ SA : Nat → Srv, SA = fun r => if r < n0 then S0 r else zS := ⟨_, rfl⟩
  obtain ⟨p, hp⟩ : ∃ p, p = n0 + 1 := ⟨_, rfl⟩
  have HFA := Lib.hid (show flatV (stpK K0 S0) n0 ++ [.int .i64 3, .string ⟨#[]⟩, .string ⟨#[]⟩, .int .i64 0] = flatV (stpK KA SA) p from by
    rw [hp, flatV, stpK, hKA, hSA]
    dsimp only
    rw [if_neg (Nat.lt_irrefl n0), if_neg (Nat.lt_irrefl n0)]
    have e : flatV (stpK (fun r => if r < n0 then K0 r else 3) (fun r => if r < n0 then S0 r else zS)) n0 = flatV (stpK K0 S0) n0 := flatV_congr (f := stpK _ _) (g := stpK _ _) n0 fun r hr => by rw [stpK, stpK, if_pos hr, if_pos hr]
    rw [e]
    rfl)
  have HRS := Lib.hid (show stAt KA SA p = ⟨(stAt KA SA p).all, 0⟩ from by rw [hp, hKA, hSA]; exact stAt_reset K0 S0 n0)
  have HSA := Lib.hid (show ∀ r, r < p → srvOk (SA r).pr (SA r).ad = true from fun r hr => by
    rw [hSA]
    dsimp only
    split
    case isTrue h => exact HS0.out r h
    case isFalse => rfl)
  have HP := Lib.hid (show p ≤ 101 ∧ n0 + 1 = p ∧ 1 ≤ p from by have := HN0.out; omega)
  have p0 : (p : Int) ≤ 101 := by have := HP.out; omega
  have p1 : (1 : Int) ≤ (p : Int) := by have := HP.out; omega
  clear hKA hSA hp
  go_wp2_with fail
  refine (cloneSteps_any a0 n0 c0 K0 S0 w4 (H0.out.kp HK4.out) Z0.out (by have := HN0.out; omega)).mono ?_
  rintro e w5 ⟨v5, rfl, ho5, hk5⟩
  obtain ⟨v6, w6, r1, r2, r3, _⟩ := app_one Tryd.underlying25 infoStep rfl (by decide) (by decide) w5 w4.heap.size v5 n0 _ ho5 hk5.size (by have := HN0.out; omega) [.int .i64 3, .string ⟨#[]⟩, .string ⟨#[]⟩, .int .i64 0] rfl (fun u hu => by
    simp only [List.mem_cons, List.not_mem_nil, or_false] at hu
    rcases hu with rfl | rfl | rfl | rfl <;> rfl)
  rw [HFA.out, HP.out.2.1] at r2
  have HA1 := Lib.hid r1
  have HO6 := Lib.hid r2
  have HK6 := Lib.hid (HK4.out.trans (hk5.grown r3 (own_ge ho5)))
  have HO6K := Lib.hid (own_base r2 HK4.out.size)
  clear ho5 hk5 r1 r2 r3 HFA
  go_wp2_with (at_builtin; refine Lib.wpList_append_run _ rfl _ _ _ _ rfl _ _ rfl rfl _ _ HA1.out ?_)
  obtain ⟨q6, c6, rfl, _, _⟩ := own_slice HO6.out
  refine (specServed_any q6 p c6 KA SA w6 (stepsIn_own' HO6.out) (by have := HP.out; omega) HSA.out).mono ?_
  rintro e w7 ⟨g7, o7, v7, kn, L, rfl, ho7, hok7, hl7, hkn, hk7⟩
  have HO7 := Lib.hid ho7
  have HOK7 := Lib.hid hok7
  have HL7 := Lib.hid hl7
  have HKN := Lib.hid hkn
  have HK67 := Lib.hid hk7
  have HK7 := Lib.hid (HK6.out.trans hk7)
  clear ho7 hok7 hl7 hkn hk7 HA1
  obtain ⟨q7, c7, rfl, _, _⟩ := own_slice HO7.out
  go_wp2_with fail
  refine (configAdds_any q7 c7 L w7 (SrvRow.of_own HO7.out rfl) (by have := HL7.out; have := HP.out; omega)).mono ?_
  rintro e w8 ⟨v8, rfl, ho8, hk8⟩
  obtain ⟨v9, w9, r1, r2, r3⟩ := app_steps w8 w7.heap.size v8 L.length _ ho8 hk8.size a1 n1 c1 K1 S1 (H1.out.kp (HK7.out.trans hk8)) Z1.out (by have := HL7.out; have := HP.out; omega) (by have := HN1.out; omega)
  rw [stpK_two] at r2
  have HA1 := Lib.hid r1
  have HO9 := Lib.hid r2
  have HK79 := Lib.hid (hk8.grown r3 (own_ge ho8))
  clear ho8 hk8 r1 r2 r3
  go_wp2_with (at_builtin; refine Lib.wpList_append_run _ rfl _ _ _ _ rfl _ _ rfl rfl _ _ HA1.out ?_)
  obtain ⟨q9, c9, rfl, _, _⟩ := own_slice HO9.out
  obtain ⟨KF, hKF⟩ : ∃ KF : Nat → Int, KF = fun r => if r < L.length then 0 else K1 (r - L.length) := ⟨_, rfl⟩
  obtain ⟨SF, hSF⟩ : ∃ SF : Nat → Srv, SF = fun r => if r < L.length then L.getD r zS else S1 (r - L.length) := ⟨_, rfl⟩
  rw [← hKF, ← hSF] at HO9
  have HKF := Lib.hid hKF
  have HSF := Lib.hid hSF
  obtain ⟨N2, hN2⟩ : ∃ N2, N2 = L.length + n1 := ⟨_, rfl⟩
  have HN2 := Lib.hid hN2
  have HN2B := Lib.hid (show N2 ≤ 300 from by rw [hN2]; have := HL7.out; have := HP.out; have := HN1.out; omega)
  have HSFO := Lib.hid (show ∀ r, r < N2 → srvOk (SF r).pr (SF r).ad = true from fun r hr => by
    rw [hSF]
    dsimp only
    split
    case isTrue h => exact HOK7.out _ (getD_mem h)
    case isFalse h => exact HS1.out _ (by omega))
  rw [← hN2] at HO9 HA1 ⊢
  clear hN2 hKF hSF
  refine (specServed_any q9 N2 c9 KF SF w9 (stepsIn_own' HO9.out) HN2B.out HSFO.out).mono ?_
  rintro e w10 ⟨g10, o10, v10, kn2, L2, rfl, _, _, _, _, hk10⟩
  have HK910 := Lib.hid hk10
  have HK10 := Lib.hid (HK7.out.trans (HK79.out.trans hk10))
  clear hk10 HA1
  cases kn
  · go_wp2_with fail
    refine (servedAwake_any w10).mono ?_
    rintro e wz ⟨rfl, hkz⟩
    have HKZ := Lib.hid (HK10.out.trans hkz)
    clear hkz
    go_wp2_with fail
    go_ret
    exact ⟨rfl, HKZ.out⟩
  cases kn2
  · go_wp2_with fail
    refine (servedAwake_any w10).mono ?_
    rintro e wz ⟨rfl, hkz⟩
    have HKZ := Lib.hid (HK10.out.trans hkz)
    clear hkz
    go_wp2_with fail
    go_ret
    exact ⟨rfl, HKZ.out⟩
  have HLE := Lib.hid (show L = (stAt KA SA p).all from by first | exact HKN.out trivial | exact HKN.out rfl)
  clear HKN
  go_wp2_with fail
  refine (cloneSteps_any q6 p c6 KA SA w10 (stpRow_own (own_below HO6.out (HK67.out.trans (HK79.out.trans HK910.out)))) (fun e => by
    have h := own_form HO6.out (show 0 < p by have := HP.out; omega)
    obtain ⟨g, cap, e2, _⟩ := h
    injection e2 with e3
    rw [e3] at e
    cases e) (by have := HP.out; omega)).mono ?_
  rintro e w11 ⟨v11, rfl, ho11, hk11⟩
  obtain ⟨v12, w12, r1, r2, r3⟩ := app_steps w11 w10.heap.size v11 p _ ho11 hk11.size a1 n1 c1 K1 S1 (H1.out.kp (HK10.out.trans hk11)) Z1.out (by have := HP.out; omega) (by have := HN1.out; omega)
  rw [stpK_two] at r2
  have HA1 := Lib.hid r1
  have HK1012 := Lib.hid (hk11.grown r3 (own_ge ho11))
  have HO12 := Lib.hid r2
  clear ho11 hk11 r1 r2 r3
  obtain ⟨KG, hKG⟩ : ∃ KG : Nat → Int, KG = fun r => if r < p then KA r else K1 (r - p) := ⟨_, rfl⟩
  obtain ⟨SG, hSG⟩ : ∃ SG : Nat → Srv, SG = fun r => if r < p then SA r else S1 (r - p) := ⟨_, rfl⟩
  rw [← hKG, ← hSG] at HO12
  have HKG := Lib.hid hKG
  have HSG := Lib.hid hSG
  obtain ⟨N1, hN1⟩ : ∃ N1, N1 = p + n1 := ⟨_, rfl⟩
  have HN1E := Lib.hid hN1
  have HN1B := Lib.hid (show N1 ≤ 300 from by rw [hN1]; have := HP.out; have := HN1.out; omega)
  have HSGO := Lib.hid (show ∀ r, r < N1 → srvOk (SG r).pr (SG r).ad = true from fun r hr => by
    rw [hSG]
    dsimp only
    split
    case isTrue h => exact HSA.out _ h
    case isFalse h => exact HS1.out _ (by omega))
  rw [← hN1] at HO12
  clear hN1 hKG hSG
  go_wp2_with (at_builtin; refine Lib.wpList_append_run _ rfl _ _ _ _ rfl _ _ rfl rfl _ _ HA1.out ?_)
  obtain ⟨q12, c12, rfl, _, _⟩ := own_slice HO12.out
  refine (served_any q12 N1 c12 KG SG w12 (stepsIn_own' HO12.out) HN1B.out HSGO.out).mono ?_
  rintro e w13 ⟨vo13, vi13, va13, rfl, ho13, hi13, ha13, hk13⟩
  have HI13 := Lib.hid hi13
  have HV13 := Lib.hid ha13
  have HO13 := Lib.hid ho13
  have HK13 := Lib.hid (HK1012.out.trans hk13)
  clear hi13 ha13 ho13 hk13 HA1
  go_wp2_with fail
  refine (served_any q9 N2 c9 KF SF w13 (stepsIn_own' (own_below HO9.out (HK910.out.trans HK13.out))) HN2B.out HSFO.out).mono ?_
  rintro e w14 ⟨vo14, vi14, va14, rfl, ho14, hi14, ha14, hk14⟩
  have HI14 := Lib.hid hi14
  have HV14 := Lib.hid ha14
  have HO14 := Lib.hid ho14
  have HK14 := Lib.hid hk14
  have HKW := Lib.hid (HK10.out.trans (HK13.out.trans hk14))
  clear hi14 ha14 ho14 hk14
  obtain ⟨qo1, co1, rfl, _, _⟩ := own_slice HO13.out
  obtain ⟨qo2, co2, rfl, _, _⟩ := own_slice HO14.out
  obtain ⟨qi1, ci1, rfl, hi1, hi1m⟩ := own_slice HI13.out
  obtain ⟨qi2, ci2, rfl, hi2, hi2m⟩ := own_slice HI14.out
  have HCI := Lib.hid (And.intro hi1 hi2)
  unfold maxLen at hi1m hi2m
  have k1 : (ci1 : Int) ≤ 9223372036854775807 := by omega
  have k2 : (ci2 : Int) ≤ 9223372036854775807 := by omega
  have k3 : (N1 : Int) ≤ (ci1 : Int) := by omega
  have k4 : (N2 : Int) ≤ (ci2 : Int) := by omega
  have k5 : (p : Int) + (n1 : Int) = (N1 : Int) := by have := HN1E.out; omega
  have k6 : (L.length : Int) + (n1 : Int) = (N2 : Int) := by have := HN2.out; omega
  have k7 : (N1 : Int) ≤ 300 := by have := HN1B.out; omega
  have k8 : (N2 : Int) ≤ 300 := by have := HN2B.out; omega
  have k9 : (p : Int) ≤ (N1 : Int) := by omega
  have k10 : (L.length : Int) ≤ (N2 : Int) := by omega
  have e1 : IntKind.i64.wrap ((p : Int) + (n1 : Int)) = (N1 : Int) := by rw [k5]; exact IntWalk.i64_in _ (by omega)
  have e2 : IntKind.i64.wrap ((L.length : Int) + (n1 : Int)) = (N2 : Int) := by rw [k6]; exact IntWalk.i64_in _ (by omega)
  clear hi1 hi2 hi1m hi2m k5 k6
  have e3 : N1 - p = n1 := by have := HN1E.out; omega
  have e4 : N2 - L.length = n1 := by have := HN2.out; omega
  have HAP := Lib.hid (show Apart L from by rw [HLE.out]; exact stAt_apart _ _ _)
  have HT := Lib.hid (show stAt KA SA p = ⟨L, 0⟩ from by rw [HRS.out, ← HLE.out])
  have HG1 := Lib.hid (show ∀ j, stAt KG SG (p + j) = stFrom ⟨L, 0⟩ K1 S1 j from fun j => by rw [HKG.out, HSG.out, stAt_from, HT.out])
  have HG2 := Lib.hid (show ∀ j, stAt KF SF (L.length + j) = stFrom ⟨L, 0⟩ K1 S1 j from fun j => by
    rw [HKF.out, HSF.out]
    have h := stAt_from (fun _ => 0) K1 (fun r => L.getD r zS) S1 L.length j
    rw [stAt_list L HAP.out] at h
    exact h)
  have HB1 := Lib.hid (show ∀ wx, Kp w14 wx → BoolRow wx (if ci1 = p then qi1 else Option.map (fun x => x.add p) qi1) n1 (fun j => (stFrom ⟨L, 0⟩ K1 S1 j).gives (K1 j)) from fun wx hk => by
    rw [← e3]
    refine boolRow_cut (own_below HI13.out (HK14.out.trans hk)) (fun _ => rfl) (fun j hj => ?_) _ (fun h => if_neg h) HCI.out.1
    rw [isC, HG1.out, HKG.out]
    dsimp only
    rw [if_neg (by omega), Nat.add_sub_cancel_left])
  have HB2 := Lib.hid (show ∀ wx, Kp w14 wx → BoolRow wx (if ci2 = L.length then qi2 else Option.map (fun x => x.add L.length) qi2) n1 (fun j => (stFrom ⟨L, 0⟩ K1 S1 j).gives (K1 j)) from fun wx hk => by
    rw [← e4]
    refine boolRow_cut (own_below HI14.out hk) (fun _ => rfl) (fun j hj => ?_) _ (fun h => if_neg h) HCI.out.2
    rw [isC, HG2.out, HKF.out]
    dsimp only
    rw [if_neg (by omega), Nat.add_sub_cancel_left])
  have h13 := HV13.out
  have h14 := HV14.out
  have HLN := Lib.hid (show (stFrom ⟨L, 0⟩ K1 S1 n1).all.length ≤ 1000 from by
    have h := (stAt_len KG SG N1).1
    rw [HN1E.out, HG1.out, ← HN1E.out] at h
    have := HN1B.out
    omega)
  rw [HN1E.out, HG1.out] at h13
  rw [HN2.out, HG2.out] at h14
  clear HV13 HV14
  generalize (stFrom ⟨L, 0⟩ K1 S1 n1).all = L3 at h13 h14 HLN
  obtain ⟨qv1, cv1, rfl, _, _⟩ := own_slice h13
  obtain ⟨qv2, cv2, rfl, _, _⟩ := own_slice h14
  have HV1 := Lib.hid (show ∀ wx, Kp w14 wx → SrvRow wx qv1 L3.length (fun r => L3.getD r zS) from fun wx hk => SrvRow.of_own (own_below h13 (HK14.out.trans hk)) rfl)
  have HV2 := Lib.hid (show ∀ wx, Kp w14 wx → SrvRow wx qv2 L3.length (fun r => L3.getD r zS) from fun wx hk => SrvRow.of_own (own_below h14 hk) rfl)
  clear h13 h14
  have HNX := Lib.hid (show n1 ≤ 1000 from by have := HN1.out; omega)
  by_cases hx1 : ci1 = p <;> by_cases hx2 : ci2 = L.length
  all_goals
    first | rw [if_pos hx1] at HB1 | rw [if_neg hx1] at HB1
    first | rw [if_pos hx2] at HB2 | rw [if_neg hx2] at HB2
    first | have f1 : (ci1 = p) = True := eq_true hx1 | have f1 : (ci1 = p) = False := eq_false hx1
    first | have f2 : (ci2 = L.length) = True := eq_true hx2 | have f2 : (ci2 = L.length) = False := eq_false hx2
    clear hx1 hx2
    go_wp2_with fail
    have HKR := Lib.hid (Kp.refl w14)
    go_region_held3 (fun wz => Kp w14 wz) (first | with_reducible exact HKR.out | with_reducible exact HKR.out.drew | with_reducible exact HKS.out | with_reducible exact HKT.out | with_reducible exact HKU.out)
      (first
        | (go_at_call 20; refine (boolEq_any _ _ n1 _ _ _ _ (HB1.out _ HKR.out.drew) (HB2.out _ HKR.out.drew) HNX.out).mono ?_; rintro e w15 ⟨rfl, hk15⟩; have HKS := Lib.hid (HKR.out.drew.trans hk15); clear hk15)
        | (go_at_call 14; refine (srvEq_any _ _ L3.length _ _ _ _ (HV1.out _ HKS.out) (HV2.out _ HKS.out) HLN.out).mono ?_; rintro e w16 ⟨rfl, hk16⟩; have HKT := Lib.hid (HKS.out.trans hk16); clear hk16)
        | (go_at_call 12; refine (servedAwake_any _).mono ?_; rintro e w17 ⟨rfl, hk17⟩; have HKU := Lib.hid (HKT.out.trans hk17); clear hk17))
    go_wp2_with fail
    go_ret
    exact ⟨rfl, HKW.out.trans HKU.out⟩
end Go.Proofs.YtmojecgmneodlaaDoor
