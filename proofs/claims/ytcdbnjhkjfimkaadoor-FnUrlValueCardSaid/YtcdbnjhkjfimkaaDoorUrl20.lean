/-
  FnUrlValue: the law's own walk.
-/
import Derived.Test.YtcdbnjhkjfimkaaDoorUrl19
namespace Go.Proofs.YtcdbnjhkjfimkaaDoor
open Go Go.RowKit

set_option maxRecDepth 100000 in
theorem zzFits5_any (nm v : ByteArray) (w : World) (hn : nm.size ≤ maxLen) (hv : v.size ≤ maxLen) :
    Calls Tryd.prog 46 #[.agg #[.string nm, .string v]] w (TruePost (nm.size ≤ 2147483647 ∧ v.size ≤ 2147483647) w) := by
  unfold maxLen at hn hv
  have i1 : (nm.size : Int) ≤ 9223372036854775807 := by omega
  have i2 : (v.size : Int) ≤ 9223372036854775807 := by omega
  by_cases h1 : nm.size ≤ 2147483647
  · have j1 : (nm.size : Int) ≤ 2147483647 := by omega
    by_cases h2 : v.size ≤ 2147483647
    · have j2 : (v.size : Int) ≤ 2147483647 := by omega
      have H := Lib.hid (And.intro h1 h2)
      clear hn hv h1 h2
      go_enter Tryd.func46, Tryd.ntmps46
      go_wp2
      go_ret
      exact ⟨true, rfl, fun _ => H.out, (Kp.refl w).alloc _⟩
    · have j2 : (2147483647 : Int) < (v.size : Int) := by omega
      clear hn hv h1 h2
      go_enter Tryd.func46, Tryd.ntmps46
      go_wp2
      go_ret
      exact ⟨false, rfl, fun h => (by cases h), (Kp.refl w).alloc _⟩
  · have j1 : (2147483647 : Int) < (nm.size : Int) := by omega
    clear hn hv h1
    go_enter Tryd.func46, Tryd.ntmps46
    go_wp2
    go_ret
    exact ⟨false, rfl, fun h => (by cases h), (Kp.refl w).alloc _⟩
theorem ampL_len (m : Nat) : ∀ L : List (List UInt8), (∀ x ∈ L, x.length ≤ m) → (ampL L).length ≤ L.length * (m + 1)
  | [], _ => by simp [ampL]
  | [x], h => by
    have := h x (by simp)
    simp only [ampL, List.length_cons, List.length_nil]
    omega
  | x :: y :: t, h => by
    have h1 := h x (by simp)
    have ih := ampL_len m (y :: t) (fun z hz => h z (List.mem_cons_of_mem _ hz))
    rw [ampL, List.length_append, List.length_append, List.length_cons, List.length_nil, List.length_cons (a := x), Nat.succ_mul]
    omega
theorem opt_len (nm q : List UInt8) (hn : nm.length ≤ 300) (hq : q.length ≤ 300) : (optL nm q).length ≤ 1201 := by
  have h1 := escL_count true (trimB q)
  have h2 := cntX_le true (trimB q)
  have h3 := trimB_len q
  have h4 : (escS true ⟨(trimB q).toArray⟩).data.toList.length = (escL true (trimB q)).length := by simp [escS]
  rw [optL, List.length_append, List.length_append, h4, List.length_cons, List.length_nil]
  omega
theorem head_h1 : headS ⟨#[104]⟩ 1 ⟨#[]⟩ ⟨#[]⟩ ⟨#[]⟩ = ⟨#[111, 114, 97, 99, 108, 101, 58, 47, 47, 58, 64, 104, 58, 49, 47]⟩ := by
  rw [headS, netS_h1]
  decide +kernel
theorem upper_len (nm : ByteArray) (h : nm.size ≠ 6) : ((⟨(Lib.toUpperA nm.data.toList).toArray⟩ : ByteArray).toList == [83, 69, 82, 86, 69, 82]) = false := by
  have e : ([83, 69, 82, 86, 69, 82] : List UInt8) = (ByteArray.mk #[83, 69, 82, 86, 69, 82]).toList := by rw [ByteArray.toList_eq]
  rw [e, Lib.bytes_beq_false_iff]
  intro e2
  have h2 := congrArg ByteArray.size e2
  have h3 : (⟨(Lib.toUpperA nm.data.toList).toArray⟩ : ByteArray).size = nm.size := by
    show ((Lib.toUpperA nm.data.toList).toArray).size = nm.size
    simp [Lib.toUpperA]
  rw [h3] at h2
  exact h h2
theorem plain_alnum (l : List UInt8) (h : ∀ c ∈ l, alnumB c = true) : plainL l = true := by
  rw [plainL_iff]
  intro b hb
  have := h b hb
  unfold alnumB at this
  simp only [Bool.or_eq_true, Bool.and_eq_true, decide_eq_true_eq] at this
  omega
/-- The parts of the value, as they stand in the address. -/
theorem opt_parts (nm v : List UInt8) : (splitC (trimB v)).map (optL nm) = ((splitC v).map trimB).map (optL nm) := by
  rw [← parts_trim v, List.map_map]
  exact List.map_congr_left fun q _ => (opt_trim nm q).symm
set_option maxRecDepth 100000 in
set_option maxHeartbeats 8000000 in
theorem fnUrlValue_any (nm v : ByteArray) (w : World) (hu : UTab w) (hsp : spTab w) (hn : nm.size ≤ maxLen) (hv : v.size ≤ maxLen) :
    Calls Tryd.prog 10 #[.agg #[.string nm, .string v]] w fun e w' => e = .returned (.bool true) ∧ Kp w w' := by
  have CZ := Lib.hid (fun w1 => zzFits5_any nm v w1 hn hv)
  have HU := Lib.hid hu
  have HSP := Lib.hid hsp
  clear hu hsp hn hv
  go_enter Tryd.func10, Tryd.ntmps10
  go_wp2_with fail
  generalize hW1 : w.alloc (.cells #[.string nm, .string v] 80) = W1
  obtain ⟨B, hB⟩ : ∃ B, B = w.heap.size := ⟨_, rfl⟩
  have HB := Lib.hid (show Blk W1 B 80 #[.string nm, .string v] from by rw [hB, ← hW1]; exact Blk.new w _ _)
  have HK1 := Lib.hid (show Kp w W1 from hW1 ▸ (Kp.refl w).alloc _)
  rw [← hB]
  clear hW1 hB
  refine (CZ.out W1).mono ?_
  rintro e w2 ⟨b, rfl, hb, hk2⟩
  have HK2 := Lib.hid (HK1.out.trans hk2)
  have HB2 := Lib.hid (HB.out.kp hk2)
  have HBZ := Lib.hid hb
  clear hb hk2 CZ
  cases b
  · go_wp2_with fail
    go_ret
    exact ⟨rfl, HK2.out⟩
  · have HSZ := Lib.hid (HBZ.out rfl)
    have c0 : w2.cell? ⟨B, 0, none⟩ = some (.string nm) := HB2.out.cell 0
    have c1 : w2.cell? ⟨B, 1, none⟩ = some (.string v) := HB2.out.cell 1
    go_wp2_with fail
    refine (urlName_any nm w2 HSZ.out.1).mono ?_
    rintro e w3 ⟨b, rfl, hb, hk3⟩
    have HK3 := Lib.hid (HK2.out.trans hk3)
    have HB3 := Lib.hid (HB2.out.kp hk3)
    have HBN := Lib.hid hb
    clear hb hk3 c0 c1
    cases b
    · go_wp2_with fail
      refine (urlAwake_any w3 (HU.out.kp HK3.out)).mono ?_
      rintro e w4 ⟨rfl, hk4⟩
      have HK4 := Lib.hid (HK3.out.trans hk4)
      clear hk4
      go_wp2_with fail
      go_ret
      exact ⟨rfl, HK4.out⟩
    · have HNM := Lib.hid (HBN.out rfl)
      have c0 : w3.cell? ⟨B, 0, none⟩ = some (.string nm) := HB3.out.cell 0
      have c1 : w3.cell? ⟨B, 1, none⟩ = some (.string v) := HB3.out.cell 1
      go_wp2_with fail
      generalize hX : w3.alloc (.cells #[.string v] 9) = X
      obtain ⟨sb, hsb⟩ : ∃ sb, sb = w3.heap.size := ⟨_, rfl⟩
      have hBX : Blk X sb 9 #[.string v] := by rw [hsb, ← hX]; exact Blk.new w3 _ _
      have hKX : Kp w3 X := hX ▸ (Kp.refl w3).alloc _
      have HKX := Lib.hid (HK3.out.trans hKX)
      have HB4 := Lib.hid (HB3.out.kp hKX)
      have CSH := Lib.hid (configShort_any sb 1 1 (fun _ => v) X (fun r hr => by
        obtain rfl : r = 0 := by omega
        exact hBX.cell 0) (fun r _ => by
        have := HSZ.out.2
        unfold maxLen
        omega) (by omega))
      have HSE := Lib.hid (show shortL (fun _ => v) 1 = decide (v.size ≤ 300) from by simp [shortL])
      rw [HSE.out] at CSH
      rw [← hsb]
      clear hX hsb hBX hKX c0 c1
      refine CSH.out.mono ?_
      rintro e wx ⟨rfl, rfl⟩
      clear CSH
      have c0 : X.cell? ⟨B, 0, none⟩ = some (.string nm) := HB4.out.cell 0
      have c1 : X.cell? ⟨B, 1, none⟩ = some (.string v) := HB4.out.cell 1
      cases hsh : decide (v.size ≤ 300)
      · clear hsh
        go_wp2_with fail
        refine (urlAwake_any X (HU.out.kp HKX.out)).mono ?_
        rintro e w4 ⟨rfl, hk4⟩
        have HK4 := Lib.hid (HKX.out.trans hk4)
        clear hk4
        go_wp2_with fail
        go_ret
        exact ⟨rfl, HK4.out⟩
      · have HV := Lib.hid (of_decide_eq_true hsh)
        clear hsh
        go_wp2_with fail
        refine (urlParts_any v X HV.out).mono ?_
        rintro e w5 ⟨b, rfl, hb, hk5⟩
        have HK5 := Lib.hid (HKX.out.trans hk5)
        have HB5 := Lib.hid (HB4.out.kp hk5)
        have HBP := Lib.hid hb
        clear hb hk5 c0 c1
        cases b
        · go_wp2_with fail
          refine (urlAwake_any w5 (HU.out.kp HK5.out)).mono ?_
          rintro e w6 ⟨rfl, hk6⟩
          have HK6 := Lib.hid (HK5.out.trans hk6)
          clear hk6
          go_wp2_with fail
          go_ret
          exact ⟨rfl, HK6.out⟩
        · have HPR := Lib.hid (HBP.out rfl)
          have c0 : w5.cell? ⟨B, 0, none⟩ = some (.string nm) := HB5.out.cell 0
          have c1 : w5.cell? ⟨B, 1, none⟩ = some (.string v) := HB5.out.cell 1
          have k0 : (nm.size : Int) ≤ 100 := by have := HNM.out.1; omega
          by_cases h6 : nm.size = 6
          · have e6 : ((nm.size : Int) == 6) = true := by simp; omega
            clear h6
            go_wp2_with fail
            refine (urlAwake_any w5 (HU.out.kp HK5.out)).mono ?_
            rintro e w6 ⟨rfl, hk6⟩
            have HK6 := Lib.hid (HK5.out.trans hk6)
            clear hk6
            go_wp2_with fail
            go_ret
            exact ⟨rfl, HK6.out⟩
          · have e6 : ((nm.size : Int) == 6) = false := by simp; omega
            have H6 := Lib.hid h6
            clear h6
            go_wp2_with fail
            generalize hY : w5.alloc (.cells #[.string nm, .string v] 80) = Y
            obtain ⟨yb, hyb⟩ : ∃ yb, yb = w5.heap.size := ⟨_, rfl⟩
            have hBY : Blk Y yb 80 #[.string nm, .string v] := by rw [hyb, ← hY]; exact Blk.new w5 _ _
            have hKY : Kp w5 Y := hY ▸ (Kp.refl w5).alloc _
            have HKY := Lib.hid (HK5.out.trans hKY)
            have HB6 := Lib.hid (HB5.out.kp hKY)
            have CU := Lib.hid (url_one nm v yb 1 Y (HU.out.kp HKY.out) (HSP.out.kp HKY.out) (by have := HNM.out.1; omega) (plain_alnum _ HNM.out.2) (upper_len nm H6.out) HV.out HPR.out.1 hBY (Nat.le_refl _))
            rw [← hyb]
            clear hY hyb hBY hKY c0 c1
            refine CU.out.mono ?_
            rintro e w7 ⟨A, rfl, hA, hk7⟩
            have HK7 := Lib.hid (HKY.out.trans hk7)
            have HB7 := Lib.hid (HB6.out.kp hk7)
            rw [head_h1, opt_parts] at hA
            obtain ⟨R, hR⟩ : ∃ R, R = (splitC v.data.toList).map trimB := ⟨_, rfl⟩
            rw [← hR] at hA
            have hRC : R.length ≤ 301 := by
              rw [hR, List.length_map]
              have h1 := splitC_count v.data.toList
              have h2 : v.data.toList.length = v.size := rfl
              have := HV.out
              omega
            have hRL : ∀ q ∈ R, q.length ≤ 300 ∧ trimB q = q ∧ q ≠ [] := fun q hq => by
              rw [hR] at hq
              obtain ⟨p, hp, rfl⟩ := List.mem_map.1 hq
              have h1 := trimB_len p
              have h2 := splitC_len v.data.toList p hp
              have h3 : v.data.toList.length = v.size := rfl
              have := HV.out
              exact ⟨by omega, trimB_idem p, HPR.out.2 p hp⟩
            have hamp : ∀ i, (ampL ((R.drop i).map (optL nm.data.toList))).length ≤ 301 * 1202 := fun i => by
              have h1 := ampL_len 1201 ((R.drop i).map (optL nm.data.toList)) (fun x hx => by
                obtain ⟨q, hq, rfl⟩ := List.mem_map.1 hx
                exact opt_len _ _ (show nm.size ≤ 300 by have := HNM.out.1; omega) (hRL q (List.mem_of_mem_drop hq)).1)
              rw [List.length_map, List.length_drop] at h1
              exact Nat.le_trans h1 (Nat.mul_le_mul_right _ (by omega))
            have hAl : A.size ≤ 1000000 := by
              have h1 : A.data.toList.length = A.size := rfl
              have h2 := hamp 0
              rw [List.drop_zero] at h2
              rw [← h1, hA]
              simp only [List.length_append, List.length_cons, List.length_nil]
              omega
            have hcutA : cutR 63 A.data.toList = ampL (R.map (optL nm.data.toList)) := by
              rw [hA, List.append_assoc]
              exact (cut_at 63 _ _ (by decide)).2
            have HAMP := Lib.hid hamp
            have HRL := Lib.hid hRL
            have HCUT := Lib.hid hcutA
            have HAL := Lib.hid hAl
            clear hA hamp hRL hcutA hAl hk7 CU
            go_wp2_with fail
            refine (urlCut_any A 63 63 rfl w7 HAL.out).mono ?_
            rintro e w8 ⟨a, l, rfl, ha, hl, hk8⟩
            rw [HCUT.out] at hl
            have HL := Lib.hid hl
            have HK8 := Lib.hid (HK7.out.trans hk8)
            have HB8 := Lib.hid (HB7.out.kp hk8)
            have c0 : w8.cell? ⟨B, 0, none⟩ = some (.string nm) := HB8.out.cell 0
            have c1 : w8.cell? ⟨B, 1, none⟩ = some (.string v) := HB8.out.cell 1
            clear ha hl hk8
            go_wp2_with fail
            refine (configParts_any v w8 HV.out).mono ?_
            rintro e w9 ⟨vr, rfl, hrow, hk9⟩
            have HK9 := Lib.hid (HK8.out.trans hk9)
            have HB9 := Lib.hid (HB8.out.kp hk9)
            rw [← hR] at hrow
            obtain ⟨g, cap, rfl⟩ : ∃ g cap, vr = .slice (some ⟨g, 0, none⟩) R.length cap := by
              rcases hrow.2 with ⟨_, h⟩ | ⟨g, cap, cur, h, _⟩
              · exfalso
                have := List.length_eq_zero_iff.1 h
                rw [hR] at this
                simp [splitC_ne] at this
              · exact ⟨g, cap, h⟩
            obtain ⟨n, hn⟩ : ∃ n, n = R.length := ⟨_, rfl⟩
            rw [← hn] at hrow hRC ⊢
            have HN := Lib.hid hn
            have HROW := Lib.hid hrow
            have HRR := Lib.hid hR
            have n0 : (n : Int) ≤ 301 := by omega
            clear hrow hn hR hk9 c0 c1 hRC
            go_wp2_with fail
            go_loopg [4, 51] n (fun G s4 s51 wr => ∃ (i : Nat) (l : ByteArray), n - i = G ∧ i ≤ n ∧ s4 = .string l ∧ s51 = .int .i64 (i : Int) ∧ l.data.toList = ampL ((R.drop i).map (optL nm.data.toList)) ∧ Kp w9 wr)
            case atStart => exact ⟨0, l, rfl, Nat.zero_le _, rfl, rfl, HL.out, Kp.refl _⟩
            case round =>
              obtain ⟨i, l, rfl, hi, rfl, rfl, hl, hkw⟩ := hrel
              have HI := Lib.hid hi
              have HLI := Lib.hid hl
              have HKW := Lib.hid hkw
              have j0 : (0 : Int) ≤ (i : Int) := by omega
              have j1 : (i : Int) ≤ (n : Int) := by omega
              by_cases hlt : i < n
              · have HLT := Lib.hid hlt
                have hlt' : i < R.length := by rw [← HN.out]; exact hlt
                have j2 : (i : Int) < (n : Int) := by omega
                obtain ⟨q, hq⟩ : ∃ q, q = R.getD i [] := ⟨_, rfl⟩
                have hqm : q ∈ R := by
                  rw [hq, List.getD_eq_getElem?_getD, List.getElem?_eq_getElem hlt']
                  exact List.getElem_mem _
                obtain ⟨hq1, hq2, hq3⟩ := HRL.out q hqm
                have d0 := (HROW.out.kp hkw).at i hlt'
                rw [← hq] at d0
                obtain ⟨Q, hQ⟩ : ∃ Q : ByteArray, Q = ⟨q.toArray⟩ := ⟨_, rfl⟩
                rw [← hQ] at d0
                have hQd : Q.data.toList = q := by rw [hQ]
                have hQs : Q.size = q.length := by rw [hQ]; show q.toArray.size = _; simp
                have hdr : R.drop i = q :: R.drop (i + 1) := by
                  rw [List.drop_eq_getElem_cons hlt', hq, List.getD_eq_getElem?_getD, List.getElem?_eq_getElem hlt']
                  rfl
                rw [hdr, List.map_cons] at hl
                obtain ⟨hc1, hc2⟩ := cut_amp (optL nm.data.toList q) (opt_amp _ _ HNM.out.2) ((R.drop (i + 1)).map (optL nm.data.toList))
                rw [← hl] at hc1 hc2
                obtain ⟨ho1, ho2⟩ := opt_cut nm.data.toList q HNM.out.2
                have hls : l.size ≤ 1000000 := by
                  have h1 : l.data.toList.length = l.size := rfl
                  have h2 := HAMP.out i
                  rw [← HLI.out] at h2
                  omega
                have hos := opt_len nm.data.toList q (show nm.size ≤ 300 by have := HNM.out.1; omega) hq1
                rw [hq2] at ho2
                have HC1 := Lib.hid hc1
                have HC2 := Lib.hid hc2
                have HO1 := Lib.hid ho1
                have HO2 := Lib.hid ho2
                have HQ := Lib.hid (And.intro hQd (And.intro hQs (And.intro hq1 hq3)))
                have HLS := Lib.hid hls
                have HOS := Lib.hid hos
                clear hl hi hlt hlt' hq hqm hq1 hq2 hq3 hQ hQd hQs hdr hc1 hc2 ho1 ho2 hls hos hkw
                go_wp2_with fail
                refine (urlCut_any l 38 38 rfl wr HLS.out).mono ?_
                rintro e v1 ⟨one, rest, rfl, ha, hb, hk⟩
                have HKA := Lib.hid (HKW.out.trans hk)
                rw [HC1.out] at ha
                rw [HC2.out] at hb
                have HA1 := Lib.hid ha
                have HR1 := Lib.hid hb
                clear ha hb hk d0
                go_wp2_with fail
                refine (urlCut_any one 61 61 rfl v1 (by
                  have h1 : one.data.toList.length = one.size := rfl
                  have h2 := HOS.out
                  rw [← HA1.out] at h2
                  omega)).mono ?_
                rintro e v2 ⟨na, va, rfl, ha, hb, hk⟩
                have HKB := Lib.hid (HKA.out.trans hk)
                rw [HA1.out, HO1.out] at ha
                rw [HA1.out, HO2.out] at hb
                obtain rfl : na = nm := Go.WideShapes.bytes_inj ha
                have HVA := Lib.hid hb
                clear ha hb hk
                go_wp2_with fail
                refine (urlPlain_any va Q v2 (by
                  rw [HVA.out, HQ.out.1]
                  simp [escS]) (by rw [HQ.out.2.1]; exact HQ.out.2.2.1) (by
                  rw [HQ.out.2.1]
                  exact List.length_pos_iff.2 HQ.out.2.2.2)).mono ?_
                rintro e v3 ⟨rfl, hk⟩
                have HKC := Lib.hid (HKB.out.trans hk)
                have c0 : v3.cell? ⟨B, 0, none⟩ = some (.string na) := (HB9.out.kp (HKB.out.trans hk)).cell 0
                clear hk
                go_wp2_with fail
                go_roundg (n - (i + 1))
                case measure => have := HLT.out; omega
                case rel => exact ⟨i + 1, rest, rfl, HLT.out, rfl, by go_num, HR1.out, HKC.out⟩
              · obtain rfl : i = n := by omega
                have hle : l.data.toList = [] := by
                  rw [hl, HN.out, List.drop_length]
                  rfl
                obtain rfl : l = ⟨#[]⟩ := Go.WideShapes.bytes_inj hle
                clear hl hi hlt hkw hle HLI
                go_wp2_with fail
                refine (urlAwake_any wr (HU.out.kp (HK9.out.trans HKW.out))).mono ?_
                rintro e v4 ⟨rfl, hk⟩
                have HKD := Lib.hid ((HK9.out.trans HKW.out).trans hk)
                clear hk
                go_wp2_with fail
                go_ret
                exact ⟨rfl, HKD.out⟩
end Go.Proofs.YtcdbnjhkjfimkaaDoor
