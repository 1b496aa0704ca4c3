/-
  A session writes keys with values and fixed CLRs, and gives what it wrote.
-/
import Derived.Test.YtacmnibhdmeidaaDoorSes5
namespace Go.Proofs.YtacmnibhdmeidaaDoor
open Go Go.RowKit

theorem dlcW_nil (big : Bool) (chunk : Nat) : dlcW big chunk [] = [0] := rfl
theorem dlcW_pos (big : Bool) (chunk : Nat) (d : List Int) (h : 0 < d.length) : dlcW big chunk d = packed d.length ++ clrW big chunk d := by
  unfold dlcW
  rw [if_neg (fun e => by subst e; simp at h)]
theorem packed_len (v : Nat) : (packed v).length ≤ 9 := by have := sig_le v; simp [packed]; omega
theorem dlcW_len (big : Bool) (chunk : Nat) (hc : 0 < chunk) (d : List Int) : (dlcW big chunk d).length ≤ 10 * d.length + 11 := by
  unfold dlcW
  have := clrW_len big chunk hc d
  have := packed_len d.length
  split <;> simp <;> omega

set_option maxRecDepth 100000 in
set_option maxHeartbeats 4000000 in
theorem putKv_00 (big : Bool) (chunk : Nat) (g : Nat) (out ys zs : List Int) (row : Option Nat) (q1 q2 : Option Addr) (k1 m1 k2 m2 num : Nat) (w : World) (h : BufP w 94 (sesR big chunk) g 1 out row) (h1 : Src w g row q1 k1 m1 ys) (h2 : Src w g row q2 k2 m2 zs) (hk1 : k1 ≤ 1000000) (hk2 : k2 ≤ 1000000) (hc : 0 < chunk) (hc2 : chunk ≤ 4096) (hcb : big = false → chunk < 256) (hnum : num < 256) (hlim : out.length ≤ 10000000000) (z1 : k1 = 0) (z2 : k2 = 0) :
    Calls Tryd.prog 44 #[.pointer (some ⟨g, 0, none⟩), .slice q1 k1 m1, .slice q2 k2 m2, .int .u8 (num : Int)] w (Wrote 94 (sesR big chunk) g 1 (out ++ kvW big chunk ys zs num) row (.tuple #[]) w) := by
  subst z1
  have HN1 := Lib.hid (List.eq_nil_of_length_eq_zero h1.len)
  subst z2
  have HN2 := Lib.hid (List.eq_nil_of_length_eq_zero h2.len)
  have H := Lib.hid h
  have H1 := Lib.hid h1
  have H2 := Lib.hid h2
  have L1 := Lib.hid h1.len
  have L2 := Lib.hid h2.len
  have HK1 := Lib.hid hk1
  have HK2 := Lib.hid hk2
  have HC := Lib.hid hc
  have HC2 := Lib.hid hc2
  have HCB := Lib.hid hcb
  have HL := Lib.hid hlim
  have HNUM := Lib.hid hnum
  have i0 : (0 : Int) ≤ (num : Int) := by omega
  have i1 : (num : Int) < 256 := by omega
  have D1 := Lib.hid (dlcW_len big chunk hc ys)
  have D2 := Lib.hid (dlcW_len big chunk hc zs)
  clear h h1 h2 hk1 hk2 hc hc2 hcb hlim hnum
  go_enter Tryd.func44, Tryd.ntmps44
  go_wp2_with fail
  refine (byte_any 94 (sesR big chunk) g 1 _ 0 _ _ H.out (by have := HL.out; have := HK1.out; have := HK2.out; have := L1.out; have := L2.out; have := D1.out; have := D2.out; (try simp only [List.length_append] at *); omega)).mono ?_
  rintro e w1 ⟨row1, rfl, hb, hst⟩
  rw [← dlcW_nil big chunk, ← HN1.out] at hb
  have HB1 := Lib.hid hb
  have HST1 := Lib.hid (hst)
  clear hb hst
  go_wp2_with fail
  refine (byte_any 94 (sesR big chunk) g 1 _ 0 _ _ HB1.out (by have := HL.out; have := HK1.out; have := HK2.out; have := L1.out; have := L2.out; have := D1.out; have := D2.out; (try simp only [List.length_append] at *); omega)).mono ?_
  rintro e w2 ⟨row2, rfl, hb, hst⟩
  rw [← dlcW_nil big chunk, ← HN2.out] at hb
  have HB2 := Lib.hid hb
  have HST2 := Lib.hid ((HST1.out).trans hst)
  clear hb hst
  go_wp2_with fail
  refine (putint_uint84 (sesR big chunk) g true num _ _ _ _ HB2.out rfl (sig4 num (by have := HNUM.out; omega)) HNUM.out (by have := HL.out; have := HK1.out; have := HK2.out; have := L1.out; have := L2.out; have := D1.out; have := D2.out; (try simp only [List.length_append] at *); omega)).mono ?_
  rintro e w3 ⟨row3, rfl, hb, hst⟩
  have HB3 := Lib.hid hb
  have HST3 := Lib.hid (HST2.out.trans hst)
  clear hb hst
  go_wp2_with fail
  go_end0
  refine ⟨row3, rfl, ?_, HST3.out⟩
  have hb := HB3.out
  unfold kvW
  simpa only [List.append_assoc] using hb

set_option maxRecDepth 100000 in
set_option maxHeartbeats 4000000 in
theorem putKv_01 (big : Bool) (chunk : Nat) (g : Nat) (out ys zs : List Int) (row : Option Nat) (q1 q2 : Option Addr) (k1 m1 k2 m2 num : Nat) (w : World) (h : BufP w 94 (sesR big chunk) g 1 out row) (h1 : Src w g row q1 k1 m1 ys) (h2 : Src w g row q2 k2 m2 zs) (hk1 : k1 ≤ 1000000) (hk2 : k2 ≤ 1000000) (hc : 0 < chunk) (hc2 : chunk ≤ 4096) (hcb : big = false → chunk < 256) (hnum : num < 256) (hlim : out.length ≤ 10000000000) (z1 : k1 = 0) (z2 : 0 < k2) :
    Calls Tryd.prog 44 #[.pointer (some ⟨g, 0, none⟩), .slice q1 k1 m1, .slice q2 k2 m2, .int .u8 (num : Int)] w (Wrote 94 (sesR big chunk) g 1 (out ++ kvW big chunk ys zs num) row (.tuple #[]) w) := by
  subst z1
  have HN1 := Lib.hid (List.eq_nil_of_length_eq_zero h1.len)
  have e2 : ((k2 : Int) == 0) = false := by simp; omega
  have H := Lib.hid h
  have H1 := Lib.hid h1
  have H2 := Lib.hid h2
  have L1 := Lib.hid h1.len
  have L2 := Lib.hid h2.len
  have HK1 := Lib.hid hk1
  have HK2 := Lib.hid hk2
  have HC := Lib.hid hc
  have HC2 := Lib.hid hc2
  have HCB := Lib.hid hcb
  have HL := Lib.hid hlim
  have HNUM := Lib.hid hnum
  have i0 : (0 : Int) ≤ (num : Int) := by omega
  have i1 : (num : Int) < 256 := by omega
  have i3 : (0 : Int) < (k2 : Int) := by omega
  have i5 : (k2 : Int) ≤ 1000000 := by omega
  have D1 := Lib.hid (dlcW_len big chunk hc ys)
  have D2 := Lib.hid (dlcW_len big chunk hc zs)
  clear h h1 h2 hk1 hk2 hc hc2 hcb hlim hnum z2
  go_enter Tryd.func44, Tryd.ntmps44
  go_wp2_with fail
  refine (byte_any 94 (sesR big chunk) g 1 _ 0 _ _ H.out (by have := HL.out; have := HK1.out; have := HK2.out; have := L1.out; have := L2.out; have := D1.out; have := D2.out; (try simp only [List.length_append] at *); omega)).mono ?_
  rintro e w1 ⟨row1, rfl, hb, hst⟩
  rw [← dlcW_nil big chunk, ← HN1.out] at hb
  have HB1 := Lib.hid hb
  have HST1 := Lib.hid (hst)
  clear hb hst
  go_wp2_with fail
  refine (putuint_int4 (sesR big chunk) g true k2 _ _ _ _ HB1.out rfl (sig4 k2 HK2.out) (by have := HK2.out; omega) (by have := HL.out; have := HK1.out; have := HK2.out; have := L1.out; have := L2.out; have := D1.out; have := D2.out; (try simp only [List.length_append] at *); omega)).mono ?_
  rintro e v2 ⟨rov2, rfl, hb, hst⟩
  have HV2 := Lib.hid hb
  have HSV2 := Lib.hid ((HST1.out).trans hst)
  have hsrc := H2.out.stp HSV2.out
  clear hb hst
  go_wp2_with fail
  refine (putClr_any big chunk g _ zs _ _ k2 _ _ HV2.out hsrc HK2.out HC.out HC2.out HCB.out (by have := packed_len k2; have := HL.out; have := HK1.out; have := HK2.out; have := L1.out; have := L2.out; have := D1.out; have := D2.out; (try simp only [List.length_append] at *); omega)).mono ?_
  rintro e w2 ⟨row2, rfl, hb, hst⟩
  have hdl := dlcW_pos big chunk zs (by have := L2.out; omega)
  rw [L2.out] at hdl
  rw [List.append_assoc, ← hdl] at hb
  have HB2 := Lib.hid hb
  have HST2 := Lib.hid (HSV2.out.trans hst)
  clear hb hst hdl hsrc
  go_wp2_with fail
  refine (putint_uint84 (sesR big chunk) g true num _ _ _ _ HB2.out rfl (sig4 num (by have := HNUM.out; omega)) HNUM.out (by have := HL.out; have := HK1.out; have := HK2.out; have := L1.out; have := L2.out; have := D1.out; have := D2.out; (try simp only [List.length_append] at *); omega)).mono ?_
  rintro e w3 ⟨row3, rfl, hb, hst⟩
  have HB3 := Lib.hid hb
  have HST3 := Lib.hid (HST2.out.trans hst)
  clear hb hst
  go_wp2_with fail
  go_end0
  refine ⟨row3, rfl, ?_, HST3.out⟩
  have hb := HB3.out
  unfold kvW
  simpa only [List.append_assoc] using hb

set_option maxRecDepth 100000 in
set_option maxHeartbeats 4000000 in
theorem putKv_10 (big : Bool) (chunk : Nat) (g : Nat) (out ys zs : List Int) (row : Option Nat) (q1 q2 : Option Addr) (k1 m1 k2 m2 num : Nat) (w : World) (h : BufP w 94 (sesR big chunk) g 1 out row) (h1 : Src w g row q1 k1 m1 ys) (h2 : Src w g row q2 k2 m2 zs) (hk1 : k1 ≤ 1000000) (hk2 : k2 ≤ 1000000) (hc : 0 < chunk) (hc2 : chunk ≤ 4096) (hcb : big = false → chunk < 256) (hnum : num < 256) (hlim : out.length ≤ 10000000000) (z1 : 0 < k1) (z2 : k2 = 0) :
    Calls Tryd.prog 44 #[.pointer (some ⟨g, 0, none⟩), .slice q1 k1 m1, .slice q2 k2 m2, .int .u8 (num : Int)] w (Wrote 94 (sesR big chunk) g 1 (out ++ kvW big chunk ys zs num) row (.tuple #[]) w) := by
  have e1 : ((k1 : Int) == 0) = false := by simp; omega
  subst z2
  have HN2 := Lib.hid (List.eq_nil_of_length_eq_zero h2.len)
  have H := Lib.hid h
  have H1 := Lib.hid h1
  have H2 := Lib.hid h2
  have L1 := Lib.hid h1.len
  have L2 := Lib.hid h2.len
  have HK1 := Lib.hid hk1
  have HK2 := Lib.hid hk2
  have HC := Lib.hid hc
  have HC2 := Lib.hid hc2
  have HCB := Lib.hid hcb
  have HL := Lib.hid hlim
  have HNUM := Lib.hid hnum
  have i0 : (0 : Int) ≤ (num : Int) := by omega
  have i1 : (num : Int) < 256 := by omega
  have i2 : (0 : Int) < (k1 : Int) := by omega
  have i4 : (k1 : Int) ≤ 1000000 := by omega
  have D1 := Lib.hid (dlcW_len big chunk hc ys)
  have D2 := Lib.hid (dlcW_len big chunk hc zs)
  clear h h1 h2 hk1 hk2 hc hc2 hcb hlim hnum z1
  go_enter Tryd.func44, Tryd.ntmps44
  go_wp2_with fail
  refine (putuint_int4 (sesR big chunk) g true k1 _ _ _ _ H.out rfl (sig4 k1 HK1.out) (by have := HK1.out; omega) (by have := HL.out; have := HK1.out; have := HK2.out; have := L1.out; have := L2.out; have := D1.out; have := D2.out; (try simp only [List.length_append] at *); omega)).mono ?_
  rintro e v1 ⟨rov1, rfl, hb, hst⟩
  have HV1 := Lib.hid hb
  have HSV1 := Lib.hid (hst)
  have hsrc := H1.out.stp HSV1.out
  clear hb hst
  go_wp2_with fail
  refine (putClr_any big chunk g _ ys _ _ k1 _ _ HV1.out hsrc HK1.out HC.out HC2.out HCB.out (by have := packed_len k1; have := HL.out; have := HK1.out; have := HK2.out; have := L1.out; have := L2.out; have := D1.out; have := D2.out; (try simp only [List.length_append] at *); omega)).mono ?_
  rintro e w1 ⟨row1, rfl, hb, hst⟩
  have hdl := dlcW_pos big chunk ys (by have := L1.out; omega)
  rw [L1.out] at hdl
  rw [List.append_assoc, ← hdl] at hb
  have HB1 := Lib.hid hb
  have HST1 := Lib.hid (HSV1.out.trans hst)
  clear hb hst hdl hsrc
  go_wp2_with fail
  refine (byte_any 94 (sesR big chunk) g 1 _ 0 _ _ HB1.out (by have := HL.out; have := HK1.out; have := HK2.out; have := L1.out; have := L2.out; have := D1.out; have := D2.out; (try simp only [List.length_append] at *); omega)).mono ?_
  rintro e w2 ⟨row2, rfl, hb, hst⟩
  rw [← dlcW_nil big chunk, ← HN2.out] at hb
  have HB2 := Lib.hid hb
  have HST2 := Lib.hid ((HST1.out).trans hst)
  clear hb hst
  go_wp2_with fail
  refine (putint_uint84 (sesR big chunk) g true num _ _ _ _ HB2.out rfl (sig4 num (by have := HNUM.out; omega)) HNUM.out (by have := HL.out; have := HK1.out; have := HK2.out; have := L1.out; have := L2.out; have := D1.out; have := D2.out; (try simp only [List.length_append] at *); omega)).mono ?_
  rintro e w3 ⟨row3, rfl, hb, hst⟩
  have HB3 := Lib.hid hb
  have HST3 := Lib.hid (HST2.out.trans hst)
  clear hb hst
  go_wp2_with fail
  go_end0
  refine ⟨row3, rfl, ?_, HST3.out⟩
  have hb := HB3.out
  unfold kvW
  simpa only [List.append_assoc] using hb

set_option maxRecDepth 100000 in
set_option maxHeartbeats 4000000 in
theorem putKv_11 (big : Bool) (chunk : Nat) (g : Nat) (out ys zs : List Int) (row : Option Nat) (q1 q2 : Option Addr) (k1 m1 k2 m2 num : Nat) (w : World) (h : BufP w 94 (sesR big chunk) g 1 out row) (h1 : Src w g row q1 k1 m1 ys) (h2 : Src w g row q2 k2 m2 zs) (hk1 : k1 ≤ 1000000) (hk2 : k2 ≤ 1000000) (hc : 0 < chunk) (hc2 : chunk ≤ 4096) (hcb : big = false → chunk < 256) (hnum : num < 256) (hlim : out.length ≤ 10000000000) (z1 : 0 < k1) (z2 : 0 < k2) :
    Calls Tryd.prog 44 #[.pointer (some ⟨g, 0, none⟩), .slice q1 k1 m1, .slice q2 k2 m2, .int .u8 (num : Int)] w (Wrote 94 (sesR big chunk) g 1 (out ++ kvW big chunk ys zs num) row (.tuple #[]) w) := by
  have e1 : ((k1 : Int) == 0) = false := by simp; omega
  have e2 : ((k2 : Int) == 0) = false := by simp; omega
  have H := Lib.hid h
  have H1 := Lib.hid h1
  have H2 := Lib.hid h2
  have L1 := Lib.hid h1.len
  have L2 := Lib.hid h2.len
  have HK1 := Lib.hid hk1
  have HK2 := Lib.hid hk2
  have HC := Lib.hid hc
  have HC2 := Lib.hid hc2
  have HCB := Lib.hid hcb
  have HL := Lib.hid hlim
  have HNUM := Lib.hid hnum
  have i0 : (0 : Int) ≤ (num : Int) := by omega
  have i1 : (num : Int) < 256 := by omega
  have i2 : (0 : Int) < (k1 : Int) := by omega
  have i3 : (0 : Int) < (k2 : Int) := by omega
  have i4 : (k1 : Int) ≤ 1000000 := by omega
  have i5 : (k2 : Int) ≤ 1000000 := by omega
  have D1 := Lib.hid (dlcW_len big chunk hc ys)
  have D2 := Lib.hid (dlcW_len big chunk hc zs)
  clear h h1 h2 hk1 hk2 hc hc2 hcb hlim hnum z1 z2
  go_enter Tryd.func44, Tryd.ntmps44
  go_wp2_with fail
  refine (putuint_int4 (sesR big chunk) g true k1 _ _ _ _ H.out rfl (sig4 k1 HK1.out) (by have := HK1.out; omega) (by have := HL.out; have := HK1.out; have := HK2.out; have := L1.out; have := L2.out; have := D1.out; have := D2.out; (try simp only [List.length_append] at *); omega)).mono ?_
  rintro e v1 ⟨rov1, rfl, hb, hst⟩
  have HV1 := Lib.hid hb
  have HSV1 := Lib.hid (hst)
  have hsrc := H1.out.stp HSV1.out
  clear hb hst
  go_wp2_with fail
  refine (putClr_any big chunk g _ ys _ _ k1 _ _ HV1.out hsrc HK1.out HC.out HC2.out HCB.out (by have := packed_len k1; have := HL.out; have := HK1.out; have := HK2.out; have := L1.out; have := L2.out; have := D1.out; have := D2.out; (try simp only [List.length_append] at *); omega)).mono ?_
  rintro e w1 ⟨row1, rfl, hb, hst⟩
  have hdl := dlcW_pos big chunk ys (by have := L1.out; omega)
  rw [L1.out] at hdl
  rw [List.append_assoc, ← hdl] at hb
  have HB1 := Lib.hid hb
  have HST1 := Lib.hid (HSV1.out.trans hst)
  clear hb hst hdl hsrc
  go_wp2_with fail
  refine (putuint_int4 (sesR big chunk) g true k2 _ _ _ _ HB1.out rfl (sig4 k2 HK2.out) (by have := HK2.out; omega) (by have := HL.out; have := HK1.out; have := HK2.out; have := L1.out; have := L2.out; have := D1.out; have := D2.out; (try simp only [List.length_append] at *); omega)).mono ?_
  rintro e v2 ⟨rov2, rfl, hb, hst⟩
  have HV2 := Lib.hid hb
  have HSV2 := Lib.hid ((HST1.out).trans hst)
  have hsrc := H2.out.stp HSV2.out
  clear hb hst
  go_wp2_with fail
  refine (putClr_any big chunk g _ zs _ _ k2 _ _ HV2.out hsrc HK2.out HC.out HC2.out HCB.out (by have := packed_len k2; have := HL.out; have := HK1.out; have := HK2.out; have := L1.out; have := L2.out; have := D1.out; have := D2.out; (try simp only [List.length_append] at *); omega)).mono ?_
  rintro e w2 ⟨row2, rfl, hb, hst⟩
  have hdl := dlcW_pos big chunk zs (by have := L2.out; omega)
  rw [L2.out] at hdl
  rw [List.append_assoc, ← hdl] at hb
  have HB2 := Lib.hid hb
  have HST2 := Lib.hid (HSV2.out.trans hst)
  clear hb hst hdl hsrc
  go_wp2_with fail
  refine (putint_uint84 (sesR big chunk) g true num _ _ _ _ HB2.out rfl (sig4 num (by have := HNUM.out; omega)) HNUM.out (by have := HL.out; have := HK1.out; have := HK2.out; have := L1.out; have := L2.out; have := D1.out; have := D2.out; (try simp only [List.length_append] at *); omega)).mono ?_
  rintro e w3 ⟨row3, rfl, hb, hst⟩
  have HB3 := Lib.hid hb
  have HST3 := Lib.hid (HST2.out.trans hst)
  clear hb hst
  go_wp2_with fail
  go_end0
  refine ⟨row3, rfl, ?_, HST3.out⟩
  have hb := HB3.out
  unfold kvW
  simpa only [List.append_assoc] using hb

theorem putKv_any (big : Bool) (chunk : Nat) (g : Nat) (out ys zs : List Int) (row : Option Nat) (q1 q2 : Option Addr) (k1 m1 k2 m2 num : Nat) (w : World) (h : BufP w 94 (sesR big chunk) g 1 out row) (h1 : Src w g row q1 k1 m1 ys) (h2 : Src w g row q2 k2 m2 zs) (hk1 : k1 ≤ 1000000) (hk2 : k2 ≤ 1000000) (hc : 0 < chunk) (hc2 : chunk ≤ 4096) (hcb : big = false → chunk < 256) (hnum : num < 256) (hlim : out.length ≤ 10000000000) :
    Calls Tryd.prog 44 #[.pointer (some ⟨g, 0, none⟩), .slice q1 k1 m1, .slice q2 k2 m2, .int .u8 (num : Int)] w (Wrote 94 (sesR big chunk) g 1 (out ++ kvW big chunk ys zs num) row (.tuple #[]) w) := by
  rcases Nat.eq_zero_or_pos k1 with z1 | z1 <;> rcases Nat.eq_zero_or_pos k2 with z2 | z2
  · exact putKv_00 big chunk g out ys zs row q1 q2 k1 m1 k2 m2 num w h h1 h2 hk1 hk2 hc hc2 hcb hnum hlim z1 z2
  · exact putKv_01 big chunk g out ys zs row q1 q2 k1 m1 k2 m2 num w h h1 h2 hk1 hk2 hc hc2 hcb hnum hlim z1 z2
  · exact putKv_10 big chunk g out ys zs row q1 q2 k1 m1 k2 m2 num w h h1 h2 hk1 hk2 hc hc2 hcb hnum hlim z1 z2
  · exact putKv_11 big chunk g out ys zs row q1 q2 k1 m1 k2 m2 num w h h1 h2 hk1 hk2 hc hc2 hcb hnum hlim z1 z2

set_option maxRecDepth 100000 in
set_option maxHeartbeats 4000000 in
theorem fixed_any (T : TypeId) (R : Nat → Option Value) (g b : Nat) (out ys : List Int) (row : Option Nat) (q : Option Addr) (k m : Nat) (w : World) (h : BufP w T R b 0 out row) (hs : Src w b row q k m ys) (hk : k ≤ 1000000) (hlim : out.length ≤ 10000000000) :
    Calls Tryd.prog 45 #[.pointer (some ⟨g, 0, none⟩), .pointer (some ⟨b, 0, none⟩), .slice q k m] w (Wrote T R b 0 (out ++ fixedW ys) row (.tuple #[]) w) := by
  have H := Lib.hid h
  have HS := Lib.hid hs
  have HK := Lib.hid hk
  have HL := Lib.hid hlim
  have HLEN := Lib.hid hs.len
  have i0 : (0 : Int) ≤ (k : Int) := by omega
  have i1 : (k : Int) ≤ 1000000 := by omega
  by_cases h252 : 252 < k
  · have i2 : (252 : Int) < (k : Int) := by omega
    have HF := Lib.hid (show fixedW ys = 254 :: (be 4 k ++ ys) from by unfold fixedW; rw [hs.len, if_pos h252])
    clear h hs hk hlim h252
    go_enter Tryd.func45, Tryd.ntmps45
    go_wp2_with fail
    refine (byte_any T R b 0 out 254 row w H.out (by have := HL.out; omega)).mono ?_
    rintro e w1 ⟨row1, rfl, hb, hst⟩
    have HB1 := Lib.hid hb
    have HST1 := Lib.hid hst
    clear hb hst
    go_wp2_with fail
    refine (writeuint_be4 T b R g k _ row1 w1 HB1.out (by have := HK.out; omega) (by rw [List.length_append]; have := HL.out; simp; omega)).mono ?_
    rintro e w2 ⟨row2, rfl, hb, hst⟩
    have HB2 := Lib.hid hb
    have HST2 := Lib.hid (HST1.out.trans hst)
    clear hb hst
    go_wp2_with fail
    have hs2 := HS.out.stp HST2.out
    refine (write_any T R b 0 _ ys row2 _ _ _ w2 HB2.out hs2.len (by simp only [List.length_append, be_length, List.length_cons, List.length_nil]; have := HL.out; have := HK.out; omega) hs2.bin (fun a ha => (hs2.far a ha).2.1)).mono ?_
    rintro e w3 ⟨row3, rfl, hb, hst⟩
    have HB3 := Lib.hid hb
    have HST3 := Lib.hid (HST2.out.trans hst)
    clear hb hst hs2
    go_wp2_with fail
    go_end0
    refine ⟨row3, rfl, ?_, HST3.out⟩
    rw [HF.out, List.append_cons, ← List.append_assoc]
    exact HB3.out
  · have i2 : (k : Int) ≤ 252 := by omega
    have HF := Lib.hid (show fixedW ys = (k : Int) :: ys from by unfold fixedW; rw [hs.len, if_neg h252])
    clear h hs hk hlim h252
    go_enter Tryd.func45, Tryd.ntmps45
    go_wp2_with fail
    refine (byte_any T R b 0 out _ row w H.out (by have := HL.out; omega)).mono ?_
    rintro e w1 ⟨row1, rfl, hb, hst⟩
    have HB1 := Lib.hid hb
    have HST1 := Lib.hid hst
    clear hb hst
    go_wp2_with fail
    have hs2 := HS.out.stp HST1.out
    refine (write_any T R b 0 _ ys row1 _ _ _ w1 HB1.out hs2.len (by simp only [List.length_append, List.length_cons, List.length_nil]; have := HL.out; have := HK.out; omega) hs2.bin (fun a ha => (hs2.far a ha).2.1)).mono ?_
    rintro e w3 ⟨row3, rfl, hb, hst⟩
    have HB3 := Lib.hid hb
    have HST3 := Lib.hid (HST1.out.trans hst)
    clear hb hst hs2
    go_wp2_with fail
    go_end0
    refine ⟨row3, rfl, ?_, HST3.out⟩
    rw [HF.out, List.append_cons]
    exact HB3.out

theorem output_any (R : Nat → Option Value) (g : Nat) (out : List Int) (row : Option Nat) (w : World) (h : BufP w 94 R g 1 out row) :
    Calls Tryd.prog 47 #[.pointer (some ⟨g, 0, none⟩)] w (BytesOf out row w) := by
  have HW := Lib.hid (bytes_any 94 R g 1 out row w h)
  clear h
  go_enter Tryd.func47, Tryd.ntmps47
  go_wp2_with fail
  refine HW.out.mono ?_
  rintro e w4 ⟨a, l, cap, nq, rfl, H⟩
  have HH := Lib.hid H
  clear H
  go_wp2_with fail
  go_ret
  exact ⟨a, l, cap, nq, rfl, HH.out⟩
end Go.Proofs.YtacmnibhdmeidaaDoor
