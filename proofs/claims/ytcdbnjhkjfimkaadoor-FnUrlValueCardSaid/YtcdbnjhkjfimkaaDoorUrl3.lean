/-
  BuildUrl and Url without options; the reference's address.
-/
import Derived.Test.YtcdbnjhkjfimkaaDoorUrl2
namespace Go.Proofs.YtcdbnjhkjfimkaaDoor
open Go Go.RowKit

set_option maxRecDepth 100000 in
theorem pathEscape_any (s : ByteArray) (w : World) (ht : UTab w) (hs : s.size ≤ 300) :
    Calls Tryd.prog 117 #[.string s] w fun e w' => e = .returned (.string (escS false s)) ∧ Kp w w' := by
  have C := Lib.hid (escape_path s w ht hs)
  clear ht hs
  go_enter Tryd.func117, Tryd.ntmps117
  go_wp2_with fail
  refine C.out.mono ?_
  rintro e w1 ⟨rfl, hk⟩
  have HK := Lib.hid hk
  clear hk
  go_wp2_with fail
  go_ret
  exact ⟨rfl, HK.out⟩
set_option maxRecDepth 100000 in
theorem configPath_any (s : ByteArray) (w : World) (hs : s.size ≤ 300) :
    Calls Tryd.prog 42 #[.string s] w fun e w' => e = .returned (.string (escS false s)) ∧ Kp w w' := by
  have C := Lib.hid (configEscaped_any s ⟨#[36, 38, 43, 61, 58, 64]⟩ w hs (by decide) (by decide))
  clear hs
  go_enter Tryd.func42, Tryd.ntmps42
  go_wp2_with fail
  refine C.out.mono ?_
  rintro e w1 ⟨rfl, hk⟩
  have HK := Lib.hid hk
  clear hk
  go_wp2_with fail
  go_ret
  exact ⟨rfl, HK.out⟩
/-- An address without options, as BuildUrl makes it. -/
def headS (h : ByteArray) (p : Int) (sv us pw : ByteArray) : ByteArray :=
  (((((((⟨#[111, 114, 97, 99, 108, 101, 58, 47, 47]⟩ : ByteArray) ++ escS false us) ++ ⟨#[58]⟩) ++ escS false pw) ++ ⟨#[64]⟩) ++ netS h p) ++ ⟨#[47]⟩) ++ escS false sv
theorem netS_size (h : ByteArray) (p : Int) (h0 : -9223372036854775808 ≤ p) (h1 : p ≤ 9223372036854775807) : (netS h p).size ≤ h.size + 24 := by
  have hl := itoa_len p h0 h1
  have e : (netS h p).size = (netL h.data.toList p).length := by
    show ((netL h.data.toList p).toArray).size = _
    simp
  have hh : h.data.toList.length = h.size := rfl
  rw [e]
  unfold netL
  split <;> simp only [List.length_cons, List.length_append] <;> omega
theorem netS_plain (h : ByteArray) (p : Int) (hn : (58 : UInt8) ∉ h.data.toList) : netS h p = (h ++ ⟨#[58]⟩) ++ ⟨(Lib.itoa p).toArray⟩ := by
  apply Go.WideShapes.bytes_inj
  rw [data_add, data_add]
  show netL h.data.toList p = _
  rw [netL, if_neg hn]
  simp

set_option maxRecDepth 100000 in
set_option maxHeartbeats 4000000 in
theorem buildUrl_none (h sv us pw : ByteArray) (p : Int) (w : World) (ht : UTab w) (hi : ItoaAt p w) (hh : h.size ≤ 100) (h1 : sv.size ≤ 300) (h2 : us.size ≤ 300) (h3 : pw.size ≤ 300) (p0 : -9223372036854775808 ≤ p) (p1 : p ≤ 9223372036854775807) :
    Calls Tryd.prog 83 #[.string h, .int .i64 p, .string sv, .string us, .string pw, .map none] w fun e w' => e = .returned (.string (headS h p sv us pw)) ∧ Kp w w' := by
  have HT := Lib.hid ht
  have HI := Lib.hid hi
  have C1 := Lib.hid (fun w1 (hk : Kp w w1) => pathEscape_any us w1 (ht.kp hk) h2)
  have C2 := Lib.hid (fun w1 (hk : Kp w w1) => pathEscape_any pw w1 (ht.kp hk) h3)
  have C3 := Lib.hid (fun w1 (hk : Kp w w1) => pathEscape_any sv w1 (ht.kp hk) h1)
  have C4 := Lib.hid (fun w1 => join_any h p (by omega) p0 p1 w1)
  have hns := netS_size h p p0 p1
  have s1 := escS_le false us
  have s2 := escS_le false pw
  have s3 := escS_le false sv
  have HE := Lib.hid (show headS h p sv us pw = (((((((⟨#[111, 114, 97, 99, 108, 101, 58, 47, 47]⟩ : ByteArray) ++ escS false us) ++ ⟨#[58]⟩) ++ escS false pw) ++ ⟨#[64]⟩) ++ netS h p) ++ ⟨#[47]⟩) ++ escS false sv from rfl)
  generalize headS h p sv us pw = R at HE ⊢
  generalize escS false us = U at HE C1 s1
  generalize escS false pw = V at HE C2 s2
  generalize escS false sv = X at HE C3 s3
  generalize netS h p = N at HE C4 hns
  have i1 : (U.size : Int) ≤ 900 := by omega
  have i2 : (V.size : Int) ≤ 900 := by omega
  have i3 : (X.size : Int) ≤ 900 := by omega
  have i4 : (N.size : Int) ≤ 124 := by omega
  have hil := itoa_len p p0 p1
  have HP := Lib.hid (And.intro p0 p1)
  have hnil := fun (w : World) (k e : TypeId) (r : Option Nat) (h : Tryd.prog.underlying 143 = some (.map k e)) => run_neq_map_nil (P := Tryd.prog) w 143 k e r h
  clear ht hi hh h1 h2 h3 hns s1 s2 s3 p0 p1 hnil hil
  have hnil := fun (w : World) => run_neq_map_nil (P := Tryd.prog) w 143 9 9 none Tryd.underlying143
  go_enter Tryd.func83, Tryd.ntmps83
  go_wp2_with fail
  refine (C1.out _ (Kp.refl _)).mono ?_
  rintro e w1 ⟨rfl, hk1⟩
  have HK1 := Lib.hid hk1
  clear hk1
  go_wp2_with fail
  refine (C2.out _ HK1.out).mono ?_
  rintro e w2 ⟨rfl, hk2⟩
  have HK2 := Lib.hid (HK1.out.trans hk2)
  clear hk2
  go_wp2_with fail
  refine (HI.out _ HK2.out).mono ?_
  rintro e w3 ⟨rfl, hk3⟩
  have HK3 := Lib.hid (HK2.out.trans hk3)
  clear hk3
  go_wp2_with fail
  refine (C4.out _).mono ?_
  rintro e w4 ⟨rfl, rfl⟩
  go_wp2_with fail
  refine (C3.out _ HK3.out).mono ?_
  rintro e w5 ⟨rfl, hk5⟩
  have HK5 := Lib.hid (HK3.out.trans hk5)
  clear hk5
  go_wp2_with fail
  go_ret
  exact ⟨by rw [HE.out]; rfl, HK5.out⟩
end Go.Proofs.YtcdbnjhkjfimkaaDoor
