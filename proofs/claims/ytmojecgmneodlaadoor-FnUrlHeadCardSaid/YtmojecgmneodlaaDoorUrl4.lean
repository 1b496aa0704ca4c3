/-
  FnUrlHead: an address without options has the user, the password and the service escaped as parts of a path, and the server with its port between them.
-/
import Derived.Test.YtmojecgmneodlaaDoorUrl3
namespace Go.Proofs.YtmojecgmneodlaaDoor
open Go Go.RowKit

set_option maxRecDepth 100000 in
theorem options_none (a : Option Addr) (c : Nat) (w : World) : Calls Tryd.prog 54 #[.slice a 0 c] w fun e w' => e = .returned (.map none) ∧ w = w' := by
  go_enter Tryd.func54, Tryd.ntmps54
  go_wp2_with fail
  go_ret
  exact ⟨rfl, rfl⟩
set_option maxRecDepth 100000 in
theorem url_none (h sv us pw : ByteArray) (p : Int) (w : World) (ht : UTab w) (hi : ItoaAt p w) (hh : h.size ≤ 100) (h1 : sv.size ≤ 300) (h2 : us.size ≤ 300) (h3 : pw.size ≤ 300) (p0 : -9223372036854775808 ≤ p) (p1 : p ≤ 9223372036854775807) :
    Calls Tryd.prog 28 #[.string h, .int .i64 p, .string sv, .string us, .string pw, .slice none 0 0] w fun e w' => e = .returned (.string (headS h p sv us pw)) ∧ Kp w w' := by
  have C := Lib.hid (buildUrl_none h sv us pw p w ht hi hh h1 h2 h3 p0 p1)
  clear ht hi hh h1 h2 h3 p0 p1
  go_enter Tryd.func28, Tryd.ntmps28
  go_wp2_with fail
  refine (options_none none 0 w).mono ?_
  rintro e w1 ⟨rfl, rfl⟩
  go_wp2_with fail
  refine C.out.mono ?_
  rintro e w2 ⟨rfl, hk⟩
  have HK := Lib.hid hk
  clear hk
  go_wp2_with fail
  go_ret
  exact ⟨rfl, HK.out⟩
theorem itoa_one (w : World) : ItoaAt 1 w := fun w1 _ => (Tryd.strconv_Itoa_small 1 (by omega) w1).mono (by
  rintro e w' ⟨rfl, rfl⟩
  exact ⟨by rw [show Lib.itoa 1 = Lib.decDigits 1 from rfl], Kp.refl _⟩)
theorem netS_h1 : netS ⟨#[104]⟩ 1 = ⟨#[104, 58, 49]⟩ := by
  unfold netS netL Lib.itoa
  rw [if_neg (by decide), if_neg (by decide), show (1 : Int).toNat = 1 from rfl, dec_rec]
  rfl
theorem head_awake : headS ⟨#[104]⟩ 1 ⟨#[115]⟩ ⟨#[117]⟩ ⟨#[112, 47]⟩ = ⟨#[111, 114, 97, 99, 108, 101, 58, 47, 47, 117, 58, 112, 37, 50, 70, 64, 104, 58, 49, 47, 115]⟩ := by
  rw [headS, netS_h1]
  decide +kernel
set_option maxRecDepth 100000 in
theorem urlAwake_any (w : World) (ht : UTab w) : Calls Tryd.prog 27 #[] w fun e w' => e = .returned (.bool true) ∧ Kp w w' := by
  have C := Lib.hid (url_none ⟨#[104]⟩ ⟨#[115]⟩ ⟨#[117]⟩ ⟨#[112, 47]⟩ 1 w ht (itoa_one w) (by decide) (by decide) (by decide) (by decide) (by omega) (by omega))
  rw [head_awake] at C
  clear ht
  go_enter Tryd.func27, Tryd.ntmps27
  go_wp2_with fail
  refine C.out.mono ?_
  rintro e w2 ⟨rfl, hk⟩
  have HK := Lib.hid hk
  clear hk
  go_wp2_with fail
  go_ret
  exact ⟨rfl, HK.out⟩

set_option maxRecDepth 100000 in
set_option maxHeartbeats 4000000 in
theorem configHead_any (h sv us pw : ByteArray) (p : Int) (w : World) (hi : ItoaAt p w) (hn : (58 : UInt8) ∉ h.data.toList) (hh : h.size ≤ 100) (h1 : sv.size ≤ 300) (h2 : us.size ≤ 300) (h3 : pw.size ≤ 300) (p0 : -9223372036854775808 ≤ p) (p1 : p ≤ 9223372036854775807) :
    Calls Tryd.prog 29 #[.string h, .int .i64 p, .string sv, .string us, .string pw] w fun e w' => e = .returned (.string (headS h p sv us pw)) ∧ Kp w w' := by
  have HI := Lib.hid hi
  have C1 := Lib.hid (fun w1 => configPath_any us w1 h2)
  have C2 := Lib.hid (fun w1 => configPath_any pw w1 h3)
  have C3 := Lib.hid (fun w1 => configPath_any sv w1 h1)
  have s1 := escS_le false us
  have s2 := escS_le false pw
  have s3 := escS_le false sv
  have hit : ((⟨(Lib.itoa p).toArray⟩ : ByteArray).size) ≤ 21 := itoa_len p p0 p1
  have HE := Lib.hid (show headS h p sv us pw = (((((((((⟨#[111, 114, 97, 99, 108, 101, 58, 47, 47]⟩ : ByteArray) ++ escS false us) ++ ⟨#[58]⟩) ++ escS false pw) ++ ⟨#[64]⟩) ++ h) ++ ⟨#[58]⟩) ++ ⟨(Lib.itoa p).toArray⟩) ++ ⟨#[47]⟩) ++ escS false sv from by
    rw [headS, netS_plain h p hn]
    apply Go.WideShapes.bytes_inj
    simp only [data_add, List.append_assoc])
  generalize headS h p sv us pw = R at HE ⊢
  generalize escS false us = U at HE C1 s1
  generalize escS false pw = V at HE C2 s2
  generalize escS false sv = X at HE C3 s3
  have HIT := Lib.hid hi
  generalize hq : (⟨(Lib.itoa p).toArray⟩ : ByteArray) = I at HE hit
  have HQ := Lib.hid hq
  have i1 : (U.size : Int) ≤ 900 := by omega
  have i2 : (V.size : Int) ≤ 900 := by omega
  have i3 : (X.size : Int) ≤ 900 := by omega
  have i4 : (I.size : Int) ≤ 21 := by omega
  have i5 : (h.size : Int) ≤ 100 := by omega
  clear hi hn hh h1 h2 h3 s1 s2 s3 p0 p1 hit hq
  go_enter Tryd.func29, Tryd.ntmps29
  go_wp2_with fail
  refine (C1.out _).mono ?_
  rintro e w1 ⟨rfl, hk1⟩
  have HK1 := Lib.hid hk1
  clear hk1
  go_wp2_with fail
  refine (C2.out _).mono ?_
  rintro e w2 ⟨rfl, hk2⟩
  have HK2 := Lib.hid (HK1.out.trans hk2)
  clear hk2
  go_wp2_with fail
  refine (HI.out _ HK2.out).mono ?_
  rintro e w3 ⟨rfl, hk3⟩
  rw [HQ.out]
  have HK3 := Lib.hid (HK2.out.trans hk3)
  clear hk3
  go_wp2_with fail
  refine (C3.out _).mono ?_
  rintro e w5 ⟨rfl, hk5⟩
  have HK5 := Lib.hid (HK3.out.trans hk5)
  clear hk5
  go_wp2_with fail
  go_ret
  exact ⟨by rw [HE.out]; rfl, HK5.out⟩

/-- A test that, where it says yes, tells this. -/
def TruePost (P : Prop) (w : World) (e : Ending) (w' : World) : Prop := ∃ b, e = .returned (.bool b) ∧ (b = true → P) ∧ Kp w w'
set_option maxRecDepth 100000 in
set_option maxHeartbeats 8000000 in
theorem urlHost_any (s : ByteArray) (w : World) (hs : s.size ≤ 2147483647) :
    Calls Tryd.prog 26 #[.string s] w (TruePost (s.size ≤ 100 ∧ (58 : UInt8) ∉ s.data.toList) w) := by
  have i0 : (s.size : Int) ≤ 2147483647 := by omega
  have HC := Lib.hid (fun w1 c e m i hi => bytes_cell w1 s c e m i hi)
  have HL := Lib.hid (show s.data.toList.length = s.size from rfl)
  clear hs
  go_enter Tryd.func26, Tryd.ntmps26
  go_wp2_with fail
  rw [run_bytes_of_string w 9 33 5 s Tryd.underlying9 Tryd.underlying33 Tryd.underlying5]
  simp only [Result.andThen]
  rw [Oper.upon_value]
  generalize hX : w.drew.alloc (.cells (bytesRow s (grownCap w s.size 0 5)) 5 ((bytesRow s (grownCap w s.size 0 5)).size, (bytesRow s (grownCap w s.size 0 5)).size + 1)) = X
  have HK := Lib.hid (show Kp w X from hX ▸ (Kp.refl w).drew.alloc _)
  have HX := Lib.hid (fun i hi => (hX ▸ HC.out w _ _ _ i hi : X.cell? ⟨w.heap.size, i, none⟩ = some (.int .u8 ((s.data.toList.getD i 0).toNat : Int))))
  clear hX
  go_wp2_with fail
  go_loopg [8] s.size (fun G st wr => ∃ k : Nat, G = s.size - k ∧ k ≤ s.size ∧ st = .int .i64 (k : Int) ∧ (58 : UInt8) ∉ s.data.toList.take k ∧ X = wr)
  case atStart => exact ⟨0, rfl, Nat.zero_le _, rfl, by simp, rfl⟩
  case round =>
    obtain ⟨k, rfl, hk, rfl, hn, rfl⟩ := hrel
    have HKN := Lib.hid hk
    have HN := Lib.hid hn
    have j0 : (0 : Int) ≤ (k : Int) := by omega
    have j1 : (k : Int) ≤ (s.size : Int) := by omega
    clear hk hn
    by_cases hlt : k < s.size
    · have j2 : (k : Int) < (s.size : Int) := by omega
      have d0 := HX.out k hlt
      have HLT := Lib.hid hlt
      obtain ⟨c, hc⟩ : ∃ c, c = s.data.toList.getD k 0 := ⟨_, rfl⟩
      have HTK := Lib.hid (show s.data.toList.take (k + 1) = s.data.toList.take k ++ [c] from by
        rw [List.take_succ_eq_append_getElem (by rw [HL.out]; exact hlt), hc, List.getD_eq_getElem?_getD, List.getElem?_eq_getElem (by rw [HL.out]; exact hlt)]; rfl)
      rw [← hc] at d0
      obtain ⟨x, hx⟩ : ∃ x, x = c.toNat := ⟨_, rfl⟩
      have x0 : (0 : Int) ≤ (x : Int) := by omega
      have x1 : (x : Int) < 256 := by have := c.toNat_lt; omega
      rw [← hx] at d0
      have HNE := Lib.hid (fun (h : x ≠ 58) => (show (58 : UInt8) ∉ s.data.toList.take (k + 1) from by
        rw [HTK.out]
        intro hm
        rcases List.mem_append.1 hm with hm | hm
        · exact HN.out hm
        · rw [List.mem_singleton] at hm
          rw [← hm] at hx
          exact h hx))
      clear hlt hc hx
      by_cases d0 : x ≤ 44
      · have f97 : (x : Int) < 97 := by omega
        have f65 : (x : Int) < 65 := by omega
        have f48 : (x : Int) < 48 := by omega
        have g122 : (x : Int) ≤ 122 := by omega
        have g90 : (x : Int) ≤ 90 := by omega
        have g57 : (x : Int) ≤ 57 := by omega
        have e46 : ((x : Int) == 46) = false := by simp; omega
        have e45 : ((x : Int) == 45) = false := by simp; omega
        clear d0
        go_wp2_with fail
        go_ret
        exact ⟨false, rfl, fun h => (by cases h), HK.out⟩
      · by_cases d1 : x ≤ 45
        · have f97 : (x : Int) < 97 := by omega
          have f65 : (x : Int) < 65 := by omega
          have f48 : (x : Int) < 48 := by omega
          have g122 : (x : Int) ≤ 122 := by omega
          have g90 : (x : Int) ≤ 90 := by omega
          have g57 : (x : Int) ≤ 57 := by omega
          have e46 : ((x : Int) == 46) = false := by simp; omega
          have e45 : ((x : Int) == 45) = true := by simp; omega
          have HM := Lib.hid (HNE.out (by omega))
          clear d0 d1
          go_wp2_with fail
          go_roundg (s.size - (k + 1))
          case measure => have := HLT.out; omega
          case rel => exact ⟨k + 1, rfl, HLT.out, by go_num, HM.out, rfl⟩
        · by_cases d2 : x ≤ 46
          · have f97 : (x : Int) < 97 := by omega
            have f65 : (x : Int) < 65 := by omega
            have f48 : (x : Int) < 48 := by omega
            have g122 : (x : Int) ≤ 122 := by omega
            have g90 : (x : Int) ≤ 90 := by omega
            have g57 : (x : Int) ≤ 57 := by omega
            have e46 : ((x : Int) == 46) = true := by simp; omega
            have e45 : ((x : Int) == 45) = false := by simp; omega
            have HM := Lib.hid (HNE.out (by omega))
            clear d0 d1 d2
            go_wp2_with fail
            go_roundg (s.size - (k + 1))
            case measure => have := HLT.out; omega
            case rel => exact ⟨k + 1, rfl, HLT.out, by go_num, HM.out, rfl⟩
          · by_cases d3 : x ≤ 47
            · have f97 : (x : Int) < 97 := by omega
              have f65 : (x : Int) < 65 := by omega
              have f48 : (x : Int) < 48 := by omega
              have g122 : (x : Int) ≤ 122 := by omega
              have g90 : (x : Int) ≤ 90 := by omega
              have g57 : (x : Int) ≤ 57 := by omega
              have e46 : ((x : Int) == 46) = false := by simp; omega
              have e45 : ((x : Int) == 45) = false := by simp; omega
              clear d0 d1 d2 d3
              go_wp2_with fail
              go_ret
              exact ⟨false, rfl, fun h => (by cases h), HK.out⟩
            · by_cases d4 : x ≤ 57
              · have f97 : (x : Int) < 97 := by omega
                have f65 : (x : Int) < 65 := by omega
                have f48 : (48 : Int) ≤ (x : Int) := by omega
                have g122 : (x : Int) ≤ 122 := by omega
                have g90 : (x : Int) ≤ 90 := by omega
                have g57 : (x : Int) ≤ 57 := by omega
                have e46 : ((x : Int) == 46) = false := by simp; omega
                have e45 : ((x : Int) == 45) = false := by simp; omega
                have HM := Lib.hid (HNE.out (by omega))
                clear d0 d1 d2 d3 d4
                go_wp2_with fail
                go_roundg (s.size - (k + 1))
                case measure => have := HLT.out; omega
                case rel => exact ⟨k + 1, rfl, HLT.out, by go_num, HM.out, rfl⟩
              · by_cases d5 : x ≤ 64
                · have f97 : (x : Int) < 97 := by omega
                  have f65 : (x : Int) < 65 := by omega
                  have f48 : (48 : Int) ≤ (x : Int) := by omega
                  have g122 : (x : Int) ≤ 122 := by omega
                  have g90 : (x : Int) ≤ 90 := by omega
                  have g57 : (57 : Int) < (x : Int) := by omega
                  have z57 : decide ((x : Int) ≤ 57) = false := decide_eq_false (by omega)
                  have e46 : ((x : Int) == 46) = false := by simp; omega
                  have e45 : ((x : Int) == 45) = false := by simp; omega
                  clear d0 d1 d2 d3 d4 d5
                  go_wp2_with fail
                  go_ret
                  exact ⟨false, rfl, fun h => (by cases h), HK.out⟩
                · by_cases d6 : x ≤ 90
                  · have f97 : (x : Int) < 97 := by omega
                    have f65 : (65 : Int) ≤ (x : Int) := by omega
                    have f48 : (48 : Int) ≤ (x : Int) := by omega
                    have g122 : (x : Int) ≤ 122 := by omega
                    have g90 : (x : Int) ≤ 90 := by omega
                    have g57 : (57 : Int) < (x : Int) := by omega
                    have z57 : decide ((x : Int) ≤ 57) = false := decide_eq_false (by omega)
                    have e46 : ((x : Int) == 46) = false := by simp; omega
                    have e45 : ((x : Int) == 45) = false := by simp; omega
                    have HM := Lib.hid (HNE.out (by omega))
                    clear d0 d1 d2 d3 d4 d5 d6
                    go_wp2_with fail
                    go_roundg (s.size - (k + 1))
                    case measure => have := HLT.out; omega
                    case rel => exact ⟨k + 1, rfl, HLT.out, by go_num, HM.out, rfl⟩
                  · by_cases d7 : x ≤ 96
                    · have f97 : (x : Int) < 97 := by omega
                      have f65 : (65 : Int) ≤ (x : Int) := by omega
                      have f48 : (48 : Int) ≤ (x : Int) := by omega
                      have g122 : (x : Int) ≤ 122 := by omega
                      have g90 : (90 : Int) < (x : Int) := by omega
                      have z90 : decide ((x : Int) ≤ 90) = false := decide_eq_false (by omega)
                      have g57 : (57 : Int) < (x : Int) := by omega
                      have z57 : decide ((x : Int) ≤ 57) = false := decide_eq_false (by omega)
                      have e46 : ((x : Int) == 46) = false := by simp; omega
                      have e45 : ((x : Int) == 45) = false := by simp; omega
                      clear d0 d1 d2 d3 d4 d5 d6 d7
                      go_wp2_with fail
                      go_ret
                      exact ⟨false, rfl, fun h => (by cases h), HK.out⟩
                    · by_cases d8 : x ≤ 122
                      · have f97 : (97 : Int) ≤ (x : Int) := by omega
                        have f65 : (65 : Int) ≤ (x : Int) := by omega
                        have f48 : (48 : Int) ≤ (x : Int) := by omega
                        have g122 : (x : Int) ≤ 122 := by omega
                        have g90 : (90 : Int) < (x : Int) := by omega
                        have z90 : decide ((x : Int) ≤ 90) = false := decide_eq_false (by omega)
                        have g57 : (57 : Int) < (x : Int) := by omega
                        have z57 : decide ((x : Int) ≤ 57) = false := decide_eq_false (by omega)
                        have e46 : ((x : Int) == 46) = false := by simp; omega
                        have e45 : ((x : Int) == 45) = false := by simp; omega
                        have HM := Lib.hid (HNE.out (by omega))
                        clear d0 d1 d2 d3 d4 d5 d6 d7 d8
                        go_wp2_with fail
                        go_roundg (s.size - (k + 1))
                        case measure => have := HLT.out; omega
                        case rel => exact ⟨k + 1, rfl, HLT.out, by go_num, HM.out, rfl⟩
                      · have f97 : (97 : Int) ≤ (x : Int) := by omega
                        have f65 : (65 : Int) ≤ (x : Int) := by omega
                        have f48 : (48 : Int) ≤ (x : Int) := by omega
                        have g122 : (122 : Int) < (x : Int) := by omega
                        have z122 : decide ((x : Int) ≤ 122) = false := decide_eq_false (by omega)
                        have g90 : (90 : Int) < (x : Int) := by omega
                        have z90 : decide ((x : Int) ≤ 90) = false := decide_eq_false (by omega)
                        have g57 : (57 : Int) < (x : Int) := by omega
                        have z57 : decide ((x : Int) ≤ 57) = false := decide_eq_false (by omega)
                        have e46 : ((x : Int) == 46) = false := by simp; omega
                        have e45 : ((x : Int) == 45) = false := by simp; omega
                        clear d0 d1 d2 d3 d4 d5 d6 d7 d8
                        go_wp2_with fail
                        go_ret
                        exact ⟨false, rfl, fun h => (by cases h), HK.out⟩
    · obtain rfl : k = s.size := by have := HKN.out; omega
      clear hlt
      have HNA := Lib.hid (show (58 : UInt8) ∉ s.data.toList from by
        have h := HN.out
        rwa [List.take_of_length_le (by rw [HL.out]; exact Nat.le_refl _)] at h)
      cases he : s.toList.isEmpty
      · have he2 : (!s.toList.isEmpty) = true := by rw [he]; rfl
        by_cases h100 : s.size ≤ 100
        · have l0 : (s.size : Int) ≤ 100 := by omega
          have HS := Lib.hid h100
          clear h100
          go_wp2_with fail
          go_ret
          exact ⟨true, rfl, fun _ => ⟨HS.out, HNA.out⟩, HK.out⟩
        · have l0 : (100 : Int) < (s.size : Int) := by omega
          have l1 : decide ((s.size : Int) ≤ 100) = false := decide_eq_false (by omega)
          clear h100
          go_wp2_with fail
          go_ret
          exact ⟨false, rfl, fun h => (by cases h), HK.out⟩
      · have he2 : s.toList = [] := List.isEmpty_iff.1 he
        have he3 : (!s.toList.isEmpty) = false := by rw [he]; rfl
        go_wp2_with fail
        go_ret
        exact ⟨false, rfl, fun h => (by cases h), HK.out⟩
end Go.Proofs.YtmojecgmneodlaaDoor
