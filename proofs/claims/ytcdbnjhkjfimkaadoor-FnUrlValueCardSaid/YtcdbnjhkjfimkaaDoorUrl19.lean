/-
  laws.urlName; impl.options and impl.Url of one option.
-/
import Derived.Test.YtcdbnjhkjfimkaaDoorUrl18
namespace Go.Proofs.YtcdbnjhkjfimkaaDoor
open Go Go.RowKit

theorem alnum_of (c : UInt8) (x : Nat) (hx : x = c.toNat) (h : (48 ≤ x ∧ x ≤ 57) ∨ (65 ≤ x ∧ x ≤ 90) ∨ (97 ≤ x ∧ x ≤ 122)) : alnumB c = true := by
  unfold alnumB
  subst hx
  simp only [Bool.or_eq_true, Bool.and_eq_true, decide_eq_true_eq]
  omega
set_option maxRecDepth 100000 in
set_option maxHeartbeats 8000000 in
theorem urlName_any (s : ByteArray) (w : World) (hs : s.size ≤ 2147483647) :
    Calls Tryd.prog 47 #[.string s] w (TruePost (s.size ≤ 100 ∧ ∀ c ∈ s.data.toList, alnumB c = true) w) := by
  have i0 : (s.size : Int) ≤ 2147483647 := by omega
  have HC := Lib.hid (fun w1 c e m i hi => bytes_cell w1 s c e m i hi)
  have HL := Lib.hid (show s.data.toList.length = s.size from rfl)
  clear hs
  go_enter Tryd.func47, Tryd.ntmps47
  go_wp2_with fail
  rw [run_bytes_of_string w 9 26 5 s Tryd.underlying9 Tryd.underlying26 Tryd.underlying5]
  simp only [Result.andThen]
  rw [Oper.upon_value]
  generalize hX : w.drew.alloc (.cells (bytesRow s (grownCap w s.size 0 5)) 5 ((bytesRow s (grownCap w s.size 0 5)).size, (bytesRow s (grownCap w s.size 0 5)).size + 1)) = X
  have HK := Lib.hid (show Kp w X from hX ▸ (Kp.refl w).drew.alloc _)
  have HX := Lib.hid (fun i hi => (hX ▸ HC.out w _ _ _ i hi : X.cell? ⟨w.heap.size, i, none⟩ = some (.int .u8 ((s.data.toList.getD i 0).toNat : Int))))
  clear hX
  go_wp2_with fail
  go_loopg [8] s.size (fun G st wr => ∃ k : Nat, G = s.size - k ∧ k ≤ s.size ∧ st = .int .i64 (k : Int) ∧ (∀ c ∈ s.data.toList.take k, alnumB c = true) ∧ X = wr)
  case atStart => exact ⟨0, rfl, Nat.zero_le _, rfl, by simp, rfl⟩
  case round =>
    obtain ⟨k, rfl, hk, rfl, hn, rfl⟩ := hrel
    have HKN := Lib.hid hk
    have HN := Lib.hid hn
    have j0 : (0 : Int) ≤ (k : Int) := by omega
    have j1 : (k : Int) ≤ (s.size : Int) := by omega
    clear hk hn
    by_cases hlt : k < s.size
    · have j2 : (k : Int) < (s.size : Int) := by omega
      have d0 := HX.out k hlt
      have HLT := Lib.hid hlt
      obtain ⟨c, hc⟩ : ∃ c, c = s.data.toList.getD k 0 := ⟨_, rfl⟩
      have HTK := Lib.hid (show s.data.toList.take (k + 1) = s.data.toList.take k ++ [c] from by
        rw [List.take_succ_eq_append_getElem (by rw [HL.out]; exact hlt), hc, List.getD_eq_getElem?_getD, List.getElem?_eq_getElem (by rw [HL.out]; exact hlt)]; rfl)
      rw [← hc] at d0
      obtain ⟨x, hx⟩ : ∃ x, x = c.toNat := ⟨_, rfl⟩
      have x0 : (0 : Int) ≤ (x : Int) := by omega
      have x1 : (x : Int) < 256 := by have := c.toNat_lt; omega
      rw [← hx] at d0
      have HNE := Lib.hid (fun (h : (48 ≤ x ∧ x ≤ 57) ∨ (65 ≤ x ∧ x ≤ 90) ∨ (97 ≤ x ∧ x ≤ 122)) => (show ∀ c ∈ s.data.toList.take (k + 1), alnumB c = true from by
        rw [HTK.out]
        intro b hm
        rcases List.mem_append.1 hm with hm | hm
        · exact HN.out b hm
        · rw [List.mem_singleton] at hm
          rw [hm]
          exact alnum_of c x hx h))
      clear hlt hc hx
      by_cases d0 : x ≤ 47
      · have f97 : (x : Int) < 97 := by omega
        have f65 : (x : Int) < 65 := by omega
        have f48 : (x : Int) < 48 := by omega
        have g122 : (x : Int) ≤ 122 := by omega
        have g90 : (x : Int) ≤ 90 := by omega
        have g57 : (x : Int) ≤ 57 := by omega
        clear d0
        go_wp2_with fail
        go_ret
        exact ⟨false, rfl, fun h => (by cases h), HK.out⟩
      · skip
        by_cases d1 : x ≤ 57
        · have f97 : (x : Int) < 97 := by omega
          have f65 : (x : Int) < 65 := by omega
          have f48 : (48 : Int) ≤ (x : Int) := by omega
          have g122 : (x : Int) ≤ 122 := by omega
          have g90 : (x : Int) ≤ 90 := by omega
          have g57 : (x : Int) ≤ 57 := by omega
          have HM := Lib.hid (HNE.out (by omega))
          clear d0 d1
          go_wp2_with fail
          go_roundg (s.size - (k + 1))
          case measure => have := HLT.out; omega
          case rel => exact ⟨k + 1, rfl, HLT.out, by go_num, HM.out, rfl⟩
        · skip
          by_cases d2 : x ≤ 64
          · have f97 : (x : Int) < 97 := by omega
            have f65 : (x : Int) < 65 := by omega
            have f48 : (48 : Int) ≤ (x : Int) := by omega
            have g122 : (x : Int) ≤ 122 := by omega
            have g90 : (x : Int) ≤ 90 := by omega
            have g57 : (57 : Int) < (x : Int) := by omega
            have z57 : decide ((x : Int) ≤ 57) = false := decide_eq_false (by omega)
            clear d0 d1 d2
            go_wp2_with fail
            go_ret
            exact ⟨false, rfl, fun h => (by cases h), HK.out⟩
          · skip
            by_cases d3 : x ≤ 90
            · have f97 : (x : Int) < 97 := by omega
              have f65 : (65 : Int) ≤ (x : Int) := by omega
              have f48 : (48 : Int) ≤ (x : Int) := by omega
              have g122 : (x : Int) ≤ 122 := by omega
              have g90 : (x : Int) ≤ 90 := by omega
              have g57 : (57 : Int) < (x : Int) := by omega
              have z57 : decide ((x : Int) ≤ 57) = false := decide_eq_false (by omega)
              have HM := Lib.hid (HNE.out (by omega))
              clear d0 d1 d2 d3
              go_wp2_with fail
              go_roundg (s.size - (k + 1))
              case measure => have := HLT.out; omega
              case rel => exact ⟨k + 1, rfl, HLT.out, by go_num, HM.out, rfl⟩
            · skip
              by_cases d4 : x ≤ 96
              · have f97 : (x : Int) < 97 := by omega
                have f65 : (65 : Int) ≤ (x : Int) := by omega
                have f48 : (48 : Int) ≤ (x : Int) := by omega
                have g122 : (x : Int) ≤ 122 := by omega
                have g90 : (90 : Int) < (x : Int) := by omega
                have z90 : decide ((x : Int) ≤ 90) = false := decide_eq_false (by omega)
                have g57 : (57 : Int) < (x : Int) := by omega
                have z57 : decide ((x : Int) ≤ 57) = false := decide_eq_false (by omega)
                clear d0 d1 d2 d3 d4
                go_wp2_with fail
                go_ret
                exact ⟨false, rfl, fun h => (by cases h), HK.out⟩
              · skip
                by_cases d5 : x ≤ 122
                · have f97 : (97 : Int) ≤ (x : Int) := by omega
                  have f65 : (65 : Int) ≤ (x : Int) := by omega
                  have f48 : (48 : Int) ≤ (x : Int) := by omega
                  have g122 : (x : Int) ≤ 122 := by omega
                  have g90 : (90 : Int) < (x : Int) := by omega
                  have z90 : decide ((x : Int) ≤ 90) = false := decide_eq_false (by omega)
                  have g57 : (57 : Int) < (x : Int) := by omega
                  have z57 : decide ((x : Int) ≤ 57) = false := decide_eq_false (by omega)
                  have HM := Lib.hid (HNE.out (by omega))
                  clear d0 d1 d2 d3 d4 d5
                  go_wp2_with fail
                  go_roundg (s.size - (k + 1))
                  case measure => have := HLT.out; omega
                  case rel => exact ⟨k + 1, rfl, HLT.out, by go_num, HM.out, rfl⟩
                · skip
                  have f97 : (97 : Int) ≤ (x : Int) := by omega
                  have f65 : (65 : Int) ≤ (x : Int) := by omega
                  have f48 : (48 : Int) ≤ (x : Int) := by omega
                  have g122 : (122 : Int) < (x : Int) := by omega
                  have z122 : decide ((x : Int) ≤ 122) = false := decide_eq_false (by omega)
                  have g90 : (90 : Int) < (x : Int) := by omega
                  have z90 : decide ((x : Int) ≤ 90) = false := decide_eq_false (by omega)
                  have g57 : (57 : Int) < (x : Int) := by omega
                  have z57 : decide ((x : Int) ≤ 57) = false := decide_eq_false (by omega)
                  clear d0 d1 d2 d3 d4 d5
                  go_wp2_with fail
                  go_ret
                  exact ⟨false, rfl, fun h => (by cases h), HK.out⟩
    · obtain rfl : k = s.size := by have := HKN.out; omega
      clear hlt
      have HNA := Lib.hid (show ∀ c ∈ s.data.toList, alnumB c = true from by
        have h := HN.out
        rwa [List.take_of_length_le (by rw [HL.out]; exact Nat.le_refl _)] at h)
      cases he : s.toList.isEmpty
      · have he2 : (!s.toList.isEmpty) = true := by rw [he]; rfl
        by_cases h100 : s.size ≤ 100
        · have l0 : (s.size : Int) ≤ 100 := by omega
          have HS := Lib.hid h100
          clear h100
          go_wp2_with fail
          go_ret
          exact ⟨true, rfl, fun _ => ⟨HS.out, HNA.out⟩, HK.out⟩
        · have l0 : (100 : Int) < (s.size : Int) := by omega
          have l1 : decide ((s.size : Int) ≤ 100) = false := decide_eq_false (by omega)
          clear h100
          go_wp2_with fail
          go_ret
          exact ⟨false, rfl, fun h => (by cases h), HK.out⟩
      · have he2 : s.toList = [] := List.isEmpty_iff.1 he
        have he3 : (!s.toList.isEmpty) = false := by rw [he]; rfl
        go_wp2_with fail
        go_ret
        exact ⟨false, rfl, fun h => (by cases h), HK.out⟩
def OneOpt (nm v : ByteArray) (w : World) (e : Ending) (w' : World) : Prop := ∃ b, e = .returned (.map (some b)) ∧ oneMap b nm.data.toList v.data.toList w' ∧ Kp w w'
set_option maxRecDepth 100000 in
set_option maxHeartbeats 4000000 in
theorem options_one (nm v : ByteArray) (g c : Nat) (w : World) (hn : nm.size ≤ 300) (hv : v.size ≤ 300) (hb : Blk w g 80 #[.string nm, .string v]) (hc : 1 ≤ c) :
    Calls Tryd.prog 82 #[.slice (some ⟨g, 0, none⟩) 1 c] w (OneOpt nm v w) := by
  have hmm := @run_makeMap Tryd.prog
  have c0 : w.cell? ⟨g, 0, none⟩ = some (.string nm) := hb.cell 0
  have c1 : w.cell? ⟨g, 1, none⟩ = some (.string v) := hb.cell 1
  have HV := Lib.hid (And.intro hn hv)
  have HGL := Lib.hid hb.lt
  have HBK := Lib.hid hb
  have ic : (1 : Int) ≤ (c : Int) := by omega
  clear hn hv hb hc
  go_enter Tryd.func82, Tryd.ntmps82
  have hown := World.ownsMap_made (H := Unit) w Tryd.prog 9 (plainElem Tryd.prog 9)
  have hval : plainElem (H := Unit) Tryd.prog 9 (.string v) = some (.lit (.string v.data.toList), []) := plainElem_string Tryd.underlying9 (by have := HV.out; unfold maxLen; omega)
  have hkey : keyOf Tryd.prog 9 (.string nm) = some (.string nm.data.toList) := by
    have hz : nm.size ≤ 9223372036854775807 := by have := HV.out; omega
    simp [keyOf, Tryd.underlying9, mapKey, maxLen, hz]
  have HOWN := Lib.hid hown
  have HVAL := Lib.hid hval
  have HKEY := Lib.hid hkey
  clear hown hval hkey
  go_wp2_with fail
  obtain ⟨B, hB⟩ : ∃ B, B = w.heap.size := ⟨_, rfl⟩
  have HX := Lib.hid (show (w.alloc (.map #[] 0)).ownsMap Tryd.prog 9 (plainElem (H := Unit) Tryd.prog 9) B 0 (.map []) from hB ▸ HOWN.out)
  have HKX := Lib.hid (show Kp w (w.alloc (.map #[] 0)) from (Kp.refl w).alloc _)
  have HBW := Lib.hid (show w.heap.size ≤ B from by rw [hB]; exact Nat.le_refl _)
  rw [← hB]
  generalize w.alloc (.map #[] 0) = X at HX HKX
  clear hB c0 c1
  go_loopg [12] 1 (fun G s12 wr => ∃ j : Nat, 1 - j = G ∧ j ≤ 1 ∧ s12 = .int .i64 (j : Int) ∧ ((j = 0 ∧ X = wr) ∨ (j = 1 ∧ oneMap B nm.data.toList v.data.toList wr)) ∧ Kp w wr)
  case atStart => exact ⟨0, rfl, Nat.zero_le _, rfl, .inl ⟨rfl, rfl⟩, HKX.out⟩
  case round =>
    obtain ⟨j, rfl, hj, rfl, hst, hkw⟩ := hrel
    have HKW := Lib.hid hkw
    rcases hst with ⟨rfl, rfl⟩ | ⟨rfl, hst⟩
    · have c0 : X.cell? ⟨g, 0, none⟩ = some (.string nm) := (HBK.out.kp hkw).cell 0
      have c1 : X.cell? ⟨g, 1, none⟩ = some (.string v) := (HBK.out.kp hkw).cell 1
      clear hkw hj
      have hval : plainElem (H := Unit) Tryd.prog 9 (.string v) = some (.lit (.string v.data.toList), []) := HVAL.out
      have hkey : keyOf Tryd.prog 9 (.string nm) = some (.string nm.data.toList) := HKEY.out
      go_wp2_with (first
        | (at_mapUpdate; refine wpList_mapUpdate_own _ rfl _ _ _ 143 rfl 9 9 (Maps.string_keyed Tryd.underlying9) Tryd.underlying143 _ B 0 _ rfl (HX.out.alloc _) (by unfold maxLen; omega) _ _ _ rfl rfl hkey _ [] hval ?_; intro w1 ho1 hg1; have HO1 := Lib.hid ho1; have HG1 := Lib.hid hg1; clear ho1 hg1 hval hkey)
        | fail)
      go_roundg 0
      case measure => omega
      case rel => exact ⟨1, rfl, Nat.le_refl _, rfl, .inr ⟨rfl, HO1.out⟩, (HKW.out.alloc _).grown HG1.out (fun k hk => by injection hk with hk; rw [← hk]; exact HBW.out)⟩
    · have HST := Lib.hid hst
      clear hst hkw hj
      go_wp2_with fail
      go_ret
      exact ⟨B, rfl, HST.out, HKW.out⟩
set_option maxRecDepth 100000 in
set_option maxHeartbeats 4000000 in
theorem url_one (nm v : ByteArray) (g c : Nat) (w : World) (ht : UTab w) (hsp : spTab w) (hn : nm.size ≤ 300) (kpl : plainL nm.data.toList = true) (hup : ((⟨(Lib.toUpperA nm.data.toList).toArray⟩ : ByteArray).toList == [83, 69, 82, 86, 69, 82]) = false) (hv : v.size ≤ 300) (hvp : ∀ c ∈ v.data.toList, printB c = true) (hb : Blk w g 80 #[.string nm, .string v]) (hc : 1 ≤ c) :
    Calls Tryd.prog 49 #[.string ⟨#[104]⟩, .int .i64 1, .string ⟨#[]⟩, .string ⟨#[]⟩, .string ⟨#[]⟩, .slice (some ⟨g, 0, none⟩) 1 c] w (OneUrl (headS ⟨#[104]⟩ 1 ⟨#[]⟩ ⟨#[]⟩ ⟨#[]⟩).data.toList nm.data.toList v.data.toList w) := by
  have CO := Lib.hid (options_one nm v g c w hn hv hb hc)
  have CB := Lib.hid (fun b w1 (hk : Kp w w1) (ho : oneMap b nm.data.toList v.data.toList w1) => buildUrl_one ⟨#[104]⟩ ⟨#[]⟩ ⟨#[]⟩ ⟨#[]⟩ nm v 1 b w1 (ht.kp hk) (hsp.kp hk) (itoa_one w1) (by decide) (by decide) (by decide) (by decide) (by omega) (by omega) hn kpl hup hv hvp ho)
  clear ht hsp hn kpl hup hv hvp hb hc
  go_enter Tryd.func49, Tryd.ntmps49
  go_wp2_with fail
  refine CO.out.mono ?_
  rintro e w1 ⟨b, rfl, ho, hk⟩
  have HK := Lib.hid hk
  have CB2 := Lib.hid (CB.out b w1 hk ho)
  clear ho hk CO CB
  go_wp2_with fail
  refine CB2.out.mono ?_
  rintro e w2 ⟨X, rfl, hX, hk⟩
  have HX := Lib.hid hX
  have HK2 := Lib.hid (HK.out.trans hk)
  clear hX hk CB2
  go_wp2_with fail
  go_ret
  exact ⟨X, rfl, HX.out, HK2.out⟩
end Go.Proofs.YtcdbnjhkjfimkaaDoor
