/-
  BuildUrl with a map of one entry.
-/
import Derived.Test.YtcdbnjhkjfimkaaDoorUrl11
import Derived.Test.YtcdbnjhkjfimkaaDoorUrl4
import Derived.Test.YtcdbnjhkjfimkaaDoorCfg3
import Derived.Maps.StringElems
import Derived.Maps.RangeWalk
namespace Go.Proofs.YtcdbnjhkjfimkaaDoor
open Go Go.RowKit

theorem kp_grownBy {a b : World} (h : Kp a b) (row : Option Nat) : a.grownBy b row := ⟨h.os, h.tape, h.output, h.size, fun i hi _ => h.block i hi⟩
def ampL : List (List UInt8) → List UInt8
  | [] => []
  | [x] => x
  | x :: y :: t => x ++ [38] ++ ampL (y :: t)
theorem amp_flat : ∀ L : List (List UInt8), L ≠ [] → L.flatMap (fun x => x ++ [38]) = ampL L ++ [38]
  | [], h => absurd rfl h
  | [x], _ => by simp [ampL]
  | x :: y :: t, _ => by
    have ih := amp_flat (y :: t) (by simp)
    rw [List.flatMap_cons, ih]
    simp [ampL]
def spTab (w : World) : Prop := Lib.TabIs Tryd.prog w "strings.asciiSpace" .u8 Lib.asciiSpaceTab
theorem spTab.kp {w w' : World} (h : spTab w) (hk : Kp w w') : spTab w' := TabIs_below (g := 2) (by kernel_rfl) h hk
def oneMap (b : Nat) (key val : List UInt8) (w : World) : Prop := w.ownsMap Tryd.prog 9 (plainElem (H := Unit) Tryd.prog 9) b 1 (.map [(.string key, .lit (.string val))])
theorem str_inv {key : Value} {kl : Lit} (h : keyOf Tryd.prog 9 key = some kl) : ∃ x, key = .string x := by
  cases key <;> simp [keyOf, Tryd.underlying9, mapKey] at h
  exact ⟨_, rfl⟩
abbrev oneD (key val : List UInt8) : DataW Unit := .map [(.string key, .lit (.string val))]
theorem one_came {key val : List UInt8} {x c : ByteArray} {kl : Lit} {y : DataW Unit × List MemPlace} (hk : keyOf Tryd.prog 9 (.string x) = some kl) (hl : Maps.has (oneD key val) kl = true) (hv : plainElem Tryd.prog 9 (.string c) = some y) (ha : ∀ zd, (oneD key val).atKey kl zd = y.1) :
    x.data.toList = key ∧ c.data.toList = val ∧ ∀ z, (Maps.has (oneD key val) z && !z.sameKey kl) = false := by
  obtain ⟨c', e, rfl, _⟩ := plainElem_string_inv Tryd.underlying9 hv
  cases e
  have hkl : kl = .string x.data.toList := by
    simp [keyOf, Tryd.underlying9, mapKey] at hk
    exact hk.2.symm
  subst hkl
  have hx : key = x.data.toList := by
    have h2 : (Lit.string key).sameKey (.string x.data.toList) = true := by
      rw [Maps.has_eq] at hl
      simpa using hl
    by_cases e : (Lit.string key) = .string x.data.toList
    · injection e
    · rw [Maps.sameKey_ne e] at h2; cases h2
  subst hx
  refine ⟨rfl, ?_, fun z => ?_⟩
  · have h3 := ha (.lit (.string []))
    simp [DataW.atKey, Lit.sameKey] at h3
    exact h3.symm
  · rw [Maps.has_eq]
    by_cases e : z = .string x.data.toList
    · subst e; simp [Lit.sameKey]
    · have h4 := Maps.sameKey_ne (a := Lit.string x.data.toList) (b := z) (fun h => e h.symm)
      simp [h4]
def RSt (b r : Nat) (hd key val : List UInt8) (w : World) (j : Nat) (A : ByteArray) (wr : World) : Prop := ∃ (left : Lit → Bool) (cnt : Nat), wr.ranges Tryd.prog 9 (plainElem (H := Unit) Tryd.prog 9) b r 1 (oneD key val) left cnt ∧ Kp w wr ∧ w.heap.size ≤ r ∧ A.size ≤ 500000 ∧
  (j = 0 ∧ A.data.toList = hd ++ [63] ∧ left = Maps.has (oneD key val) ∨ j = 1 ∧ A.data.toList = hd ++ [63] ++ ((splitC (trimB val)).map (optL key)).flatMap (fun x => x ++ [38]) ∧ ∀ kl, left kl = false)
theorem one_has (key val : List UInt8) : Maps.has (oneD key val) (.string key) = true := by
  simp [Maps.has, Lit.sameKey]
theorem esc_amp : ∀ (l : List UInt8), ∀ c ∈ escL true l, c ≠ 38
  | [], c, h => by cases h
  | b :: l, c, h => by
    rw [escL, List.flatMap_cons] at h
    rcases List.mem_append.1 h with h | h
    · have : ∀ b : Fin 256, ∀ c ∈ escB true (UInt8.ofNat b.val), c ≠ 38 := by decide +kernel
      have h2 := this ⟨b.toNat, b.toNat_lt⟩ c
      rw [show UInt8.ofNat b.toNat = b from by simp] at h2
      exact h2 h
    · exact esc_amp l c h
theorem opt_last (nm q : List UInt8) : ∃ m c, optL nm q = m ++ [c] ∧ c ≠ 38 := by
  rcases List.eq_nil_or_concat (escL true (trimB q)) with h | ⟨m, c, h⟩
  · exact ⟨nm, 61, by simp [optL, escS, h], by decide⟩
  · exact ⟨nm ++ [61] ++ m, c, by simp [optL, escS, h], esc_amp (trimB q) c (by rw [h]; simp)⟩
theorem amp_last (nm : List UInt8) : ∀ L : List (List UInt8), L ≠ [] → ∃ m c, ampL (L.map (optL nm)) = m ++ [c] ∧ c ≠ 38
  | [], h => absurd rfl h
  | [x], _ => by
    obtain ⟨m, c, h1, h2⟩ := opt_last nm x
    exact ⟨m, c, by simpa [ampL] using h1, h2⟩
  | x :: y :: t, _ => by
    obtain ⟨m, c, h1, h2⟩ := amp_last nm (y :: t) (by simp)
    exact ⟨optL nm x ++ [38] ++ m, c, by
      rw [List.map_cons, List.map_cons, ampL, ← List.map_cons, h1]; simp, h2⟩
theorem trim_amp {hd nm val : List UInt8} (A : ByteArray) (k : Nat) (hA : A.data.toList = hd ++ [63] ++ ((splitC (trimB val)).map (optL nm)).flatMap (fun x => x ++ [38])) (hk : k ≤ A.size) (hall : ∀ i, k ≤ i → i < A.size → A.data.toList.getD i 0 = 38) (hl : k = 0 ∨ A.data.toList.getD (k - 1) 0 ≠ 38) :
    (A.extract 0 k).data.toList = hd ++ [63] ++ ampL ((splitC (trimB val)).map (optL nm)) := by
  rw [amp_flat _ (by simp [splitC_ne])] at hA
  obtain ⟨m, c, h1, h2⟩ := amp_last nm (splitC (trimB val)) (splitC_ne _)
  rw [h1] at hA ⊢
  have hs : A.size = (hd ++ [63] ++ m).length + 2 := by
    have : A.data.toList.length = A.size := rfl
    rw [← this, hA]; simp; omega
  have g1 : A.data.toList.getD (hd ++ [63] ++ m).length 0 = c := by
    rw [hA, List.getD_eq_getElem?_getD]; simp
  have g2 : A.data.toList.getD ((hd ++ [63] ++ m).length + 1) 0 = 38 := by
    have e : (hd ++ [63] ++ m).length + 1 = (hd ++ [63] ++ m ++ [c]).length := Eq.symm (by rw [List.length_append]; rfl)
    rw [hA, show hd ++ [63] ++ (m ++ [c] ++ [38]) = (hd ++ [63] ++ m ++ [c]) ++ [38] by simp, e, List.getD_eq_getElem?_getD, List.getElem?_concat_length]; rfl
  generalize hn : (hd ++ [63] ++ m).length = n at hs g1 g2
  have e1 : ¬ k ≤ n := fun h => h2 (by rw [← g1]; exact hall n h (by omega))
  have e2 : k ≠ n + 2 := fun h => by
    rcases hl with h0 | h0
    · omega
    · apply h0; rw [h]; exact g2
  obtain rfl : k = n + 1 := by omega
  rw [Lib.extract_data, List.drop_zero, Nat.sub_zero, hA, show hd ++ [63] ++ (m ++ [c] ++ [38]) = (hd ++ [63] ++ m ++ [c]) ++ [38] by simp, List.take_append_of_le_length (by simp at hn ⊢; omega), List.take_of_length_le (by simp at hn ⊢; omega)]
  simp
def OneUrl (hd : List UInt8) (key val : List UInt8) (w : World) (e : Ending) (w' : World) : Prop := ∃ X : ByteArray, e = .returned (.string X) ∧ X.data.toList = hd ++ [63] ++ ampL ((splitC (trimB val)).map (optL key)) ∧ Kp w w'
set_option maxRecDepth 100000 in
set_option maxHeartbeats 4000000 in
theorem buildUrl_one (h sv us pw key val : ByteArray) (p : Int) (b : Nat) (w : World) (ht : UTab w) (hsp : spTab w) (hi : ItoaAt p w) (hh : h.size ≤ 100) (h1 : sv.size ≤ 300) (h2 : us.size ≤ 300) (h3 : pw.size ≤ 300) (p0 : -9223372036854775808 ≤ p) (p1 : p ≤ 9223372036854775807)
    (hk : key.size ≤ 300) (kpl : plainL key.data.toList = true) (hup : ((⟨(Lib.toUpperA key.data.toList).toArray⟩ : ByteArray).toList == [83, 69, 82, 86, 69, 82]) = false) (hv : val.size ≤ 300) (hvp : ∀ c ∈ val.data.toList, printB c = true) (hown : oneMap b key.data.toList val.data.toList w) :
    Calls Tryd.prog 83 #[.string h, .int .i64 p, .string sv, .string us, .string pw, .map (some b)] w (OneUrl (headS h p sv us pw).data.toList key.data.toList val.data.toList w) := by
  have HSP := Lib.hid hsp
  have HOWN := Lib.hid hown
  have HV := Lib.hid (And.intro hv hvp)
  have CU := Lib.hid (fun w1 => upper_any key w1 hk kpl)
  have i5 : (key.size : Int) ≤ 300 := by omega
  have HT := Lib.hid ht
  have HI := Lib.hid hi
  have C1 := Lib.hid (fun w1 (hk : Kp w w1) => pathEscape_any us w1 (ht.kp hk) h2)
  have C2 := Lib.hid (fun w1 (hk : Kp w w1) => pathEscape_any pw w1 (ht.kp hk) h3)
  have C3 := Lib.hid (fun w1 (hk : Kp w w1) => pathEscape_any sv w1 (ht.kp hk) h1)
  have C4 := Lib.hid (fun w1 => join_any h p (by omega) p0 p1 w1)
  have hns := netS_size h p p0 p1
  have s1 := escS_le false us
  have s2 := escS_le false pw
  have s3 := escS_le false sv
  have HE := Lib.hid (show headS h p sv us pw = (((((((⟨#[111, 114, 97, 99, 108, 101, 58, 47, 47]⟩ : ByteArray) ++ escS false us) ++ ⟨#[58]⟩) ++ escS false pw) ++ ⟨#[64]⟩) ++ netS h p) ++ ⟨#[47]⟩) ++ escS false sv from rfl)
  generalize headS h p sv us pw = R at HE ⊢
  generalize escS false us = U at HE C1 s1
  generalize escS false pw = V at HE C2 s2
  generalize escS false sv = X at HE C3 s3
  generalize netS h p = N at HE C4 hns
  have i1 : (U.size : Int) ≤ 900 := by omega
  have i2 : (V.size : Int) ≤ 900 := by omega
  have i3 : (X.size : Int) ≤ 900 := by omega
  have i4 : (N.size : Int) ≤ 124 := by omega
  have hil := itoa_len p p0 p1
  have HP := Lib.hid (And.intro p0 p1)
  have hnil := fun (w : World) => run_neq_map_nil (P := Tryd.prog) w 143 9 9 (some b) Tryd.underlying143
  generalize (⟨(Lib.toUpperA key.data.toList).toArray⟩ : ByteArray) = up at CU hup
  clear ht hi hh h1 h2 h3 hns s1 s2 s3 p0 p1 hil hsp hown hv hvp hk kpl
  go_enter Tryd.func83, Tryd.ntmps83
  go_wp2_with fail
  refine (C1.out _ (Kp.refl _)).mono ?_
  rintro e w1 ⟨rfl, hk1⟩
  have HK1 := Lib.hid hk1
  clear hk1
  go_wp2_with fail
  refine (C2.out _ HK1.out).mono ?_
  rintro e w2 ⟨rfl, hk2⟩
  have HK2 := Lib.hid (HK1.out.trans hk2)
  clear hk2
  go_wp2_with fail
  refine (HI.out _ HK2.out).mono ?_
  rintro e w3 ⟨rfl, hk3⟩
  have HK3 := Lib.hid (HK2.out.trans hk3)
  clear hk3
  go_wp2_with fail
  refine (C4.out _).mono ?_
  rintro e w4 ⟨rfl, rfl⟩
  go_wp2_with fail
  refine (C3.out _ HK3.out).mono ?_
  rintro e w5 ⟨rfl, hk5⟩
  have HK5 := Lib.hid (HK3.out.trans hk5)
  clear hk5
  have HO5 := Lib.hid (show oneMap b key.data.toList val.data.toList w5 from HOWN.out.kept (kp_grownBy HK5.out none) (by simp))
  have hown5 := HO5.out
  unfold oneMap at hown5
  go_wp2_with (first
    | (at_range; refine wpList_range_own _ rfl _ 143 rfl 9 9 (Maps.string_keyed Tryd.underlying9) Tryd.underlying143 _ b 1 _ rfl hown5 ?_; intro w6 hrg0 hg0 hs0)
    | fail)
  go_frame
  obtain ⟨r, hr⟩ : ∃ r, r = w5.heap.size := ⟨_, rfl⟩
  rw [← hr] at hrg0 ⊢
  have HK6 := Lib.hid (show Kp w w6 from HK5.out.grown hg0 (by simp))
  have HRS := Lib.hid (show R.size ≤ 2900 from by
    rw [HE.out]
    simp only [ByteArray.size_append]
    have e : (⟨#[111, 114, 97, 99, 108, 101, 58, 47, 47]⟩ : ByteArray).size = 9 := rfl
    have e2 : (⟨#[58]⟩ : ByteArray).size = 1 := rfl
    have e3 : (⟨#[64]⟩ : ByteArray).size = 1 := rfl
    have e4 : (⟨#[47]⟩ : ByteArray).size = 1 := rfl
    omega)
  have HST := Lib.hid (show RSt b r R.data.toList key.data.toList val.data.toList w 0 (R ++ ⟨#[63]⟩) w6 from ⟨_, _, hrg0, HK6.out, by have := HK5.out.size; omega, (by have := HRS.out; rw [ByteArray.size_append]; show _ + 1 ≤ _; omega), .inl ⟨rfl, by rw [data_add], rfl⟩⟩)
  clear hr hrg0 hg0 hs0 hown5
  go_loopg [13] 1 (fun G s13 wr => ∃ (j : Nat) (A : ByteArray), 1 - j = G ∧ s13 = .string A ∧ RSt b r R.data.toList key.data.toList val.data.toList w j A wr)
  case atStart => exact ⟨0, R ++ ⟨#[63]⟩, rfl, by rw [HE.out], HST.out⟩
  case round =>
    obtain ⟨j, A, rfl, rfl, hst⟩ := hrel
    obtain ⟨left, cnt, hrg, hkw, hrw, has, hst⟩ := hst
    have HAS := Lib.hid has
    have HKW := Lib.hid hkw
    have HRW := Lib.hid hrw
    have HST2 := Lib.hid hst
    clear hkw hrw hst HST has
    go_wp2_with (first
      | (at_next; refine wpList_next_ranges _ rfl _ rfl 9 (Maps.string_keyed Tryd.underlying9) (plainElem (H := Unit) Tryd.prog 9) Value.string Value.string (fun key kl hk => str_inv hk) (fun v y hv => by obtain ⟨c, rfl, _⟩ := plainElem_string_inv Tryd.underlying9 hv; exact ⟨c, rfl⟩) b r 1 _ _ _ rfl hrg ?_ ?_)
      | fail)
    · intro _ hl0
      rcases HST2.out with ⟨rfl, _, rfl⟩ | ⟨rfl, hA, _⟩
      · have h1 := hl0 (.string key.data.toList)
        rw [one_has] at h1
        cases h1
      have HA := Lib.hid hA
      clear hl0 hrg hA
      go_wp2_with fail
      refine (zzTrimRight_any A _ (by have := HAS.out; omega)).mono ?_
      rintro e w7 ⟨k, hkl, rfl, hall, hlast, hk7⟩
      have HT := Lib.hid (trim_amp A k HA.out hkl hall hlast)
      have HK7 := Lib.hid (HKW.out.trans hk7)
      clear hkl hall hlast hk7
      go_wp2_with fail
      go_ret
      exact ⟨_, rfl, HT.out, HK7.out⟩
    · intro x c kl yd yp w7 cnt1 hkx hlx hvy hat hrg1 hlt hg1 hs1 hen
      rcases HST2.out with ⟨rfl, hA, rfl⟩ | ⟨rfl, _, hno⟩
      rotate_left
      · rw [hno kl] at hlx; cases hlx
      obtain ⟨ex, ec, hstr⟩ := one_came hkx hlx hvy hat
      obtain rfl : key = x := (Go.WideShapes.bytes_inj ex).symm
      obtain rfl : val = c := (Go.WideShapes.bytes_inj ec).symm
      have HK7 := Lib.hid (show Kp w w7 from HKW.out.grown hg1 (fun k hk => by injection hk with hk; have := HRW.out; omega))
      have HRG := Lib.hid hrg1
      have HSTR := Lib.hid hstr
      have HA := Lib.hid hA
      clear hkx hlx hvy hat hrg1 hlt hg1 hs1 ex ec hrg hstr hA HST2
      go_wp2_with fail
      refine (trimSpace_any val _ (by have := HV.out.1; omega) HV.out.2 (HSP.out.kp HK7.out)).mono ?_
      rintro e w8 ⟨rfl, hk8⟩
      have HK8 := Lib.hid hk8
      obtain ⟨tv, htv⟩ : ∃ tv : ByteArray, tv = ⟨(trimB val.data.toList).toArray⟩ := ⟨_, rfl⟩
      have HTV := Lib.hid (show tv.data.toList = trimB val.data.toList by rw [htv])
      have htl : (trimB val.data.toList).length ≤ 300 := by
        have h1 := trimB_len val.data.toList
        have h2 : val.data.toList.length = val.size := rfl
        have h3 := HV.out.1
        omega
      have HTL := Lib.hid htl
      clear hk8
      go_wp2_with fail
      rw [← htv]
      refine (zzSplit_any tv _ (by rw [htv]; show (trimB val.data.toList).length ≤ 1000; omega)).mono ?_
      rintro e w9 ⟨v, rfl, hrow, hk9⟩
      have HK9 := Lib.hid (HK8.out.trans hk9)
      have HTS := Lib.hid (show tv.data.toList = trimB val.data.toList by rw [htv])
      obtain ⟨g, cap, rfl⟩ : ∃ g cap, v = .slice (some ⟨g, 0, none⟩) (splitC tv.data.toList).length cap := by
        rcases hrow.2 with ⟨_, h⟩ | ⟨g, cap, cur, h, _⟩
        · exact absurd (List.length_eq_zero_iff.1 h) (splitC_ne _)
        · exact ⟨g, cap, h⟩
      rw [HTS.out] at hrow ⊢
      have hsc := splitC_count (trimB val.data.toList)
      have hsl := fun q hq => splitC_len (trimB val.data.toList) q hq
      have hsm := fun q hq c hc => HV.out.2 c (trimB_mem _ c (splitC_mem (trimB val.data.toList) q hq c hc))
      have HSTR2 := Lib.hid (fun (A' : ByteArray) (wx : World) (hk : Kp w9 wx) (hA' : A'.data.toList = R.data.toList ++ [63] ++ ((splitC (trimB val.data.toList)).map (optL key.data.toList)).flatMap (fun x => x ++ [38])) (hs : A'.size ≤ 500000) => (show RSt b r R.data.toList key.data.toList val.data.toList w 1 A' wx from
        ⟨_, _, HRG.out.kept (kp_grownBy (HK9.out.trans hk) none) (by simp) (by simp), (HK7.out.trans HK9.out).trans hk, HRW.out, hs, .inr ⟨rfl, hA', HSTR.out⟩⟩))
      obtain ⟨L, hL⟩ : ∃ L, L = splitC (trimB val.data.toList) := ⟨_, rfl⟩
      rw [← hL] at hrow hsc hsl hsm HSTR2 ⊢
      obtain ⟨n, hn⟩ : ∃ n, n = L.length := ⟨_, rfl⟩
      rw [← hn] at hrow hsc ⊢
      have HN := Lib.hid hn
      have HROW := Lib.hid hrow
      have HLEN := Lib.hid hsl
      have HPR := Lib.hid hsm
      have n0 : (n : Int) ≤ 301 := by have := HTL.out; omega
      have HAZ := Lib.hid (show A.size ≤ 3000 from by
        have h1 := congrArg List.length HA.out
        have h2 : A.data.toList.length = A.size := rfl
        have h3 : R.data.toList.length = R.size := rfl
        have h4 := HRS.out
        rw [List.length_append, h2, h3] at h1
        simp at h1
        omega)
      clear hk9 hsc hsl hsm hL hrow hn htv htl HTS HSTR HTV hen
      go_wp2_with fail
      go_loopg [13, 51] n (fun G s13 s51 wr => ∃ (i : Nat) (A' : ByteArray), n - i = G ∧ i ≤ n ∧ s13 = .string A' ∧ s51 = .int .i64 (i : Int) ∧ A'.data.toList = R.data.toList ++ [63] ++ ((L.take i).map (optL key.data.toList)).flatMap (fun x => x ++ [38]) ∧ A'.size ≤ 3000 + 1300 * i ∧ Kp w9 wr)
      case atStart => exact ⟨0, A, rfl, Nat.zero_le _, rfl, rfl, by rw [HA.out]; simp, HAZ.out, Kp.refl _⟩
      case round =>
        obtain ⟨i, A', rfl, hi, rfl, rfl, hA', hAs, hkx⟩ := hrel
        have HI := Lib.hid hi
        have HA2 := Lib.hid hA'
        have HAS2 := Lib.hid hAs
        have HKX := Lib.hid hkx
        have j0 : (0 : Int) ≤ (i : Int) := by omega
        have j1 : (i : Int) ≤ (n : Int) := by omega
        have a0 : (A'.size : Int) ≤ 500000 := by omega
        clear hi hA' hAs
        by_cases hlt : i < n
        · have j2 : (i : Int) < (n : Int) := by omega
          have HLT := Lib.hid hlt
          have hlt' : i < L.length := by rw [← HN.out]; exact hlt
          have d0 := (HROW.out.kp hkx).at i hlt'
          have eL : L[i] = L.getD i [] := by rw [List.getD_eq_getElem?_getD, List.getElem?_eq_getElem hlt']; rfl
          obtain ⟨q, hq⟩ : ∃ q, q = L.getD i [] := ⟨_, rfl⟩
          have hqm : q ∈ L := by rw [hq, ← eL]; exact List.getElem_mem _
          have hql := HLEN.out q hqm
          have hqp := HPR.out q hqm
          rw [← hq] at d0
          obtain ⟨B, hB⟩ : ∃ B : ByteArray, B = ⟨q.toArray⟩ := ⟨_, rfl⟩
          rw [← hB] at d0
          have hBd : B.data.toList = q := by rw [hB]
          have hBs : B.size ≤ 300 := by
            have h1 : B.data.toList.length = B.size := rfl
            rw [hBd] at h1
            have := HTL.out
            omega
          have CT := Lib.hid (fun wx (hk : Kp w9 wx) => trimSpace_any B wx (by omega) (by rw [hBd]; exact hqp) (HSP.out.kp ((HK7.out.trans HK9.out).trans hk)))
          obtain ⟨D, hD⟩ : ∃ D : ByteArray, D = ⟨(trimB q).toArray⟩ := ⟨_, rfl⟩
          rw [hBd, ← hD] at CT
          have hDs : D.size ≤ 300 := by
            have h1 : D.size = (trimB q).length := by rw [hD]; rfl
            have := trimB_len q
            have := HTL.out
            omega
          have CQ := Lib.hid (fun wx (hk : Kp w9 wx) => queryEscape_any D wx (HT.out.kp ((HK7.out.trans HK9.out).trans hk)) hDs)
          obtain ⟨E, hE⟩ : ∃ E, E = escS true D := ⟨_, rfl⟩
          have hEs : E.size ≤ 900 := by have := escS_le true D; rw [hE]; omega
          rw [← hE] at CQ
          have e0 : (E.size : Int) ≤ 900 := by omega
          have HTK := Lib.hid (show ((L.take (i + 1)).map (optL key.data.toList)).flatMap (fun x => x ++ [38]) = ((L.take i).map (optL key.data.toList)).flatMap (fun x => x ++ [38]) ++ (((key ++ ⟨#[61]⟩) ++ E) ++ ⟨#[38]⟩).data.toList from by
            rw [List.take_succ_eq_append_getElem hlt', List.map_append, List.flatMap_append, eL, ← hq, data_add, data_add, data_add, hE, hD]
            simp [optL])
          have HEs := Lib.hid hEs
          have HKS := Lib.hid (show (key.size : Int) ≤ 300 from i5)
          clear hlt hlt' eL hq hqm hql hqp hB hBd hBs hD hDs hE hEs hkx
          go_wp2_with fail
          refine (CT.out _ HKX.out).mono ?_
          rintro e wa ⟨rfl, hka⟩
          have HKa := Lib.hid (HKX.out.trans hka)
          clear hka d0
          go_wp2_with fail
          refine (CU.out _).mono ?_
          rintro e wb ⟨rfl, hkb⟩
          have HKb := Lib.hid (HKa.out.trans hkb)
          clear hkb
          go_wp2_with fail
          refine (CQ.out _ HKb.out).mono ?_
          rintro e wc ⟨rfl, hkc⟩
          have HKc := Lib.hid (HKb.out.trans hkc)
          clear hkc
          go_wp2_with fail
          go_roundg (n - (i + 1))
          case measure => have := HLT.out; omega
          case rel => exact ⟨i + 1, _, rfl, HLT.out, rfl, by go_num, by rw [data_add, HA2.out, HTK.out]; simp, (by have := HAS2.out; have := HEs.out; have := HKS.out; simp only [ByteArray.size_append]; have e1 : (⟨#[61]⟩ : ByteArray).size = 1 := rfl; have e2 : (⟨#[38]⟩ : ByteArray).size = 1 := rfl; omega), HKc.out⟩
        · obtain rfl : i = n := by have := HI.out; omega
          clear hlt hkx
          go_wp2_with fail
          go_roundg 0
          case measure => omega
          case rel => exact ⟨1, A', rfl, rfl, HSTR2.out A' _ HKX.out (by
            have h := HA2.out
            rw [HN.out, List.take_length] at h
            exact h) (by have := HAS2.out; have := n0; omega)⟩
end Go.Proofs.YtcdbnjhkjfimkaaDoor
