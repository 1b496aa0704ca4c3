/-
  QueryEscape and the reference's ConfigQuery; zzIndex and zzTrimRight.
-/
import Derived.Test.YtcdbnjhkjfimkaaDoorUrl6
import Derived.Test.YtcdbnjhkjfimkaaDoorUrl4
namespace Go.Proofs.YtcdbnjhkjfimkaaDoor
open Go Go.RowKit

set_option maxRecDepth 100000 in
theorem queryEscape_any (s : ByteArray) (w : World) (ht : UTab w) (hs : s.size ≤ 300) :
    Calls Tryd.prog 122 #[.string s] w fun e w' => e = .returned (.string (escS true s)) ∧ Kp w w' := by
  have C := Lib.hid (escape_query s w ht hs)
  clear ht hs
  go_enter Tryd.func122, Tryd.ntmps122
  go_wp2_with fail
  refine C.out.mono ?_
  rintro e w1 ⟨rfl, hk⟩
  have HK := Lib.hid hk
  clear hk
  go_wp2_with fail
  go_ret
  exact ⟨rfl, HK.out⟩
theorem okB_blank (b : UInt8) (h : b ≠ 32) : okB [32] b = okB [] b := by
  simp only [okB, List.append_nil]
  congr 1
  simp only [List.contains_eq_mem, List.mem_append, List.mem_singleton, h, or_false]
theorem hexB_ok : ∀ n, n < 16 → hexB n ≠ 32 ∧ (hexB n).toNat < 128 := by
  have : ∀ c : Fin 16, hexB c.val ≠ 32 ∧ (hexB c.val).toNat < 128 := by decide +kernel
  exact fun n h => this ⟨n, h⟩
theorem conf_query : ∀ l, (confL [32] l).map plusB = escL true l
  | [] => rfl
  | b :: l => by
    have ih := conf_query l
    simp only [confL, escL, List.flatMap_cons, List.map_append] at ih ⊢
    rw [ih]
    congr 1
    by_cases hb : b = 32
    · subst hb; rfl
    · have hd : b.toNat / 16 < 16 := by have := b.toNat_lt; omega
      have hm : b.toNat % 16 < 16 := Nat.mod_lt _ (by decide)
      rw [confB, okB_blank b hb]
      cases h2 : okB [] b
      · rw [escQ_hex b hb h2, if_neg (by decide)]
        simp only [List.map_cons, List.map_nil, plusB, if_neg (hexB_ok _ hd).1, if_neg (hexB_ok _ hm).1]
        rfl
      · rw [escQ_plain b hb h2, if_pos rfl]
        simp only [List.map_cons, List.map_nil, plusB, if_neg hb]
theorem conf_ascii (L : List UInt8) (hA : ∀ b ∈ L, b.toNat < 128) : ∀ l, ∀ b ∈ confL L l, b.toNat < 128
  | [], b, h => absurd h List.not_mem_nil
  | c :: l, b, h => by
    simp only [confL, List.flatMap_cons, List.mem_append] at h
    rcases h with h | h
    · unfold confB at h
      cases h2 : okB L c
      · rw [h2, if_neg (by decide)] at h
        have hd : c.toNat / 16 < 16 := by have := c.toNat_lt; omega
        have hm : c.toNat % 16 < 16 := Nat.mod_lt _ (by decide)
        simp only [List.mem_cons, List.not_mem_nil, or_false] at h
        rcases h with rfl | rfl | rfl
        · decide
        · exact (hexB_ok _ hd).2
        · exact (hexB_ok _ hm).2
      · rw [h2, if_pos rfl, List.mem_singleton] at h
        rw [h]
        exact okB_ascii hA h2
    · exact conf_ascii L hA l b h
set_option maxRecDepth 100000 in
set_option maxHeartbeats 4000000 in
theorem configQuery_any (s : ByteArray) (w : World) (hs : s.size ≤ 300) :
    Calls Tryd.prog 80 #[.string s] w fun e w' => e = .returned (.string (escS true s)) ∧ Kp w w' := by
  have C := Lib.hid (configEscaped_any s ⟨#[32]⟩ w hs (by decide) (by decide))
  obtain ⟨T, hT⟩ : ∃ T : ByteArray, T = ⟨(confL (ByteArray.mk #[32]).data.toList s.data.toList).toArray⟩ := ⟨_, rfl⟩
  have htd : T.data.toList = confL [32] s.data.toList := by rw [hT]
  have hts : T.size ≤ 900 := by
    have h1 := congrArg List.length htd
    have h2 := confL_len [32] s.data.toList
    have h3 : T.data.toList.length = T.size := rfl
    have h4 : s.data.toList.length = s.size := rfl
    omega
  have HTA := Lib.hid (show ∀ b ∈ T.data.toList, b.toNat < 128 from by rw [htd]; exact conf_ascii [32] (by decide) _)
  have HE := Lib.hid (show escS true s = ⟨(T.data.toList.map plusB).toArray⟩ from by rw [htd, conf_query]; rfl)
  rw [← hT] at C
  have i0 : (T.size : Int) ≤ 900 := by omega
  have HC := Lib.hid (fun w1 c e m i hi => bytes_cell w1 T c e m i hi)
  have HL := Lib.hid (show T.data.toList.length = T.size from rfl)
  clear hs hT htd hts
  go_enter Tryd.func80, Tryd.ntmps80
  go_wp2_with fail
  refine C.out.mono ?_
  rintro e w1 ⟨rfl, hk1⟩
  have HK1 := Lib.hid hk1
  clear hk1 C
  go_wp2_with fail
  rw [run_bytes_of_string w1 9 26 5 T Tryd.underlying9 Tryd.underlying26 Tryd.underlying5]
  simp only [Result.andThen]
  rw [Oper.upon_value]
  generalize hX : w1.drew.alloc (.cells (bytesRow T (grownCap w1 T.size 0 5)) 5 ((bytesRow T (grownCap w1 T.size 0 5)).size, (bytesRow T (grownCap w1 T.size 0 5)).size + 1)) = X
  have HK := Lib.hid (show Kp w X from HK1.out.trans (hX ▸ (Kp.refl w1).drew.alloc _))
  have HX := Lib.hid (fun i hi => (hX ▸ HC.out w1 _ _ _ i hi : X.cell? ⟨w1.heap.size, i, none⟩ = some (.int .u8 ((T.data.toList.getD i 0).toNat : Int))))
  clear hX
  go_wp2_with fail
  go_loopg [3, 10] T.size (fun G s3 s10 wr => ∃ k : Nat, ∃ o : ByteArray, G = T.size - k ∧ k ≤ T.size ∧ s3 = .string o ∧ o.data.toList = (T.data.toList.take k).map plusB ∧ s10 = .int .i64 (k : Int) ∧ X = wr)
  case atStart => exact ⟨0, _, rfl, Nat.zero_le _, rfl, rfl, rfl, rfl⟩
  case round =>
    obtain ⟨k, o, rfl, hk, rfl, ho, rfl, rfl⟩ := hrel
    have HKN := Lib.hid hk
    have HO := Lib.hid ho
    have j0 : (0 : Int) ≤ (k : Int) := by omega
    have j1 : (k : Int) ≤ (T.size : Int) := by omega
    have hol : o.size ≤ 900 := by
      have h1 := congrArg List.length ho
      rw [List.length_map, List.length_take] at h1
      have h3 : o.data.toList.length = o.size := rfl
      omega
    have o1 : (o.size : Int) ≤ 900 := by omega
    clear hk ho hol
    by_cases hlt : k < T.size
    · have j2 : (k : Int) < (T.size : Int) := by omega
      have d0 := HX.out k hlt
      have HLT := Lib.hid hlt
      obtain ⟨c, hc⟩ : ∃ c, c = T.data.toList.getD k 0 := ⟨_, rfl⟩
      have HME := Lib.hid (show c ∈ T.data.toList from by
        rw [hc, List.getD_eq_getElem?_getD, List.getElem?_eq_getElem (by rw [HL.out]; exact hlt)]; exact List.getElem_mem _)
      have HTK := Lib.hid (show (T.data.toList.take (k + 1)).map plusB = (T.data.toList.take k).map plusB ++ [plusB c] from by
        rw [List.take_succ_eq_append_getElem (by rw [HL.out]; exact hlt), List.map_append]
        have e : T.data.toList[k]'(by rw [HL.out]; exact hlt) = c := by rw [hc, List.getD_eq_getElem?_getD, List.getElem?_eq_getElem (by rw [HL.out]; exact hlt)]; rfl
        rw [e]; rfl)
      rw [← hc] at d0
      obtain ⟨x, hx⟩ : ∃ x, x = c.toNat := ⟨_, rfl⟩
      have x0 : (0 : Int) ≤ (x : Int) := by omega
      have x1 : (x : Int) < 256 := by have := c.toNat_lt; omega
      have HXC := Lib.hid hx
      rw [← hx] at d0
      clear hlt hc
      by_cases h32 : x = 32
      · have e0 : ((x : Int) == 32) = true := by rw [h32]; rfl
        have hcc : c = 32 := by apply UInt8.toNat_inj.1; rw [← hx, h32]; rfl
        obtain ⟨E, hE⟩ : ∃ E : ByteArray, Utf8.encode 43 = E := ⟨_, rfl⟩
        have hed : E.data.toList = [43] := by rw [← hE]; decide +kernel
        have HDT := Lib.hid (show (o ++ E).data.toList = (T.data.toList.take (k + 1)).map plusB from by
          rw [HTK.out, data_add, hed, HO.out, hcc]; rfl)
        have e1 : (E.size : Int) ≤ 1 := by
          have h1 := congrArg List.length hed
          have h2 : E.data.toList.length = E.size := rfl
          rw [h2] at h1
          simp at h1
          omega
        clear h32 hx hcc hed
        go_wp2_with fail
        go_roundg (T.size - (k + 1))
        case measure => have := HLT.out; omega
        case rel => exact ⟨k + 1, _, rfl, HLT.out, rfl, HDT.out, by go_num, rfl⟩
      · have e0 : ((x : Int) == 32) = false := by simp; omega
        have hcc : c ≠ 32 := fun e => h32 (by rw [hx, e]; rfl)
        obtain ⟨E, hE⟩ : ∃ E : ByteArray, Utf8.encode (x : Int) = E := ⟨_, rfl⟩
        have hed : E.data.toList = [c] := by rw [← hE, HXC.out]; exact encode_ascii c (HTA.out c HME.out)
        have HDT := Lib.hid (show (o ++ E).data.toList = (T.data.toList.take (k + 1)).map plusB from by
          rw [HTK.out, data_add, hed, HO.out, plusB, if_neg hcc])
        have e1 : (E.size : Int) ≤ 1 := by
          have h1 := congrArg List.length hed
          have h2 : E.data.toList.length = E.size := rfl
          rw [h2] at h1
          simp at h1
          omega
        clear h32 hx hcc hed
        go_wp2_with fail
        go_roundg (T.size - (k + 1))
        case measure => have := HLT.out; omega
        case rel => exact ⟨k + 1, _, rfl, HLT.out, rfl, HDT.out, by go_num, rfl⟩
    · obtain rfl : k = T.size := by have := HKN.out; omega
      clear hlt
      have HOE := Lib.hid (show o = escS true s from by
        have h := HO.out
        rw [List.take_of_length_le (by rw [HL.out]; exact Nat.le_refl _)] at h
        rw [HE.out, ← h])
      go_wp2_with fail
      go_ret
      exact ⟨by rw [← HOE.out]; rfl, HK.out⟩

theorem ext_data (s : ByteArray) (k : Nat) (h : k < s.size) : (s.extract k (k + 1)).data.toList = [s.data.toList.getD k 0] := by
  have hl : k < s.data.toList.length := h
  rw [Lib.extract_data]
  rw [show k + 1 - k = 1 by omega, List.drop_eq_getElem_cons hl, List.getD_eq_getElem?_getD, List.getElem?_eq_getElem hl]
  rfl
theorem ext_comma (s : ByteArray) (k : Nat) (h : k < s.size) : ((s.extract k (k + 1)).toList == [44]) = (s.data.toList.getD k 0 == 44) := by
  have e : ([44] : List UInt8) = (ByteArray.mk #[44]).toList := by rw [ByteArray.toList_eq]
  rw [e, Bool.eq_iff_iff, Lib.bytes_beq_iff, beq_iff_eq]
  have hd := ext_data s k h
  constructor
  · intro h2
    rw [h2] at hd
    injection hd with hd _
    exact hd.symm
  · intro h2
    apply Go.WideShapes.bytes_inj
    rw [hd, h2]
/-- The place of the first comma. -/
def CommaAt (l : List UInt8) (i : Int) : Prop := (i = -1 ∧ (44 : UInt8) ∉ l) ∨ ∃ n : Nat, i = n ∧ n < l.length ∧ l.getD n 0 = 44 ∧ (44 : UInt8) ∉ l.take n
def CommaPost (l : List UInt8) (w : World) (e : Ending) (w' : World) : Prop := ∃ i : Int, e = .returned (.int .i64 i) ∧ CommaAt l i ∧ w = w'
set_option maxRecDepth 100000 in
set_option maxHeartbeats 2000000 in
theorem zzIndex_any (s : ByteArray) (w : World) (hs : s.size ≤ 1000) :
    Calls Tryd.prog 160 #[.string s, .string ⟨#[44]⟩] w (CommaPost s.data.toList w) := by
  have i0 : (s.size : Int) ≤ 1000 := by omega
  have HL := Lib.hid (show s.data.toList.length = s.size from rfl)
  clear hs
  go_enter Tryd.func160, Tryd.ntmps160
  go_wp2_with fail
  go_loopg [5] s.size (fun G st wr => ∃ k : Nat, G = s.size - k ∧ k ≤ s.size ∧ st = .int .i64 (k : Int) ∧ (44 : UInt8) ∉ s.data.toList.take k ∧ w = wr)
  case atStart => exact ⟨0, rfl, Nat.zero_le _, rfl, by simp, rfl⟩
  case round =>
    obtain ⟨k, rfl, hk, rfl, hn, rfl⟩ := hrel
    have HKN := Lib.hid hk
    have HN := Lib.hid hn
    have j0 : (0 : Int) ≤ (k : Int) := by omega
    have j1 : (k : Int) ≤ (s.size : Int) := by omega
    clear hk hn
    by_cases hlt : k < s.size
    · have j2 : (k : Int) < (s.size : Int) := by omega
      have j3 : (k : Int) + 1 ≤ (s.size : Int) := by omega
      have HLT := Lib.hid hlt
      have hxc := ext_comma s k hlt
      have HTK := Lib.hid (show s.data.toList.take (k + 1) = s.data.toList.take k ++ [s.data.toList.getD k 0] from by
        rw [List.take_succ_eq_append_getElem (by rw [HL.out]; exact hlt), List.getD_eq_getElem?_getD, List.getElem?_eq_getElem (by rw [HL.out]; exact hlt)]; rfl)
      clear hlt
      cases hb : (s.data.toList.getD k 0 == 44)
      · rw [hb] at hxc
        have HB := Lib.hid hb
        clear hb
        go_wp2_with fail
        go_roundg (s.size - (k + 1))
        case measure => have := HLT.out; omega
        case rel => exact ⟨k + 1, rfl, HLT.out, by go_num, fun hm => (by
          rw [HTK.out] at hm
          rcases List.mem_append.1 hm with hm | hm
          · exact HN.out hm
          · rw [List.mem_singleton] at hm
            have h := HB.out
            rw [← hm] at h
            cases h), rfl⟩
      · rw [hb] at hxc
        have HB := Lib.hid hb
        clear hb
        go_wp2_with fail
        go_ret
        exact ⟨(k : Int), rfl, .inr ⟨k, rfl, HLT.out, by simpa using HB.out, HN.out⟩, rfl⟩
    · obtain rfl : k = s.size := by have := HKN.out; omega
      clear hlt
      go_wp2_with fail
      go_ret
      refine ⟨-1, rfl, .inl ⟨rfl, ?_⟩, rfl⟩
      have h := HN.out
      rwa [List.take_of_length_le (by rw [HL.out]; exact Nat.le_refl _)] at h
end Go.Proofs.YtcdbnjhkjfimkaaDoor
