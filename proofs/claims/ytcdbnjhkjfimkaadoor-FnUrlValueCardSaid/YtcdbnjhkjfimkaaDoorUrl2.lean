/-
  The reference's escaped text: spec.configEscaped.
-/
import Derived.Test.YtcdbnjhkjfimkaaDoorUrl1
namespace Go.Proofs.YtcdbnjhkjfimkaaDoor
open Go Go.RowKit

set_option maxRecDepth 100000 in
theorem idxByte_any (b n c : Nat) (l : List UInt8) (v : UInt8) (w : World) (hn : l.length = n) (h : ∀ i, i < n → w.cell? ⟨b, i, none⟩ = some (.int .u8 ((l.getD i 0).toNat : Int))) (hm : n ≤ 1000) :
    Calls Tryd.prog 70 #[.slice (some ⟨b, 0, none⟩) n c, .int .u8 (v.toNat : Int)] w fun e w' => ∃ i : Int, e = .returned (.int .i64 i) ∧ (l.contains v = true → 0 ≤ i) ∧ (l.contains v = false → i = -1) ∧ w = w' := by
  have i0 : (n : Int) ≤ 1000 := by omega
  have HC := Lib.hid h
  have HN := Lib.hid hn
  obtain ⟨y, hy⟩ : ∃ y, y = v.toNat := ⟨_, rfl⟩
  have y0 : (0 : Int) ≤ (y : Int) := by omega
  have y1 : (y : Int) < 256 := by have := v.toNat_lt; omega
  have HY := Lib.hid hy
  rw [← hy]
  clear h hm hn hy
  go_enter Tryd.func70, Tryd.ntmps70
  go_wp2_with fail
  go_loopg [8] n (fun G st wr => ∃ k : Nat, G = n - k ∧ k ≤ n ∧ st = .int .i64 (k : Int) ∧ (l.take k).contains v = false ∧ w = wr)
  case atStart => exact ⟨0, rfl, Nat.zero_le _, rfl, rfl, rfl⟩
  case round =>
    obtain ⟨k, rfl, hk, rfl, hall, rfl⟩ := hrel
    have HALL := Lib.hid hall
    have HKN := Lib.hid hk
    have j0 : (0 : Int) ≤ (k : Int) := by omega
    have j1 : (k : Int) ≤ (n : Int) := by omega
    clear hall hk
    by_cases hlt : k < n
    · have j2 : (k : Int) < (n : Int) := by omega
      have d0 := HC.out k hlt
      have HLT := Lib.hid hlt
      have hkl : k < l.length := by rw [HN.out]; exact hlt
      obtain ⟨u, hu⟩ : ∃ u, u = l.getD k 0 := ⟨_, rfl⟩
      have HTK := Lib.hid (show l.take (k + 1) = l.take k ++ [u] from by
        rw [List.take_succ_eq_append_getElem hkl, hu, List.getD_eq_getElem?_getD, List.getElem?_eq_getElem hkl, Option.getD_some])
      have HME := Lib.hid (show u ∈ l from by rw [hu, List.getD_eq_getElem?_getD, List.getElem?_eq_getElem hkl, Option.getD_some]; exact List.getElem_mem _)
      rw [← hu] at d0
      clear hlt hkl hu
      obtain ⟨x, hx⟩ : ∃ x, x = u.toNat := ⟨_, rfl⟩
      have HX := Lib.hid hx
      rw [← hx] at d0
      clear hx
      cases hf : ((y : Int) == (x : Int))
      · have HF := Lib.hid hf
        go_wp2_with fail
        go_roundg (n - (k + 1))
        case measure => have := HLT.out; omega
        case rel => exact ⟨k + 1, rfl, HLT.out, by go_num, by
          rw [HTK.out]
          have h1 := HALL.out
          have h2 : v ≠ u := fun e => by
            have h3 := HF.out
            rw [HY.out, HX.out, e] at h3
            simp at h3
          simp only [List.contains_eq_mem, List.mem_append, List.mem_singleton, decide_eq_false_iff_not, not_or] at h1 ⊢
          exact ⟨h1, h2⟩, rfl⟩
      · have HF := Lib.hid hf
        go_wp2_with fail
        go_ret
        refine ⟨(k : Int), rfl, fun _ => by omega, fun h => ?_, rfl⟩
        exfalso
        have h3 := HF.out
        have e : v = u := by
          apply UInt8.toNat_inj.1
          have : (y : Int) = (x : Int) := by simpa using h3
          have h4 := HY.out
          have h5 := HX.out
          omega
        rw [e] at h
        simp only [List.contains_eq_mem, decide_eq_false_iff_not] at h
        exact h HME.out
    · obtain rfl : k = n := by have := HKN.out; omega
      clear hlt
      go_wp2_with fail
      go_ret
      refine ⟨-1, rfl, fun h => ?_, fun _ => rfl, rfl⟩
      have h1 := HALL.out
      rw [List.take_of_length_le (by rw [HN.out]; exact Nat.le_refl _)] at h1
      rw [h1] at h; cases h
theorem hasByte_any (b n c : Nat) (l : List UInt8) (v : UInt8) (w : World) (hn : l.length = n) (h : ∀ i, i < n → w.cell? ⟨b, i, none⟩ = some (.int .u8 ((l.getD i 0).toNat : Int))) (hm : n ≤ 1000) :
    Calls Tryd.prog 115 #[.slice (some ⟨b, 0, none⟩) n c, .int .u8 (v.toNat : Int)] w fun e w' => e = .returned (.bool (l.contains v)) ∧ w = w' := by
  have HI := Lib.hid (idxByte_any b n c l v w hn h hm)
  clear h hn hm
  generalize l.contains v = t at HI ⊢
  obtain ⟨y, hy⟩ : ∃ y, y = v.toNat := ⟨_, rfl⟩
  rw [← hy] at HI ⊢
  clear hy
  go_enter Tryd.func115, Tryd.ntmps115
  go_wp2_with fail
  refine HI.out.mono ?_
  rintro e w1 ⟨i, rfl, h1, h2, rfl⟩
  clear HI
  cases t
  · obtain rfl := h2 rfl
    clear h1 h2
    go_wp2_with fail
    go_ret
    exact ⟨rfl, rfl⟩
  · have i0 := h1 rfl
    clear h1 h2
    go_wp2_with fail
    go_ret
    exact ⟨rfl, rfl⟩

/-- A byte as the reference writes it. -/
def confB (L : List UInt8) (b : UInt8) : List UInt8 := if okB L b then [b] else [37, hexB (b.toNat / 16), hexB (b.toNat % 16)]
def confL (L : List UInt8) (l : List UInt8) : List UInt8 := l.flatMap (confB L)
theorem confL_snoc (L l : List UInt8) (b : UInt8) : confL L (l ++ [b]) = confL L l ++ confB L b := by simp [confL]
theorem confB_len (L : List UInt8) (b : UInt8) : (confB L b).length ≤ 3 := by
  unfold confB
  split
  · simp only [List.length_cons, List.length_nil]; omega
  · exact Nat.le_refl 3
theorem confL_len (L : List UInt8) : ∀ l, (confL L l).length ≤ 3 * l.length
  | [] => by simp [confL]
  | b :: l => by
    have h := confL_len L l
    have h2 := confB_len L b
    simp only [confL, List.flatMap_cons, List.length_append, List.length_cons] at h ⊢
    omega
theorem conf_path (l : List UInt8) : confL letP l = escL false l := rfl

theorem data_add (a b : ByteArray) : (a ++ b).data.toList = a.data.toList ++ b.data.toList := by simp [ByteArray.data_append]
theorem hex_extract (h : Nat) (e : h < 16) : ((ByteArray.mk #[48, 49, 50, 51, 52, 53, 54, 55, 56, 57, 65, 66, 67, 68, 69, 70]).extract h (h + 1)).data.toList = [hexB h] := by
  have : ∀ c : Fin 16, ((ByteArray.mk #[48, 49, 50, 51, 52, 53, 54, 55, 56, 57, 65, 66, 67, 68, 69, 70]).extract c.val (c.val + 1)).data.toList = [hexB c.val] := by decide +kernel
  exact this ⟨h, e⟩
theorem okB_ascii {L : List UInt8} {c : UInt8} (hA : ∀ b ∈ L, b.toNat < 128) (h : okB L c = true) : c.toNat < 128 := by
  simp only [okB, alnumB, Bool.or_eq_true, Bool.and_eq_true, decide_eq_true_eq, List.contains_eq_mem, List.mem_append, List.mem_cons, List.not_mem_nil, or_false] at h
  rcases h with h | h
  · omega
  · rcases h with (rfl | rfl | rfl | rfl) | h
    · decide
    · decide
    · decide
    · decide
    · exact hA c h
theorem encode_ascii (c : UInt8) (h : c.toNat < 128) : (Utf8.encode (c.toNat : Int)).data.toList = [c] := by
  have : ∀ i : Fin 128, (Utf8.encode (i.val : Int)).data.toList = [UInt8.ofNat i.val] := by decide +kernel
  have h1 := this ⟨c.toNat, h⟩
  dsimp only at h1
  rw [h1, UInt8.ofNat_toNat]
theorem okB_alnum (L : List UInt8) (c : UInt8) (x : Nat) (hx : x = c.toNat) (h : (48 ≤ x ∧ x ≤ 57) ∨ (65 ≤ x ∧ x ≤ 90) ∨ (97 ≤ x ∧ x ≤ 122)) : okB L c = true := by
  subst hx
  simp only [okB, alnumB, Bool.or_eq_true, Bool.and_eq_true, decide_eq_true_eq]
  exact .inl h
theorem okB_sign (L : List UInt8) (c : UInt8) (x : Nat) (hx : x = c.toNat) (h : ¬ ((48 ≤ x ∧ x ≤ 57) ∨ (65 ≤ x ∧ x ≤ 90) ∨ (97 ≤ x ∧ x ≤ 122))) : okB L c = ([45, 95, 46, 126] ++ L).contains c := by
  subst hx
  have e : alnumB c = false := by
    cases h2 : alnumB c
    · rfl
    · simp only [alnumB, Bool.or_eq_true, Bool.and_eq_true, decide_eq_true_eq] at h2
      exact absurd h2 h
  rw [okB, e, Bool.false_or]
set_option maxRecDepth 100000 in
set_option maxHeartbeats 8000000 in
theorem configEscaped_any (s L : ByteArray) (w : World) (hs : s.size ≤ 300) (hL : L.size ≤ 100) (hA : ∀ b ∈ L.data.toList, b.toNat < 128) :
    Calls Tryd.prog 77 #[.string s, .string L] w fun e w' => e = .returned (.string ⟨(confL L.data.toList s.data.toList).toArray⟩) ∧ Kp w w' := by
  have i0 : (s.size : Int) ≤ 300 := by omega
  have i1 : (L.size : Int) ≤ 100 := by omega
  have HC := Lib.hid (fun w1 c e m i hi => bytes_cell w1 s c e m i hi)
  have HL := Lib.hid (show s.data.toList.length = s.size from rfl)
  have HA := Lib.hid hA
  obtain ⟨T, hT⟩ : ∃ T : ByteArray, (⟨#[45, 95, 46, 126]⟩ ++ L : ByteArray) = T := ⟨_, rfl⟩
  have HTS := Lib.hid (show T.size = 4 + L.size from by rw [← hT, ByteArray.size_append]; rfl)
  have HTD := Lib.hid (show T.data.toList = [45, 95, 46, 126] ++ L.data.toList from by rw [← hT]; simp [ByteArray.data_append])
  clear hs hL hA
  go_enter Tryd.func77, Tryd.ntmps77
  go_wp2_with fail
  rw [run_bytes_of_string w 9 26 5 s Tryd.underlying9 Tryd.underlying26 Tryd.underlying5]
  simp only [Result.andThen]
  rw [Oper.upon_value]
  generalize hX : w.drew.alloc (.cells (bytesRow s (grownCap w s.size 0 5)) 5 ((bytesRow s (grownCap w s.size 0 5)).size, (bytesRow s (grownCap w s.size 0 5)).size + 1)) = X
  have HK := Lib.hid (show Kp w X from hX ▸ (Kp.refl w).drew.alloc _)
  have HX := Lib.hid (fun i hi => (hX ▸ HC.out w _ _ _ i hi : X.cell? ⟨w.heap.size, i, none⟩ = some (.int .u8 ((s.data.toList.getD i 0).toNat : Int))))
  clear hX
  go_wp2_with fail
  go_loopg [5, 12] s.size (fun G s5 s12 wr => ∃ k : Nat, ∃ o : ByteArray, G = s.size - k ∧ k ≤ s.size ∧ s5 = .string o ∧ o.data.toList = confL L.data.toList (s.data.toList.take k) ∧ s12 = .int .i64 (k : Int) ∧ Kp X wr)
  case atStart => exact ⟨0, _, rfl, Nat.zero_le _, rfl, rfl, rfl, Kp.refl X⟩
  case round =>
    obtain ⟨k, o, rfl, hk, rfl, ho, rfl, hkw⟩ := hrel
    have HKN := Lib.hid hk
    have HO := Lib.hid ho
    have HKW := Lib.hid hkw
    have j0 : (0 : Int) ≤ (k : Int) := by omega
    have j1 : (k : Int) ≤ (s.size : Int) := by omega
    have hol : o.size ≤ 900 := by
      have h1 := congrArg List.length ho
      have h2 := confL_len L.data.toList (s.data.toList.take k)
      rw [List.length_take] at h2
      have h3 : o.data.toList.length = o.size := rfl
      omega
    have o1 : (o.size : Int) ≤ 900 := by omega
    clear hk ho hkw hol
    by_cases hlt : k < s.size
    · have j2 : (k : Int) < (s.size : Int) := by omega
      have d0 := below_some HKW.out (HX.out k hlt)
      have HLT := Lib.hid hlt
      obtain ⟨c, hc⟩ : ∃ c, c = s.data.toList.getD k 0 := ⟨_, rfl⟩
      have HTK := Lib.hid (show confL L.data.toList (s.data.toList.take (k + 1)) = confL L.data.toList (s.data.toList.take k) ++ confB L.data.toList c from by
        rw [List.take_succ_eq_append_getElem (by rw [HL.out]; exact hlt), confL_snoc]
        have e : s.data.toList[k]'(by rw [HL.out]; exact hlt) = c := by rw [hc, List.getD_eq_getElem?_getD, List.getElem?_eq_getElem (by rw [HL.out]; exact hlt)]; rfl
        rw [e])
      rw [← hc] at d0
      obtain ⟨x, hx⟩ : ∃ x, x = c.toNat := ⟨_, rfl⟩
      have x0 : (0 : Int) ≤ (x : Int) := by omega
      have x1 : (x : Int) < 256 := by have := c.toNat_lt; omega
      have HXC := Lib.hid hx
      rw [← hx] at d0
      clear hlt hc hx
      go_upto_region 5 with (fail)
      go_cut [8] (fun s8 wx => s8 = .bool (okB L.data.toList c) ∧ Kp X wx)
      case first =>
        by_cases d1 : x < 48
        · have y0 : (x : Int) < 48 := by omega
          have y1 : (x : Int) < 65 := by omega
          have y2 : (x : Int) < 97 := by omega
          have HNA := Lib.hid (okB_sign L.data.toList c x HXC.out (by omega))
          clear d1
          go_wp2_with fail
          rw [run_bytes_of_string wr 9 26 5 T Tryd.underlying9 Tryd.underlying26 Tryd.underlying5]
          simp only [Result.andThen]
          rw [Oper.upon_value]
          generalize hY : wr.drew.alloc (.cells (bytesRow T (grownCap wr T.size 0 5)) 5 ((bytesRow T (grownCap wr T.size 0 5)).size, (bytesRow T (grownCap wr T.size 0 5)).size + 1)) = Y
          have HKY := Lib.hid (show Kp X Y from HKW.out.trans (hY ▸ (Kp.refl wr).drew.alloc _))
          have CC := Lib.hid (fun cap => hasByte_any wr.heap.size T.size cap T.data.toList c Y rfl (fun i hi => (hY ▸ bytes_cell wr T (grownCap wr T.size 0 5) _ _ i hi : Y.cell? ⟨wr.heap.size, i, none⟩ = some (.int .u8 ((T.data.toList.getD i 0).toNat : Int)))) (by rw [HTS.out]; omega))
          rw [← HXC.out] at CC
          clear hY
          go_wp2_with fail
          refine (CC.out _).mono ?_
          rintro e wx ⟨rfl, rfl⟩
          have HCE := Lib.hid (show T.data.toList.contains c = okB L.data.toList c from by rw [HNA.out, HTD.out])
          generalize T.data.toList.contains c = t at HCE
          cases t
          · go_wp2_with fail
            go_meet
            exact ⟨congrArg Value.bool HCE.out, HKY.out⟩
          · go_wp2_with fail
            go_meet
            exact ⟨congrArg Value.bool HCE.out, HKY.out⟩
        · by_cases d2 : x ≤ 57
          · have y0 : (48 : Int) ≤ (x : Int) := by omega
            have y1 : (x : Int) ≤ 57 := by omega
            have HOKA := Lib.hid (okB_alnum L.data.toList c x HXC.out (by omega))
            clear d1 d2
            go_wp2_with fail
            go_meet
            exact ⟨congrArg Value.bool HOKA.out.symm, HKW.out⟩
          · by_cases d3 : x < 65
            · have y0 : (48 : Int) ≤ (x : Int) := by omega
              have y1 : (57 : Int) < (x : Int) := by omega
              have z1 : decide ((x : Int) ≤ 57) = false := decide_eq_false (by omega)
              have y2 : (x : Int) < 65 := by omega
              have y3 : (x : Int) < 97 := by omega
              have HNA := Lib.hid (okB_sign L.data.toList c x HXC.out (by omega))
              clear d1 d2 d3
              go_wp2_with fail
              rw [run_bytes_of_string wr 9 26 5 T Tryd.underlying9 Tryd.underlying26 Tryd.underlying5]
              simp only [Result.andThen]
              rw [Oper.upon_value]
              generalize hY : wr.drew.alloc (.cells (bytesRow T (grownCap wr T.size 0 5)) 5 ((bytesRow T (grownCap wr T.size 0 5)).size, (bytesRow T (grownCap wr T.size 0 5)).size + 1)) = Y
              have HKY := Lib.hid (show Kp X Y from HKW.out.trans (hY ▸ (Kp.refl wr).drew.alloc _))
              have CC := Lib.hid (fun cap => hasByte_any wr.heap.size T.size cap T.data.toList c Y rfl (fun i hi => (hY ▸ bytes_cell wr T (grownCap wr T.size 0 5) _ _ i hi : Y.cell? ⟨wr.heap.size, i, none⟩ = some (.int .u8 ((T.data.toList.getD i 0).toNat : Int)))) (by rw [HTS.out]; omega))
              rw [← HXC.out] at CC
              clear hY
              go_wp2_with fail
              refine (CC.out _).mono ?_
              rintro e wx ⟨rfl, rfl⟩
              have HCE := Lib.hid (show T.data.toList.contains c = okB L.data.toList c from by rw [HNA.out, HTD.out])
              generalize T.data.toList.contains c = t at HCE
              cases t
              · go_wp2_with fail
                go_meet
                exact ⟨congrArg Value.bool HCE.out, HKY.out⟩
              · go_wp2_with fail
                go_meet
                exact ⟨congrArg Value.bool HCE.out, HKY.out⟩
            · by_cases d4 : x ≤ 90
              · have y0 : (48 : Int) ≤ (x : Int) := by omega
                have y1 : (57 : Int) < (x : Int) := by omega
                have z1 : decide ((x : Int) ≤ 57) = false := decide_eq_false (by omega)
                have y2 : (65 : Int) ≤ (x : Int) := by omega
                have y3 : (x : Int) ≤ 90 := by omega
                have HOKA := Lib.hid (okB_alnum L.data.toList c x HXC.out (by omega))
                clear d1 d2 d3 d4
                go_wp2_with fail
                go_meet
                exact ⟨congrArg Value.bool HOKA.out.symm, HKW.out⟩
              · by_cases d5 : x < 97
                · have y0 : (48 : Int) ≤ (x : Int) := by omega
                  have y1 : (57 : Int) < (x : Int) := by omega
                  have z1 : decide ((x : Int) ≤ 57) = false := decide_eq_false (by omega)
                  have y2 : (65 : Int) ≤ (x : Int) := by omega
                  have y3 : (90 : Int) < (x : Int) := by omega
                  have z3 : decide ((x : Int) ≤ 90) = false := decide_eq_false (by omega)
                  have y4 : (x : Int) < 97 := by omega
                  have HNA := Lib.hid (okB_sign L.data.toList c x HXC.out (by omega))
                  clear d1 d2 d3 d4 d5
                  go_wp2_with fail
                  rw [run_bytes_of_string wr 9 26 5 T Tryd.underlying9 Tryd.underlying26 Tryd.underlying5]
                  simp only [Result.andThen]
                  rw [Oper.upon_value]
                  generalize hY : wr.drew.alloc (.cells (bytesRow T (grownCap wr T.size 0 5)) 5 ((bytesRow T (grownCap wr T.size 0 5)).size, (bytesRow T (grownCap wr T.size 0 5)).size + 1)) = Y
                  have HKY := Lib.hid (show Kp X Y from HKW.out.trans (hY ▸ (Kp.refl wr).drew.alloc _))
                  have CC := Lib.hid (fun cap => hasByte_any wr.heap.size T.size cap T.data.toList c Y rfl (fun i hi => (hY ▸ bytes_cell wr T (grownCap wr T.size 0 5) _ _ i hi : Y.cell? ⟨wr.heap.size, i, none⟩ = some (.int .u8 ((T.data.toList.getD i 0).toNat : Int)))) (by rw [HTS.out]; omega))
                  rw [← HXC.out] at CC
                  clear hY
                  go_wp2_with fail
                  refine (CC.out _).mono ?_
                  rintro e wx ⟨rfl, rfl⟩
                  have HCE := Lib.hid (show T.data.toList.contains c = okB L.data.toList c from by rw [HNA.out, HTD.out])
                  generalize T.data.toList.contains c = t at HCE
                  cases t
                  · go_wp2_with fail
                    go_meet
                    exact ⟨congrArg Value.bool HCE.out, HKY.out⟩
                  · go_wp2_with fail
                    go_meet
                    exact ⟨congrArg Value.bool HCE.out, HKY.out⟩
                · by_cases d6 : x ≤ 122
                  · have y0 : (48 : Int) ≤ (x : Int) := by omega
                    have y1 : (57 : Int) < (x : Int) := by omega
                    have z1 : decide ((x : Int) ≤ 57) = false := decide_eq_false (by omega)
                    have y2 : (65 : Int) ≤ (x : Int) := by omega
                    have y3 : (90 : Int) < (x : Int) := by omega
                    have z3 : decide ((x : Int) ≤ 90) = false := decide_eq_false (by omega)
                    have y4 : (97 : Int) ≤ (x : Int) := by omega
                    have y5 : (x : Int) ≤ 122 := by omega
                    have HOKA := Lib.hid (okB_alnum L.data.toList c x HXC.out (by omega))
                    clear d1 d2 d3 d4 d5 d6
                    go_wp2_with fail
                    go_meet
                    exact ⟨congrArg Value.bool HOKA.out.symm, HKW.out⟩
                  · have y0 : (48 : Int) ≤ (x : Int) := by omega
                    have y1 : (57 : Int) < (x : Int) := by omega
                    have z1 : decide ((x : Int) ≤ 57) = false := decide_eq_false (by omega)
                    have y2 : (65 : Int) ≤ (x : Int) := by omega
                    have y3 : (90 : Int) < (x : Int) := by omega
                    have z3 : decide ((x : Int) ≤ 90) = false := decide_eq_false (by omega)
                    have y4 : (97 : Int) ≤ (x : Int) := by omega
                    have y5 : (122 : Int) < (x : Int) := by omega
                    have z5 : decide ((x : Int) ≤ 122) = false := decide_eq_false (by omega)
                    have HNA := Lib.hid (okB_sign L.data.toList c x HXC.out (by omega))
                    clear d1 d2 d3 d4 d5 d6
                    go_wp2_with fail
                    rw [run_bytes_of_string wr 9 26 5 T Tryd.underlying9 Tryd.underlying26 Tryd.underlying5]
                    simp only [Result.andThen]
                    rw [Oper.upon_value]
                    generalize hY : wr.drew.alloc (.cells (bytesRow T (grownCap wr T.size 0 5)) 5 ((bytesRow T (grownCap wr T.size 0 5)).size, (bytesRow T (grownCap wr T.size 0 5)).size + 1)) = Y
                    have HKY := Lib.hid (show Kp X Y from HKW.out.trans (hY ▸ (Kp.refl wr).drew.alloc _))
                    have CC := Lib.hid (fun cap => hasByte_any wr.heap.size T.size cap T.data.toList c Y rfl (fun i hi => (hY ▸ bytes_cell wr T (grownCap wr T.size 0 5) _ _ i hi : Y.cell? ⟨wr.heap.size, i, none⟩ = some (.int .u8 ((T.data.toList.getD i 0).toNat : Int)))) (by rw [HTS.out]; omega))
                    rw [← HXC.out] at CC
                    clear hY
                    go_wp2_with fail
                    refine (CC.out _).mono ?_
                    rintro e wx ⟨rfl, rfl⟩
                    have HCE := Lib.hid (show T.data.toList.contains c = okB L.data.toList c from by rw [HNA.out, HTD.out])
                    generalize T.data.toList.contains c = t at HCE
                    cases t
                    · go_wp2_with fail
                      go_meet
                      exact ⟨congrArg Value.bool HCE.out, HKY.out⟩
                    · go_wp2_with fail
                      go_meet
                      exact ⟨congrArg Value.bool HCE.out, HKY.out⟩
      case rest =>
        obtain ⟨rfl, hkc⟩ := hcut
        have HKC := Lib.hid hkc
        clear hkc
        cases hok : okB L.data.toList c
        · have HE := Lib.hid (show confB L.data.toList c = [37, hexB (c.toNat / 16), hexB (c.toNat % 16)] from by rw [confB, hok]; rfl)
          obtain ⟨hd, hhd⟩ : ∃ hd : Nat, (x : Int) / 16 = (hd : Int) := ⟨x / 16, by omega⟩
          have D0 : (0 : Int) ≤ (hd : Int) := by omega
          have D1 : (hd : Int) < 16 := by omega
          have hand := and15 x (by omega)
          obtain ⟨ld, hld⟩ : ∃ ld : Nat, x % 16 = ld := ⟨_, rfl⟩
          rw [hld] at hand
          have E0 : (0 : Int) ≤ (ld : Int) := by omega
          have E1 : (ld : Int) < 16 := by omega
          have HHD := Lib.hid (show c.toNat / 16 = hd from by have := HXC.out; omega)
          have HLD := Lib.hid (show c.toNat % 16 = ld from by have := HXC.out; omega)
          clear hld hok
          have HDT := Lib.hid (show (o ++ (⟨#[37]⟩ ++ (ByteArray.mk #[48, 49, 50, 51, 52, 53, 54, 55, 56, 57, 65, 66, 67, 68, 69, 70]).extract hd (hd + 1) ++ (ByteArray.mk #[48, 49, 50, 51, 52, 53, 54, 55, 56, 57, 65, 66, 67, 68, 69, 70]).extract ld (ld + 1)) : ByteArray).data.toList = confL L.data.toList (s.data.toList.take (k + 1)) from by
            rw [HTK.out, HE.out, HHD.out, HLD.out, data_add, data_add, data_add, hex_extract hd (by omega), hex_extract ld (by omega), HO.out]
            rfl)
          go_wp2_with fail
          go_quiet (fail)
          go_wp2_with fail
          go_roundg (s.size - (k + 1))
          case measure => have := HLT.out; omega
          case rel => exact ⟨k + 1, _, rfl, HLT.out, rfl, HDT.out, by go_num, HKC.out.drewN _⟩
        · have HE := Lib.hid (show confB L.data.toList c = [c] from by rw [confB, hok]; rfl)
          have hc128 : c.toNat < 128 := okB_ascii HA.out hok
          obtain ⟨E, hE⟩ : ∃ E : ByteArray, Utf8.encode (x : Int) = E := ⟨_, rfl⟩
          have HED := Lib.hid (show E.data.toList = [c] from by rw [← hE, HXC.out]; exact encode_ascii c hc128)
          have e1 : (E.size : Int) ≤ 1 := by
            have h1 := congrArg List.length HED.out
            have h2 : E.data.toList.length = E.size := rfl
            rw [h2] at h1
            simp at h1
            omega
          have HDT := Lib.hid (show (o ++ E).data.toList = confL L.data.toList (s.data.toList.take (k + 1)) from by
            rw [HTK.out, HE.out, data_add, HED.out, HO.out])
          clear hok hc128
          go_wp2_with fail
          go_roundg (s.size - (k + 1))
          case measure => have := HLT.out; omega
          case rel => exact ⟨k + 1, _, rfl, HLT.out, rfl, HDT.out, by go_num, HKC.out⟩
    · obtain rfl : k = s.size := by have := HKN.out; omega
      clear hlt
      have HOE := Lib.hid (show o = ⟨(confL L.data.toList s.data.toList).toArray⟩ from by
        have h := HO.out
        rw [List.take_of_length_le (by rw [HL.out]; exact Nat.le_refl _)] at h
        rw [← h])
      go_wp2_with fail
      go_ret
      exact ⟨by rw [← HOE.out]; rfl, HK.out.trans HKW.out⟩
end Go.Proofs.YtcdbnjhkjfimkaaDoor
