/-
  spec.ConfigOption.
-/
import Derived.Test.YtcdbnjhkjfimkaaDoorUrl10
import Derived.Test.YtcdbnjhkjfimkaaDoorSrv10
namespace Go.Proofs.YtcdbnjhkjfimkaaDoor
open Go Go.RowKit

/-- An option as it stands in an address. -/
def optL (nm q : List UInt8) : List UInt8 := nm ++ [61] ++ (escS true ⟨(trimB q).toArray⟩).data.toList
theorem trimB_len (l : List UInt8) : (trimB l).length ≤ l.length := by
  have h1 : ∀ m : List UInt8, (trimL m).length ≤ m.length := fun m => (List.dropWhile_sublist _).length_le
  have h2 := h1 (trimL l).reverse
  have h3 := h1 l
  simp only [trimB, trimR, List.length_reverse] at h2 ⊢
  omega
theorem StrRow.mono {w : World} {b b' : Nat} {v : Value} {L : List (List UInt8)} (h : StrRow w b v L) (hb : b' ≤ b) : StrRow w b' v L := own_base h hb
theorem StrRow.kp {w w' : World} {b : Nat} {v : Value} {L : List (List UInt8)} (h : StrRow w b v L) (hk : Kp w w') : StrRow w' b v L := own_below h hk
theorem StrRow.at {w : World} {base g n cap : Nat} {L : List (List UInt8)} (h : StrRow w base (.slice (some ⟨g, 0, none⟩) n cap) L) (i : Nat) (hi : i < L.length) : w.cell? ⟨g, i, none⟩ = some (.string ⟨(L.getD i []).toArray⟩) := by
  have hn : n = L.length := by
    rcases h.2 with ⟨h', _⟩ | ⟨g', cap', cur, h', _⟩
    · simp at h'
    · injection h'
  subst hn
  have hh := h
  unfold StrRow at hh
  rw [World.ownsRow.cellAt hh i (by omega), strC, List.getElem?_map, List.getElem?_eq_getElem hi, List.getD_eq_getElem?_getD, List.getElem?_eq_getElem hi]
  rfl
def OptPost (nm S : List UInt8) (w : World) (e : Ending) (w' : World) : Prop := ∃ v, e = .returned v ∧ StrRow w' w.heap.size v ((splitC S).map (optL nm)) ∧ Kp w w'
set_option maxRecDepth 100000 in
set_option maxHeartbeats 4000000 in
theorem configOption_any (nm s : ByteArray) (w : World) (hs : s.size ≤ 300) (hn : nm.size ≤ 300) (hne : ((lowS nm).toList == [115, 101, 114, 118, 101, 114]) = false) :
    Calls Tryd.prog 44 #[.agg #[.string nm, .string s]] w (OptPost nm.data.toList s.data.toList w) := by
  have i1 : (nm.size : Int) ≤ 300 := by omega
  have CP := Lib.hid (fun w1 => configParts_any s w1 hs)
  have CL := Lib.hid (fun w1 => configLow_any nm w1 (by omega))
  have CQ := Lib.hid (fun (p : ByteArray) w1 (hp : p.size ≤ 300) => configQuery_any p w1 hp)
  have HSL := Lib.hid (show s.data.toList.length ≤ 300 from hs)
  obtain ⟨S, hS⟩ : ∃ S, S = s.data.toList := ⟨_, rfl⟩
  rw [← hS] at CP HSL ⊢
  obtain ⟨lo, hlo⟩ : ∃ lo, lo = lowS nm := ⟨_, rfl⟩
  rw [← hlo] at CL hne
  clear hs hn hS hlo
  go_enter Tryd.func44, Tryd.ntmps44
  go_wp2_with fail
  generalize hW1 : w.alloc (.cells #[.string nm, .string s] 80) = W1
  obtain ⟨B, hB⟩ : ∃ B, B = w.heap.size := ⟨_, rfl⟩
  have HB := Lib.hid (show Blk W1 B 80 #[.string nm, .string s] from by rw [hB, ← hW1]; exact Blk.new w _ _)
  have HK1 := Lib.hid (show Kp w W1 from hW1 ▸ (Kp.refl w).alloc _)
  rw [← hB]
  have c1 : W1.cell? ⟨B, 1, none⟩ = some (.string s) := HB.out.cell 1
  clear hW1 hB
  go_wp2_with fail
  refine (CP.out _).mono ?_
  rintro e w1 ⟨v, rfl, hrow, hk1⟩
  have HK2 := Lib.hid hk1
  have hsc := splitC_count S
  have hsl := fun q hq => splitC_len S q hq
  obtain ⟨g, cap, rfl⟩ : ∃ g cap, v = .slice (some ⟨g, 0, none⟩) ((splitC S).map trimB).length cap := by
    rcases hrow.2 with ⟨_, h⟩ | ⟨g, cap, cur, h, _⟩
    · exact absurd (List.length_eq_zero_iff.1 h) (by simp [splitC_ne])
    · exact ⟨g, cap, h⟩
  obtain ⟨L, hL⟩ : ∃ L, L = splitC S := ⟨_, rfl⟩
  have HPOST := Lib.hid (fun w' v (h : StrRow w' w.heap.size v (L.map (optL nm.data.toList)) ∧ Kp w w') => (show OptPost nm.data.toList S w (.returned v) w' from ⟨v, rfl, hL ▸ h.1, h.2⟩))
  rw [← hL] at hrow hsc hsl ⊢
  rw [List.length_map] at hrow ⊢
  obtain ⟨n, hn⟩ : ∃ n, n = L.length := ⟨_, rfl⟩
  rw [← hn] at hrow hsc ⊢
  have HN := Lib.hid hn
  have HROW := Lib.hid hrow
  have HLEN := Lib.hid hsl
  have n0 : (n : Int) ≤ 301 := by have := HSL.out; omega
  have c0 : w1.cell? ⟨B, 0, none⟩ = some (.string nm) := (HB.out.kp hk1).cell 0
  have HBL := Lib.hid (HB.out.kp hk1)
  clear hk1 hsc hsl hL hrow hn c1
  go_wp2_with fail
  go_loopg [3, 10] n (fun G s3 s10 wr => ∃ (i : Nat) (vo : Value), n - i = G ∧ i ≤ n ∧ vo = s3 ∧ s10 = .int .i64 (i : Int) ∧ StrRow wr w1.heap.size vo ((L.take i).map (optL nm.data.toList)) ∧ Kp w1 wr)
  case atStart => exact ⟨0, _, rfl, Nat.zero_le _, rfl, rfl, World.ownsRow_nil _ _ _ _, Kp.refl _⟩
  case round =>
    obtain ⟨i, vo, rfl, hi, rfl, rfl, hvo, hkw⟩ := hrel
    have HVO := Lib.hid hvo
    have HKW := Lib.hid hkw
    have HI := Lib.hid hi
    have j0 : (0 : Int) ≤ (i : Int) := by omega
    have j1 : (i : Int) ≤ (n : Int) := by omega
    clear hvo hi
    by_cases hlt : i < n
    · have j2 : (i : Int) < (n : Int) := by omega
      have HLT := Lib.hid hlt
      have hlt' : i < L.length := by rw [← HN.out]; exact hlt
      have d0 := (HROW.out.kp hkw).at i (by rw [List.length_map]; exact hlt')
      have d1 : wr.cell? ⟨B, 0, none⟩ = some (.string nm) := (HBL.out.kp hkw).cell 0
      have eg : (L.map trimB).getD i [] = trimB (L.getD i []) := by
        rw [List.getD_eq_getElem?_getD, List.getD_eq_getElem?_getD, List.getElem?_map, List.getElem?_eq_getElem hlt']; rfl
      rw [eg] at d0
      obtain ⟨p, hp⟩ : ∃ p : ByteArray, p = ⟨(trimB (L.getD i [])).toArray⟩ := ⟨_, rfl⟩
      rw [← hp] at d0
      have hps : p.size ≤ 300 := by
        rw [hp]
        show (trimB (L.getD i [])).length ≤ 300
        have h1 := trimB_len (L.getD i [])
        have h2 : (L.getD i []).length ≤ S.length := by
          rw [List.getD_eq_getElem?_getD, List.getElem?_eq_getElem hlt']
          exact HLEN.out _ (List.getElem_mem _)
        have := HSL.out
        omega
      have CQP := Lib.hid (fun w1 => CQ.out p w1 hps)
      obtain ⟨q, hq⟩ : ∃ q, q = escS true p := ⟨_, rfl⟩
      have hqs : q.size ≤ 900 := by have := escS_le true p; rw [hq]; omega
      have q0 : (q.size : Int) ≤ 900 := by omega
      rw [← hq] at CQP
      have HTK := Lib.hid (show (L.take (i + 1)).map (optL nm.data.toList) = (L.take i).map (optL nm.data.toList) ++ [((nm ++ ⟨#[61]⟩) ++ q).data.toList] from by
        rw [List.take_succ_eq_append_getElem hlt', List.map_append, List.map_cons, List.map_nil]
        have e : L[i] = L.getD i [] := by rw [List.getD_eq_getElem?_getD, List.getElem?_eq_getElem hlt']; rfl
        rw [e, optL, ← hp, ← hq, data_add, data_add])
      clear hlt hlt' eg hp hps hq hqs hkw
      go_wp2_with fail
      refine (CL.out _).mono ?_
      rintro e w2 ⟨rfl, hk2⟩
      have HK3 := Lib.hid hk2
      clear hk2
      go_wp2_with fail
      refine (CQP.out _).mono ?_
      rintro e w3 ⟨rfl, hk3⟩
      have hk4 := HK3.out.trans hk3
      have d2 : w3.cell? ⟨B, 0, none⟩ = some (.string nm) := (HBL.out.kp (HKW.out.trans hk4)).cell 0
      obtain ⟨v1, w5, r1, r2, r3⟩ := str_add w3 HVO.out HKW.out hk4 (by rw [List.length_map, List.length_take]; have := HLT.out; omega) ((nm ++ ⟨#[61]⟩) ++ q) _ (mk_list _).symm
      have H1 := Lib.hid r1
      have H2 := Lib.hid r2
      have H3 := Lib.hid r3
      clear r1 r2 r3 hk4 hk3 d0 d1
      go_wp2_with (at_builtin; refine Lib.wpList_append_run _ rfl _ _ _ _ rfl _ _ rfl rfl _ _ H1.out ?_)
      go_roundg (n - (i + 1))
      case measure => have := HLT.out; omega
      case rel => exact ⟨i + 1, v1, rfl, HLT.out, rfl, by go_num, by rw [HTK.out]; exact H2.out, H3.out⟩
    · obtain rfl : i = n := by have := HI.out; omega
      clear hlt hkw
      go_wp2_with fail
      go_ret
      exact HPOST.out _ _ ⟨by
        have h := HVO.out
        rw [HN.out, List.take_length] at h
        exact h.mono (HK1.out.trans HK2.out).size, (HK1.out.trans HK2.out).trans HKW.out⟩
end Go.Proofs.YtcdbnjhkjfimkaaDoor
