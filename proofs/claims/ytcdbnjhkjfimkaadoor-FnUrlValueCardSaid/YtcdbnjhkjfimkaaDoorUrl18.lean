/-
  laws.urlCut, laws.urlPlain.
-/
import Derived.Test.YtcdbnjhkjfimkaaDoorUrl17
namespace Go.Proofs.YtcdbnjhkjfimkaaDoor
open Go Go.RowKit

def CutPost (c : UInt8) (s : ByteArray) (w : World) (e : Ending) (w' : World) : Prop := ∃ a b : ByteArray, e = .returned (.tuple #[.string a, .string b]) ∧ a.data.toList = cutA c s.data.toList ∧ b.data.toList = cutR c s.data.toList ∧ Kp w w'
set_option maxRecDepth 100000 in
set_option maxHeartbeats 2000000 in
theorem urlCut_any (s : ByteArray) (c : UInt8) (y : Nat) (hy : y = c.toNat) (w : World) (hs : s.size ≤ 1000000) :
    Calls Tryd.prog 48 #[.string s, .int .u8 (y : Int)] w (CutPost c s w) := by
  have i0 : (s.size : Int) ≤ 1000000 := by omega
  have HL := Lib.hid (show s.data.toList.length = s.size from rfl)
  have HYC := Lib.hid hy
  clear hs hy
  go_enter Tryd.func48, Tryd.ntmps48
  go_wp2_with fail
  go_loopg [9] s.size (fun G st wr => ∃ k : Nat, G = s.size - k ∧ k ≤ s.size ∧ st = .int .i64 (k : Int) ∧ c ∉ s.data.toList.take k ∧ w = wr)
  case atStart => exact ⟨0, rfl, Nat.zero_le _, rfl, by simp, rfl⟩
  case round =>
    obtain ⟨k, rfl, hk, rfl, hn, rfl⟩ := hrel
    have HKN := Lib.hid hk
    have HN := Lib.hid hn
    have j0 : (0 : Int) ≤ (k : Int) := by omega
    have j1 : (k : Int) ≤ (s.size : Int) := by omega
    clear hk hn
    by_cases hlt : k < s.size
    · have j2 : (k : Int) < (s.size : Int) := by omega
      have j3 : (k : Int) + 1 ≤ (s.size : Int) := by omega
      have HLT := Lib.hid hlt
      have HTK := Lib.hid (show s.data.toList.take (k + 1) = s.data.toList.take k ++ [s.data.toList.getD k 0] from by
        rw [List.take_succ_eq_append_getElem (by rw [HL.out]; exact hlt), List.getD_eq_getElem?_getD, List.getElem?_eq_getElem (by rw [HL.out]; exact hlt)]; rfl)
      have HDR := Lib.hid (show s.data.toList = s.data.toList.take k ++ s.data.toList.getD k 0 :: s.data.toList.drop (k + 1) from by
        have h := List.take_append_drop (k + 1) s.data.toList
        rw [HTK.out, List.append_assoc] at h
        exact h.symm)
      have hgd : (s[k]'hlt) = s.data.toList.getD k 0 := by
        rw [List.getD_eq_getElem?_getD, List.getElem?_eq_getElem (by rw [HL.out]; exact hlt)]; rfl
      obtain ⟨x, hx⟩ : ∃ x, (s[k]'hlt).toNat = x := ⟨_, rfl⟩
      have HX := Lib.hid (show (s.data.toList.getD k 0).toNat = x from by rw [← hgd]; exact hx)
      clear hgd
      by_cases hxy : x = y
      · have exy : ((x : Int) == (y : Int)) = true := by simp; omega
        have HE := Lib.hid hxy
        clear hxy
        go_wp2_with fail
        go_quiet (fail)
        go_wp2_with fail
        go_ret2
        have hc : s.data.toList.getD k 0 = c := UInt8.toNat_inj.1 (by rw [HX.out, HE.out, HYC.out])
        have h := HDR.out
        rw [hc] at h
        obtain ⟨h1, h2⟩ := cut_at c (s.data.toList.drop (k + 1)) (s.data.toList.take k) HN.out
        rw [← h] at h1 h2
        exact ⟨_, _, rfl, by rw [h1, ext_list], by rw [h2, drop_list], (Kp.refl _).drewN _⟩
      · have exy : ((x : Int) == (y : Int)) = false := by simp; omega
        have HE := Lib.hid hxy
        clear hxy
        go_wp2_with fail
        go_roundg (s.size - (k + 1))
        case measure => have := HLT.out; omega
        case rel => exact ⟨k + 1, rfl, HLT.out, by go_num, fun hm => (by
          rw [HTK.out] at hm
          rcases List.mem_append.1 hm with hm | hm
          · exact HN.out hm
          · rw [List.mem_singleton] at hm
            exact HE.out (by rw [← HX.out, ← hm, HYC.out])), rfl⟩
    · obtain rfl : k = s.size := by have := HKN.out; omega
      clear hlt
      go_wp2_with fail
      go_ret2
      have h := HN.out
      rw [List.take_of_length_le (by rw [HL.out]; exact Nat.le_refl _)] at h
      obtain ⟨h1, h2⟩ := cut_none c _ h
      exact ⟨_, _, rfl, h1.symm, by rw [h2], Kp.refl _⟩

/-- strconv.ParseUint of two hex signs. -/
theorem parseHex_any (s : ByteArray) (a b : Nat) (w : World) (hs : s.data.toList = [hexB a, hexB b]) (ha : a < 16) (hb : b < 16) :
    Calls Tryd.prog 84 #[.string s, .int .i64 16, .int .i64 8] w fun e w' => e = .returned (.tuple #[.int .u64 ((16 * a + b : Nat) : Int), .nilIface]) ∧ Kp w w' := by
  have C := Lib.hid (parseHexI_any s a b w hs ha hb)
  clear hs ha hb
  go_enter Tryd.func84, Tryd.ntmps84
  go_wp2_with fail
  refine C.out.mono ?_
  rintro e w1 ⟨rfl, hk⟩
  have HK := Lib.hid hk
  clear hk C
  go_wp2_with fail
  go_ret2
  exact ⟨rfl, HK.out⟩
theorem esc_at (p : List UInt8) (k : Nat) (h : k < p.length) : escL true p = escL true (p.take k) ++ (escB true (p.getD k 0) ++ escL true (p.drop (k + 1))) := by
  have e : p = p.take k ++ (p.getD k 0 :: p.drop (k + 1)) := by
    have h1 := List.take_append_drop k p
    rw [getD_drop p k h] at h1
    exact h1.symm
  conv => lhs; rw [e, escL, List.flatMap_append, List.flatMap_cons]
  rfl
theorem esc_next (p : List UInt8) (k : Nat) (h : k < p.length) : escL true (p.take (k + 1)) = escL true (p.take k) ++ escB true (p.getD k 0) := by
  rw [List.take_succ_eq_append_getElem h, escL, List.flatMap_append, List.flatMap_cons, List.flatMap_nil, List.append_nil, List.getD_eq_getElem?_getD, List.getElem?_eq_getElem h]
  rfl
theorem esc_get (p : List UInt8) (k j : Nat) (h : k < p.length) (hj : j < (escB true (p.getD k 0)).length) : (escL true p).getD ((escL true (p.take k)).length + j) 0 = (escB true (p.getD k 0)).getD j 0 := by
  rw [esc_at p k h, List.getD_eq_getElem?_getD, List.getElem?_append_right (by omega), Nat.add_sub_cancel_left, List.getElem?_append_left hj, ← List.getD_eq_getElem?_getD]
theorem esc_room (p : List UInt8) (k : Nat) (h : k < p.length) : (escL true (p.take k)).length + (escB true (p.getD k 0)).length ≤ (escL true p).length := by
  have := congrArg List.length (esc_at p k h)
  simp only [List.length_append] at this
  omega
theorem escq_blank : escB true 32 = [43] := rfl
theorem escq_ok (c : UInt8) (h : okB [] c = true) : escB true c = [c] := by
  have h32 : (c == 32) = false := by
    simp only [beq_eq_false_iff_ne, ne_eq]
    rintro rfl
    exact absurd h (by decide)
  rw [escB, h32]
  simp [h]
theorem escq_hex (c : UInt8) (h : okB [] c = false) (h32 : ¬ c = 32) : escB true c = [37, hexB (c.toNat / 16), hexB (c.toNat % 16)] := by
  have h3 : (c == 32) = false := by simp [h32]
  rw [escB, h3]
  simp [h]
/-- Bytes as numbers. -/
def natL (l : List UInt8) : List Int := l.map fun b => (b.toNat : Int)
theorem natL_snoc (l : List UInt8) (c : UInt8) : (natL (l ++ [c])).map (Value.int .u8) = (natL l).map (Value.int .u8) ++ [Value.int .u8 (c.toNat : Int)] := by simp [natL]
def PlainSt (p : List UInt8) (w : World) (k : Nat) (vo : Value) (wr : World) : Prop := wr.ownsRow w.heap.size 5 1 vo k ((natL (p.take k)).map (Value.int .u8)) ∧ Kp w wr
theorem plain_add {p : List UInt8} {w : World} {k : Nat} {vo : Value} {wr : World} (W : World) (h : PlainSt p w k vo wr) (hk : Kp wr W) (hn : k < p.length) (hm : k ≤ 1000) (x : Nat) (hx : (p.getD k 0).toNat = x) :
    ∃ v1 w5, (Builtin.append_ #[26, 26] 26 #[vo, .slice (some ⟨W.heap.size, 0, none⟩) 1 1]).run Tryd.prog (W.alloc (.cells #[.int .u8 (x : Int)] 5)) = .ok v1 w5 ∧ PlainSt p w (k + 1) v1 w5 := by
  obtain ⟨h1, h2⟩ := h
  obtain ⟨v1, w5, r1, r2, r3, r4⟩ := app_one Tryd.underlying26 info5 rfl (by decide) (by decide) W w.heap.size vo k _ (own_below h1 hk) (h2.trans hk).size (by omega) [.int .u8 (x : Int)] rfl (fun u hu => by rw [List.mem_singleton.1 hu]; rfl)
  refine ⟨v1, w5, r1, ?_, (h2.trans hk).grown r3 (own_ge (own_below h1 hk))⟩
  rw [List.take_succ_eq_append_getElem hn]
  have e : p[k] = p.getD k 0 := by rw [List.getD_eq_getElem?_getD, List.getElem?_eq_getElem hn]; rfl
  rw [e, natL_snoc, hx]
  exact r2
def PlainPost (p : ByteArray) (w : World) (e : Ending) (w' : World) : Prop := e = .returned (.tuple #[.string p, .bool true]) ∧ Kp w w'
theorem s_get (s : ByteArray) (l : List UInt8) (hs : s.data.toList = l) (i : Nat) (h : i < s.size) : s[i] = l.getD i 0 := by
  subst hs
  rw [List.getD_eq_getElem?_getD, List.getElem?_eq_getElem (show i < s.data.toList.length from h)]
  rfl
set_option maxRecDepth 100000 in
set_option maxHeartbeats 8000000 in
theorem urlPlain_any (s q : ByteArray) (w : World) (hs : s.data.toList = escL true q.data.toList) (hq : q.size ≤ 300) (hq0 : 0 < q.size) :
    Calls Tryd.prog 50 #[.string s, .bool true] w (PlainPost q w) := by
  obtain ⟨p, hp⟩ : ∃ p, p = q.data.toList := ⟨_, rfl⟩
  have hpl : p.length = q.size := by rw [hp]; rfl
  rw [← hp] at hs
  have hz : s.size = (escL true p).length := by rw [← hs]; rfl
  have hz2 : s.size ≤ 900 := by
    have := escL_count true p
    have := cntX_le true p
    omega
  have i0 : (s.size : Int) ≤ 900 := by omega
  have HP := Lib.hid hp
  have HS := Lib.hid hs
  have HZ := Lib.hid hz
  have HPL := Lib.hid hpl
  have HQ := Lib.hid (And.intro hq hq0)
  have HG := Lib.hid (fun (k j : Nat) (c : UInt8) (h : k < p.length) (hc : p.getD k 0 = c) (hj : j < (escB true c).length) (hi : (escL true (p.take k)).length + j < s.size) => (show s[(escL true (p.take k)).length + j] = (escB true c).getD j 0 from by
    subst hc
    rw [s_get s _ hs _ hi]
    exact esc_get p k j h hj))
  clear hp hpl hs hz hz2 hq hq0
  go_enter Tryd.func50, Tryd.ntmps50
  go_wp2_with fail
  go_loopg [6, 7] p.length (fun G s6 s7 wr => ∃ (k : Nat) (vo : Value), G = p.length - k ∧ k ≤ p.length ∧ vo = s6 ∧ s7 = .int .i64 ((escL true (p.take k)).length : Int) ∧ PlainSt p w k vo wr)
  case atStart => exact ⟨0, _, rfl, Nat.zero_le _, rfl, rfl, World.ownsRow_nil _ _ _ _, Kp.refl _⟩
  case round =>
    obtain ⟨k, vo, rfl, hk, rfl, rfl, hst⟩ := hrel
    have HST := Lib.hid hst
    by_cases hlt : k < p.length
    · have HLT := Lib.hid hlt
      have hroom := esc_room p k hlt
      have hnext := congrArg List.length (esc_next p k hlt)
      rw [List.length_append] at hnext
      have HGK := Lib.hid (fun j c hc hj hi => HG.out k j c hlt hc hj hi)
      obtain ⟨c, hc⟩ : ∃ c, p.getD k 0 = c := ⟨_, rfl⟩
      rw [hc] at hroom hnext
      have HCC := Lib.hid hc
      have hk300 : k ≤ 1000 := by have := HPL.out; have := HQ.out; omega
      obtain ⟨I, hI⟩ : ∃ I, (escL true (p.take k)).length = I := ⟨_, rfl⟩
      rw [hI] at hroom hnext
      rw [← HZ.out] at hroom
      have HI := Lib.hid hI
      have HGK2 := Lib.hid (fun j (hj : j < (escB true c).length) (hi : I + j < s.size) => (show s[I + j] = (escB true c).getD j 0 from by
        subst hI
        exact HGK.out j c hc hj hi))
      have j0 : (0 : Int) ≤ (I : Int) := by omega
      have HADD := Lib.hid (fun W (hkw : Kp wr W) x (hx : c.toNat = x) => plain_add W HST.out hkw hlt hk300 x (by rw [hc]; exact hx))
      rw [hI]
      clear hst hc hI hlt hk hk300
      by_cases h32 : c = 32
      · subst h32
        rw [escq_blank] at hroom hnext HGK2
        have hx := HGK2.out 0 (by decide) (by simp at hroom; omega)
        have HN := Lib.hid (show (escL true (p.take (k + 1))).length = I + 1 from hnext)
        have j1 : (I : Int) < (s.size : Int) := by simp at hroom; omega
        have hlt : I < s.size := by omega
        have hy : (s[I]'hlt).toNat = 43 := by
          have : s[I]'hlt = 43 := hx
          rw [this]; rfl
        obtain ⟨v1, w5, r1, r2⟩ := HADD.out wr (Kp.refl _) 32 rfl
        have H1 := Lib.hid r1
        have H2 := Lib.hid r2
        clear hx hnext hroom r1 r2
        go_wp2_with (at_builtin; refine Lib.wpList_append_run _ rfl _ _ _ _ rfl _ _ rfl rfl _ _ H1.out ?_)
        go_roundg (p.length - (k + 1))
        case measure => have := HLT.out; omega
        case rel => exact ⟨k + 1, v1, rfl, HLT.out, rfl, by rw [HN.out]; go_num, H2.out⟩
      · cases hok : okB [] c
        · rw [escq_hex c hok h32] at hroom hnext HGK2
          have hx0 := HGK2.out 0 (by simp) (by simp at hroom; omega)
          have hx1 := HGK2.out 1 (by simp) (by simp at hroom; omega)
          have hx2 := HGK2.out 2 (by simp) (by simp at hroom; omega)
          have HN := Lib.hid (show (escL true (p.take (k + 1))).length = I + 3 from hnext)
          have j1 : (I : Int) + 3 ≤ (s.size : Int) := by simp at hroom; omega
          have hlt : I < s.size := by omega
          have hy : (s[I]'hlt).toNat = 37 := by
            have : s[I]'hlt = 37 := hx0
            rw [this]; rfl
          have hc256 := c.toNat_lt
          have hext : (s.extract (I + 1) (I + 3)).data.toList = [hexB (c.toNat / 16), hexB (c.toNat % 16)] := by
            rw [Lib.extract_data, show I + 3 - (I + 1) = 2 by omega]
            have hsl : s.data.toList.length = s.size := rfl
            have e1 := getD_drop s.data.toList (I + 1) (by omega)
            have e2 := getD_drop s.data.toList (I + 2) (by omega)
            rw [e1, show I + 1 + 1 = I + 2 by omega, e2]
            have g1 := s_get s _ rfl (I + 1) (by omega)
            have g2 := s_get s _ rfl (I + 2) (by omega)
            rw [← g1, ← g2, hx1, hx2]
            rfl
          have CP := Lib.hid (fun w1 => parseHex_any (s.extract (I + 1) (I + 3)) (c.toNat / 16) (c.toNat % 16) w1 hext (by omega) (by omega))
          rw [show 16 * (c.toNat / 16) + c.toNat % 16 = c.toNat by omega] at CP
          obtain ⟨x, hx⟩ : ∃ x, c.toNat = x := ⟨_, rfl⟩
          rw [hx] at CP
          have x1 : (x : Int) < 256 := by omega
          have HADX := Lib.hid (fun W hkw => HADD.out W hkw x hx)
          have k1 : ((I : Int) + 1).toNat = I + 1 := by omega
          have k3 : ((I : Int) + 3).toNat = I + 3 := by omega
          clear hx0 hx1 hx2 hnext hroom hext hc256 hx hok h32
          go_wp2_with fail
          refine (CP.out _).mono ?_
          rintro e w2 ⟨rfl, hk2⟩
          obtain ⟨v1, w5, r1, r2⟩ := HADX.out w2 hk2
          have H1 := Lib.hid r1
          have H2 := Lib.hid r2
          clear r1 r2 hk2
          go_wp2_with (at_builtin; refine Lib.wpList_append_run _ rfl _ _ _ _ rfl _ _ rfl rfl _ _ H1.out ?_)
          go_roundg (p.length - (k + 1))
          case measure => have := HLT.out; omega
          case rel => exact ⟨k + 1, v1, rfl, HLT.out, rfl, by rw [HN.out]; go_num, H2.out⟩
        · rw [escq_ok c hok] at hroom hnext HGK2
          have hx0 := HGK2.out 0 (by simp) (by simp at hroom; omega)
          have HN := Lib.hid (show (escL true (p.take (k + 1))).length = I + 1 from hnext)
          have j1 : (I : Int) < (s.size : Int) := by simp at hroom; omega
          have hlt : I < s.size := by omega
          obtain ⟨x, hx⟩ : ∃ x, c.toNat = x := ⟨_, rfl⟩
          have hy : (s[I]'hlt).toNat = x := by
            have : s[I]'hlt = c := hx0
            rw [this]; exact hx
          have x37 : ((x : Int) == 37) = false := by
            simp only [beq_eq_false_iff_ne, ne_eq]
            intro h
            have : c = 37 := UInt8.toNat_inj.1 (by rw [hx]; show x = 37; omega)
            rw [this] at hok
            exact absurd hok (by decide)
          have x43 : ((x : Int) == 43) = false := by
            simp only [beq_eq_false_iff_ne, ne_eq]
            intro h
            have : c = 43 := UInt8.toNat_inj.1 (by rw [hx]; show x = 43; omega)
            rw [this] at hok
            exact absurd hok (by decide)
          obtain ⟨v1, w5, r1, r2⟩ := HADD.out wr (Kp.refl _) x hx
          have H1 := Lib.hid r1
          have H2 := Lib.hid r2
          clear hx0 hnext hroom r1 r2 hx hok h32
          go_wp2_with (at_builtin; refine Lib.wpList_append_run _ rfl _ _ _ _ rfl _ _ rfl rfl _ _ H1.out ?_)
          go_roundg (p.length - (k + 1))
          case measure => have := HLT.out; omega
          case rel => exact ⟨k + 1, v1, rfl, HLT.out, rfl, by rw [HN.out]; go_num, H2.out⟩
    · obtain rfl : k = p.length := by omega
      rw [List.take_length]
      have hown := HST.out.1
      rw [List.take_length] at hown
      obtain ⟨g, d, rfl, _, _, hin⟩ := own_pos hown (by have := HPL.out; have := HQ.out; omega)
      have hb : Lib.Bytes wr g 0 q := fun i hi => by
        have h := bin_cells hin i (by rw [HPL.out]; exact hi)
        rw [h]
        congr 2
        unfold natL
        have hi2 : i < p.length := by rw [HPL.out]; exact hi
        rw [List.getD_eq_getElem?_getD, List.getElem?_map, List.getElem?_eq_getElem hi2]
        simp only [Option.map_some, Option.getD_some]
        have hpp := HP.out
        subst hpp
        rfl
      have hconv : (convert 26 9 (.slice (some ⟨g, 0, none⟩) p.length d)).run Tryd.prog wr = .ok (.string q) wr := by
        rw [HPL.out]
        exact Lib.run_convert_whole (P := Tryd.prog) wr 26 5 9 Tryd.underlying26 Tryd.underlying5 Tryd.underlying9 g 0 q hb d
      have hze : ((escL true p).length : Int) = (s.size : Int) := by rw [HZ.out]
      have HKW := Lib.hid HST.out.2
      rw [hze]
      clear hst hlt hk hown hin hb hze
      go_wp2_with fail
      go_ret2
      exact ⟨rfl, HKW.out⟩
end Go.Proofs.YtcdbnjhkjfimkaaDoor
