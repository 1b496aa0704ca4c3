/-
  FnSessionBack: what was written is read again, and all that stands behind is left.
-/
import Derived.Test.YtgjfejalinkohaaDoorSes26
import Derived.Test.YtgjfejalinkohaaDoorFnShort
import Derived.Test.YtgjfejalinkohaaDoorOpenP
namespace Go.Proofs.YtgjfejalinkohaaDoor
open Go Go.RowKit

set_option maxRecDepth 100000 in
set_option maxHeartbeats 8000000 in
theorem fnBack_few (a : Option Addr) (n c : Nat) (P : Nat → LPart) (big : Bool) (ck : Nat) (q : Option Addr) (m cm : Nat) (ms : List Int) (w : World) (h : PartsIn w a n P) (hn : n ≤ 20) (hf : allFit 1000 P n = true) (hf2 : allFit 2147483647 P n = true) (hck : ck < 256) (hi : Lib.BytesIn w q m ms) (hx : ms.length = m) (hb : Bys ms) (hm : m ≤ 1000) :
    Calls Tryd.prog 11 #[.slice a n c, .bool big, .int .u8 (ck : Int), .slice q m cm] w fun e w' => e = .returned (.bool true) ∧ Below w.heap.size w w' := by
  have i0 : (0 : Int) ≤ (n : Int) := by omega
  have i1 : (n : Int) ≤ 20 := by omega
  have i2 : (0 : Int) ≤ (m : Int) := by omega
  have i3 : (m : Int) ≤ 1000 := by omega
  have HP := Lib.hid h
  have HN := Lib.hid hn
  have HF := Lib.hid hf
  have Z1 := Lib.hid (zzFits11_few a n c P w h (by omega))
  rw [hf2] at Z1
  have Z2 := Lib.hid (fun w1 (hk : Kp w w1) => sessionFits_any a n c P w1 (h.kp hk) hn)
  rw [hf] at Z2
  have Z3 := Lib.hid (fun w1 (hk : Kp w w1) => sessionPuts_any a n c P w1 (h.kp hk) hn hf)
  have Z5 := Lib.hid (fun w1 (hk : Kp w w1) => sessionGets_any a n c P w1 (h.kp hk) hn)
  have Z6 := Lib.hid (fun w1 (hk : Kp w w1) => sessionGot_any a n c P w1 (h.kp hk) hn)
  obtain ⟨ch, hch⟩ : ∃ ch, ch = ck % 252 + 1 := ⟨_, rfl⟩
  have Z4 := Lib.hid (fun w1 => chunk_any ck w1 hck)
  rw [← hch] at Z4
  have HCH := Lib.hid (show 0 < ch ∧ ch ≤ 252 by omega)
  have HI := Lib.hid hi
  have HX := Lib.hid hx
  have HB := Lib.hid hb
  have HM := Lib.hid hm
  clear h hn hf hf2 hck hch hi hx hb hm
  go_enter Tryd.func11, Tryd.ntmps11
  go_wp2_with fail
  refine Z1.out.mono ?_
  rintro e w1 ⟨rfl, hb1⟩
  have K1 := Lib.hid (show Kp w w1 from hb1)
  clear hb1 Z1
  go_wp2_with fail
  refine (Z2.out w1 K1.out).mono ?_
  rintro e w2 ⟨rfl, hb2⟩
  have K2 := Lib.hid (K1.out.trans hb2)
  clear hb2 Z2
  go_wp2_with fail
  refine (Z3.out w2 K2.out).mono ?_
  rintro e w3 ⟨v, R, rfl, hcoll, hput, hb3⟩
  have K3 := Lib.hid (K2.out.trans hb3)
  obtain ⟨a1, c1, rfl, hputs⟩ := hcoll.puts
  have HPO := Lib.hid hput
  have hok := fun r (hr : r < n) => put_ok (hput r hr) (HP.out.ok r hr) (allFit_at 1000 P n HF.out r hr)
  have SP := Lib.hid (sessionPut_any a1 n c1 R big ch w3 hputs hok (by have := HN.out; omega) HCH.out.1 (by have := HCH.out; omega) (fun _ => by have := HCH.out; omega))
  have HLN := Lib.hid (show (putL big ch R n).length ≤ 600000000 by have := putL_len big ch HCH.out.1 R n hok n (Nat.le_refl _); have := HN.out; omega)
  clear hcoll hputs hput hok hb3 Z3
  go_wp2_with fail
  refine (Z4.out _).mono ?_
  rintro e wx ⟨rfl, rfl⟩
  clear Z4
  go_wp2_with fail
  refine SP.out.mono ?_
  rintro e w4 ⟨q2, l2, d2, rfl, hl2, hown2, hb4⟩
  have HL2 := Lib.hid hl2
  have HP2 := Lib.hid (bin_of_own hown2)
  have K4 := Lib.hid (K3.out.trans (show Kp w3 w4 from hb4))
  clear hl2 hown2 hb4 SP
  go_wp2_with fail
  generalize hW : w4.alloc (.cells #[.slice q2 l2 d2, .slice q m cm] 23) = W4
  have hB : Blk W4 w4.heap.size 23 #[.slice q2 l2 d2, .slice q m cm] := hW ▸ Blk.new w4 _ _
  have hkW : Kp w4 W4 := hW ▸ (Kp.refl w4).alloc _
  have C2 := Lib.hid (concat2 W4 w4.heap.size 23 q2 q l2 d2 m cm (putL big ch R n) ms hB (bin_kp HP2.out hkW) HL2.out (bin_kp HI.out (K4.out.trans hkW)) HX.out (by have := HL2.out; have := HLN.out; have := HM.out; omega))
  have KW4 := Lib.hid (K4.out.trans hkW)
  clear hW hB hkW
  refine C2.out.mono ?_
  rintro e w5 ⟨q3, l3, d3, rfl, hl3, hown3, hb5⟩
  have HL3 := Lib.hid hl3
  have HP3 := Lib.hid (bin_of_own hown3)
  have K5 := Lib.hid (KW4.out.trans (show Kp W4 w5 from hb5))
  clear hl3 hown3 hb5 C2
  go_wp2_with fail
  refine (Z5.out w5 K5.out).mono ?_
  rintro e w6 ⟨v, rfl, hcoll, hb6⟩
  obtain ⟨a2, c2, rfl, hgets⟩ := hcoll.gets
  have K56 : Kp w5 w6 := hb6
  have K6 := Lib.hid (K5.out.trans K56)
  have SG := Lib.hid (sessionGet_any q3 l3 d3 (putL big ch R n ++ ms) a2 n c2 (fun r => getOf (P r)) (fun r => restL big ch R (n - r) r ++ ms) (fun r => wantV (P r)) big w6 (bin_kp HP3.out K56) HL3.out ((parts_bys big ch HPO.out HP.out.ok).app HB.out) (by have h1 := HL3.out; have := HLN.out; have := HX.out; have := HM.out; rw [List.length_append] at h1; omega) hgets (by have := HN.out; omega) (by show restL big ch R (n - 0) 0 ++ ms = _; rw [Nat.sub_zero, rest_all]) (parts_run big ch HCH.out.1 (by have := HCH.out; omega) (fun _ => by have := HCH.out; omega) n P R ms HPO.out HP.out.ok HF.out))
  clear hcoll hgets hb6 K56 Z5
  go_wp2_with fail
  refine SG.out.mono ?_
  rintro e w7 ⟨v, q4, l4, d4, Q, rfl, hown, hgots, hl4, hin4, hb7⟩
  have e4 : restL big ch R (n - n) n ++ ms = ms := by rw [Nat.sub_self]; rfl
  replace hl4 : (restL big ch R (n - n) n ++ ms).length = l4 := hl4
  replace hin4 : Lib.BytesIn w7 q4 l4 (restL big ch R (n - n) n ++ ms) := hin4
  rw [e4, HX.out] at hl4
  rw [e4] at hin4
  subst hl4
  obtain ⟨a3, c3, rfl, _, _⟩ := own_slice hown
  have HGA := Lib.hid (gotAt_own hown)
  have HGI := Lib.hid hgots
  have HI4 := Lib.hid hin4
  have K7 := Lib.hid (K6.out.trans (show Kp w6 w7 from hb7))
  clear hown hgots hin4 hb7 e4 SG
  go_wp2_with fail
  refine (Z6.out w7 K7.out).mono ?_
  rintro e w8 ⟨v, rfl, hown, hb8⟩
  obtain ⟨a4, c4, rfl, _, _⟩ := own_slice hown
  have K78 := Lib.hid (show Kp w7 w8 from hb8)
  have K8 := Lib.hid (K7.out.trans hb8)
  have EQ := Lib.hid (eqGot_any a3 a4 n c3 c4 Q _ _ w8 (HGA.out.kp hb8) (gotAt_own hown) (HGI.out.kp hb8) (want_in (HP.out.kp K8.out)) (by have := HN.out; omega))
  clear hown hb8 Z6
  go_wp2_with fail
  refine EQ.out.mono ?_
  rintro e w9 ⟨rfl, hb9⟩
  have K9 := Lib.hid (K8.out.trans hb9)
  have BE := Lib.hid (bytes_equal_same w9 q4 q m d4 cm ms HX.out (bin_kp HI4.out (K78.out.trans hb9)) (bin_kp HI.out K9.out))
  clear hb9 EQ
  go_wp2_with fail
  refine BE.out.mono ?_
  rintro e wx ⟨rfl, rfl⟩
  clear BE
  go_wp2_with fail
  refine (sessionLive_any _).mono ?_
  rintro e w10 ⟨rfl, hb10⟩
  have HB10 := Lib.hid hb10
  clear hb10
  go_wp2_with fail
  go_ret
  exact ⟨rfl, K9.out.call HB10.out⟩
set_option maxRecDepth 100000 in
set_option maxHeartbeats 4000000 in
theorem fnBack_any (a : Option Addr) (n c : Nat) (P : Nat → LPart) (big : Bool) (ck : Nat) (q : Option Addr) (m cm : Nat) (ms : List Int) (w : World) (h : PartsIn w a n P) (hnc : n ≤ c) (hcm : c ≤ maxLen) (hck : ck < 256) (hi : Lib.BytesIn w q m ms) (hx : ms.length = m) (hb : Bys ms) (hm : m ≤ maxLen) :
    Calls Tryd.prog 11 #[.slice a n c, .bool big, .int .u8 (ck : Int), .slice q m cm] w fun e w' => e = .returned (.bool true) ∧ Below w.heap.size w w' := by
  by_cases hn : n ≤ 2147483647
  · have Z1 := Lib.hid (zzFits11_few a n c P w h hn)
    cases hf2 : allFit 2147483647 P n
    · rw [hf2] at Z1
      clear h hnc hcm hck hi hx hb hm hf2
      go_enter Tryd.func11, Tryd.ntmps11
      go_wp2_with fail
      refine Z1.out.mono ?_
      rintro e w1 ⟨rfl, hb1⟩
      have K1 := Lib.hid (show Kp w w1 from hb1)
      clear hb1 Z1
      go_wp2_with fail
      go_ret
      exact ⟨rfl, K1.out⟩
    · by_cases hm1 : m ≤ 2147483647
      · have j0 : (0 : Int) ≤ (m : Int) := by omega
        have j1 : (m : Int) ≤ 2147483647 := by omega
        by_cases h20 : n ≤ 20
        · cases hf : allFit 1000 P n
          · have Z2 := Lib.hid (fun w1 (hk : Kp w w1) => sessionFits_any a n c P w1 (h.kp hk) h20)
            rw [hf] at Z2
            rw [hf2] at Z1
            clear h hnc hcm hck hi hx hb hm hf2 hf
            go_enter Tryd.func11, Tryd.ntmps11
            go_wp2_with fail
            refine Z1.out.mono ?_
            rintro e w1 ⟨rfl, hb1⟩
            have K1 := Lib.hid (show Kp w w1 from hb1)
            clear hb1 Z1
            go_wp2_with fail
            refine (Z2.out w1 K1.out).mono ?_
            rintro e w2 ⟨rfl, hb2⟩
            have K2 := Lib.hid (K1.out.trans hb2)
            clear hb2 Z2
            go_wp2_with fail
            refine (sessionLive_any _).mono ?_
            rintro e w5 ⟨rfl, hb5⟩
            have HB5 := Lib.hid hb5
            clear hb5
            go_wp2_with fail
            go_ret
            exact ⟨rfl, K2.out.call HB5.out⟩
          · by_cases hm2 : m ≤ 1000
            · exact fnBack_few a n c P big ck q m cm ms w h h20 hf hf2 hck hi hx hb hm2
            · have j2 : (1000 : Int) < (m : Int) := by omega
              have Z2 := Lib.hid (fun w1 (hk : Kp w w1) => sessionFits_any a n c P w1 (h.kp hk) h20)
              rw [hf] at Z2
              rw [hf2] at Z1
              clear h hnc hcm hck hi hx hb hm hf2 hf
              go_enter Tryd.func11, Tryd.ntmps11
              go_wp2_with fail
              refine Z1.out.mono ?_
              rintro e w1 ⟨rfl, hb1⟩
              have K1 := Lib.hid (show Kp w w1 from hb1)
              clear hb1 Z1
              go_wp2_with fail
              refine (Z2.out w1 K1.out).mono ?_
              rintro e w2 ⟨rfl, hb2⟩
              have K2 := Lib.hid (K1.out.trans hb2)
              clear hb2 Z2
              go_wp2_with fail
              refine (sessionLive_any _).mono ?_
              rintro e w5 ⟨rfl, hb5⟩
              have HB5 := Lib.hid hb5
              clear hb5
              go_wp2_with fail
              go_ret
              exact ⟨rfl, K2.out.call HB5.out⟩
        · have Z2 := Lib.hid (fun w1 => sessionFits_no a n c w1 (by omega) hn)
          rw [hf2] at Z1
          clear h hnc hcm hck hi hx hb hm hf2 h20
          go_enter Tryd.func11, Tryd.ntmps11
          go_wp2_with fail
          refine Z1.out.mono ?_
          rintro e w1 ⟨rfl, hb1⟩
          have K1 := Lib.hid (show Kp w w1 from hb1)
          clear hb1 Z1
          go_wp2_with fail
          refine (Z2.out w1).mono ?_
          rintro e w2 ⟨rfl, hb2⟩
          have K2 := Lib.hid (K1.out.trans hb2)
          clear hb2 Z2
          go_wp2_with fail
          refine (sessionLive_any _).mono ?_
          rintro e w5 ⟨rfl, hb5⟩
          have HB5 := Lib.hid hb5
          clear hb5
          go_wp2_with fail
          go_ret
          exact ⟨rfl, K2.out.call HB5.out⟩
      · have j0 : (2147483647 : Int) < (m : Int) := by omega
        have j1 : (m : Int) ≤ 9223372036854775807 := by unfold maxLen at hm; omega
        rw [hf2] at Z1
        clear h hnc hcm hck hi hx hb hm hf2
        go_enter Tryd.func11, Tryd.ntmps11
        go_wp2_with fail
        refine Z1.out.mono ?_
        rintro e w1 ⟨rfl, hb1⟩
        have K1 := Lib.hid (show Kp w w1 from hb1)
        clear hb1 Z1
        go_wp2_with fail
        go_ret
        exact ⟨rfl, K1.out⟩
  · have Z1 := Lib.hid (zzFits11_big a n c w (by omega) (by omega))
    clear h hnc hcm hck hi hx hb hm
    go_enter Tryd.func11, Tryd.ntmps11
    go_wp2_with fail
    refine Z1.out.mono ?_
    rintro e w1 ⟨rfl, hb1⟩
    have K1 := Lib.hid (show Kp w w1 from hb1)
    clear hb1 Z1
    go_wp2_with fail
    go_ret
    exact ⟨rfl, K1.out⟩
end Go.Proofs.YtgjfejalinkohaaDoor
