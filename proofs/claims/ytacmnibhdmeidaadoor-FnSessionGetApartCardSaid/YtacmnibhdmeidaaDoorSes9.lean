/-
  A session reads CLRs in parts; lengths with CLRs, keys with values, fixed CLRs.
-/
import Derived.Test.YtacmnibhdmeidaaDoorSes8
namespace Go.Proofs.YtacmnibhdmeidaaDoor
open Go Go.RowKit

theorem RS.c5 {w : World} {g n c i : Nat} {p : Option Addr} {xs : List Int} {big : Bool} (h : RS w g p n c xs big i) : w.cell? ⟨g, 5, none⟩ = some (.bool big) := h.blk.cell 5
theorem drop_at {xs : List Int} {n i j : Nat} (hl : xs.length = n) (hi : i ≤ n) (hj : j ≤ n) (h : (xs.drop i).length = (xs.drop j).length) : i = j := by simp at h; omega
theorem clrG_next {g : Nat} {p : Option Addr} {n c : Nat} {xs : List Int} {big : Bool} {d rest r acc out : List Int} {w wr wa w2 w3 : World} {row row3 : Option Nat} {k i i' i2 : Nat}
    (hacc : acc.length ≤ i) (hd : acc ++ out = d) (hi : i < i') (hri : r = xs.drop i') (hkl : k ≤ r.length) (hR2 : RS w2 g p n c xs big i2) (hr2 : r.drop k = xs.drop i2) (hi' : i' ≤ n) (_hR : RS wa g p n c xs big i')
    (ht : k = 0 ∧ out = [] ∧ rest = r ∨ 0 < k ∧ ∃ out', out = r.take k ++ out' ∧ Parts big (r.drop k) out' rest) (hgr : w.grownBy wr (some g)) (hg2 : wr.grownBy w2 (some g)) (hlt : g < w.heap.size)
    (hrow : ∀ r, row = some r → w.heap.size ≤ r) (hb3 : BufP w3 92 (fun _ => none) w.heap.size 0 (acc ++ r.take k) row3) (hst3 : Stp w.heap.size row row3 w2 w3) : ClrG g p n c xs big d rest w k i2 w3 ∧ n - i2 < n - i := by
  have hl := hR2.len
  have hlr := congrArg List.length hri
  have hl2 := congrArg List.length hr2
  have h2 := hR2.le
  simp at hlr hl2
  have e2 : i2 = i' + k := by omega
  have hsz := Nat.le_trans hgr.size hg2.size
  have hbel := hst3.below (B := w.heap.size) (Nat.le_refl _) hrow hsz
  have hR3 := hR2.below hbel hlt
  refine ⟨⟨_, row3, hb3, hst3.row_ge hrow hsz, hR3, by simp; omega, grown_below' (grown_trans hgr hg2) hbel, ?_⟩, by omega⟩
  rcases ht with ⟨rfl, rfl, rfl⟩ | ⟨h0, out', rfl, t⟩
  · exact .inr ⟨rfl, by rw [← hr2]; rfl, by simpa using hd⟩
  · exact .inl ⟨h0, out', by rw [← hr2]; exact t, by rw [List.append_assoc]; exact hd⟩

set_option maxRecDepth 100000 in
set_option maxHeartbeats 16000000 in
theorem getClr_parts (g : Nat) (p : Option Addr) (n c : Nat) (xs : List Int) (big : Bool) (i : Nat) (t d rest : List Int) (w : World) (h : RS w g p n c xs big i) (hx : xs.drop i = 254 :: t) (hp : Parts big t d rest) :
    Calls Tryd.prog 51 #[.pointer (some ⟨g, 0, none⟩)] w (GotB g p n c xs big rest d w) := by
  have C := Lib.hid (getByte_any g p n c xs big i 254 t w h hx)
  have hnp : 0 < n := by have := congrArg List.length hx; have := h.len; simp at *; omega
  have HP := Lib.hid hp
  have HNM := Lib.hid h.nm
  clear h hx hp
  go_enter Tryd.func51, Tryd.ntmps51
  go_wp2_with fail
  refine C.out.mono ?_
  rintro e w1 ⟨i', rfl, hR, hr, hg1⟩
  have hlt1 : g < w1.heap.size := hR.blk.lt
  have HR := Lib.hid hR
  have HRR := Lib.hid hr
  have HG := Lib.hid hg1
  clear hR hr hg1 C
  go_wp2_with fail
  generalize hW : w1.alloc (.cells #[.slice none 0 0, .int .i64 0, .int .i8 0] 92) = W
  have H0 := Lib.hid (show ClrG g p n c xs big d rest w1 254 i' W from ⟨[], none, hW ▸ BufP.fresh w1 92, (fun r hr => by cases hr), hW ▸ HR.out.kp ((Kp.refl w1).alloc _), Nat.zero_le _, hW ▸ grown_alloc (World.grownBy.refl w1 _) _, .inl ⟨by omega, d, by rw [← HRR.out]; exact HP.out, rfl⟩⟩)
  clear hW
  go_loopg [5, 3] (n - i') (fun G cs er wr => ∃ k j : Nat, G = n - j ∧ cs = .int .i64 (k : Int) ∧ er = .nilIface ∧ ClrG g p n c xs big d rest w1 k j wr)
  case atStart => exact ⟨254, i', rfl, rfl, rfl, H0.out⟩
  case round =>
    obtain ⟨k, j, rfl, rfl, rfl, acc, row, hb, hrow, hR, hacc, hgr, hend⟩ := hrel
    have HB := Lib.hid hb
    have HRW := Lib.hid hrow
    have HRJ := Lib.hid hR
    have HAC := Lib.hid hacc
    have HGR := Lib.hid hgr
    have c5 := hR.c5
    clear hb hrow hR hacc hgr
    rcases hend with ⟨hk, out, hparts, hd⟩ | ⟨rfl, hrest, rfl⟩
    · obtain ⟨k', r, hh, hkl, ht⟩ := hparts.cases'
      have i0 : (0 : Int) < (k : Int) := by omega
      have HD := Lib.hid hd
      have HT := Lib.hid ht
      have HKL := Lib.hid hkl
      have HLN := Lib.hid (rdHead_len hh)
      clear hparts hd ht hkl hk
      cases big
      · obtain ⟨b, hb0, hxb, hkb⟩ := hh
        have HXB := Lib.hid hxb
        have hbv : b = (k' : Int) := by omega
        have m1 : (0 : Int) ≤ (k' : Int) := by omega
        have m2 : (k' : Int) < 256 := by have := (HRJ.out.byt b (List.mem_of_mem_drop (i := j) (by rw [hxb]; simp))); omega
        subst hbv
        clear hxb hkb hb0
        go_wp2_with fail
        refine (getByte_any g p n c xs false j (k' : Int) r wr HRJ.out HXB.out).mono ?_
        rintro e wa ⟨i1', rfl, hRa, hra, hga⟩
        have HRA := Lib.hid hRa
        have HRRA := Lib.hid hra
        have HGA := Lib.hid hga
        clear hRa hra hga c5
        go_wp2_with fail
        have hi1 : i1' + k' ≤ n := by
          have h1 := congrArg List.length HRRA.out
          have h2 := HRA.out.len
          have h3 := HKL.out
          have h4 := HRA.out.le
          simp at h1
          omega
        have C2 := getBytes_any g p n c xs false i1' k' _ HRA.out hi1
        rw [← List.drop_drop, ← HRRA.out] at C2
        refine C2.mono ?_
        rintro e w2 ⟨q, kq, m, i2, rfl, hk', hin, hkm, hmm, hq, hR, hr, hg2⟩
        have hks : kq = k' := by rw [← hk', List.length_take]; exact Nat.min_eq_left HKL.out
        subst hks
        have HB2 := Lib.hid ((HB.out.grown HGA.out hlt1 (fun r hr => by have := HRW.out r hr; omega)).grown hg2 hlt1 (fun r hr => by have := HRW.out r hr; omega))
        have HK := Lib.hid hk'
        have HIN := Lib.hid hin
        have HQ := Lib.hid (hq hnp)
        have HR2 := Lib.hid hR
        have HRR2 := Lib.hid hr
        have HG2 := Lib.hid (grown_trans HGA.out hg2)
        have HI1 := Lib.hid hi1
        have HIJ := Lib.hid (show j < i1' from by
          have h1 := congrArg List.length HRRA.out
          have h2 := HRA.out.len
          have h3 := HLN.out
          have h4 := HRA.out.le
          simp at h1 h3
          omega)
        clear hk' hin hkm hmm hq hR hr hg2 C2 hi1
        go_wp2_with fail
        refine (write_any 92 (fun _ => none) w1.heap.size 0 acc (r.take kq) row q kq m w2 HB2.out HK.out (by have := HNM.out; have := HAC.out; have := HIJ.out; have := HI1.out; omega) HIN.out (fun a ha => by obtain ⟨b, o, rfl, hlt⟩ := HQ.out; injection ha with ha; subst ha; dsimp only; omega)).mono ?_
        rintro e w3 ⟨row3, rfl, hb3, hst3⟩
        have HB3 := Lib.hid hb3
        have HST3 := Lib.hid hst3
        clear hb3 hst3
        go_wp2_with fail
        go_roundg (n - i2)
        case measure => exact (clrG_next HAC.out HD.out HIJ.out HRRA.out HKL.out HR2.out HRR2.out HRA.out.le HRA.out HT.out HGR.out HG2.out hlt1 HRW.out HB3.out HST3.out).2
        case rel => exact ⟨kq, i2, rfl, rfl, rfl, (clrG_next HAC.out HD.out HIJ.out HRRA.out HKL.out HR2.out HRR2.out HRA.out.le HRA.out HT.out HGR.out HG2.out hlt1 HRW.out HB3.out HST3.out).1⟩
      · obtain ⟨hpk, hk30⟩ := hh
        have HPK := Lib.hid hpk
        have m1 : (0 : Int) ≤ (k' : Int) := by omega
        have m2 : (k' : Int) ≤ 1073741824 := by omega
        clear hpk hk30
        go_wp2_with fail
        refine (getInt_packed g p n c xs true true j 4 (k' : Int) r wr HRJ.out HPK.out).mono ?_
        rintro e wa ⟨i1', rfl, hRa, hra, hga⟩
        have HRA := Lib.hid hRa
        have HRRA := Lib.hid hra
        have HGA := Lib.hid hga
        clear hRa hra hga c5
        go_wp2_with fail
        have hi1 : i1' + k' ≤ n := by
          have h1 := congrArg List.length HRRA.out
          have h2 := HRA.out.len
          have h3 := HKL.out
          have h4 := HRA.out.le
          simp at h1
          omega
        have C2 := getBytes_any g p n c xs true i1' k' _ HRA.out hi1
        rw [← List.drop_drop, ← HRRA.out] at C2
        refine C2.mono ?_
        rintro e w2 ⟨q, kq, m, i2, rfl, hk', hin, hkm, hmm, hq, hR, hr, hg2⟩
        have hks : kq = k' := by rw [← hk', List.length_take]; exact Nat.min_eq_left HKL.out
        subst hks
        have HB2 := Lib.hid ((HB.out.grown HGA.out hlt1 (fun r hr => by have := HRW.out r hr; omega)).grown hg2 hlt1 (fun r hr => by have := HRW.out r hr; omega))
        have HK := Lib.hid hk'
        have HIN := Lib.hid hin
        have HQ := Lib.hid (hq hnp)
        have HR2 := Lib.hid hR
        have HRR2 := Lib.hid hr
        have HG2 := Lib.hid (grown_trans HGA.out hg2)
        have HI1 := Lib.hid hi1
        have HIJ := Lib.hid (show j < i1' from by
          have h1 := congrArg List.length HRRA.out
          have h2 := HRA.out.len
          have h3 := HLN.out
          have h4 := HRA.out.le
          simp at h1 h3
          omega)
        clear hk' hin hkm hmm hq hR hr hg2 C2 hi1
        go_wp2_with fail
        refine (write_any 92 (fun _ => none) w1.heap.size 0 acc (r.take kq) row q kq m w2 HB2.out HK.out (by have := HNM.out; have := HAC.out; have := HIJ.out; have := HI1.out; omega) HIN.out (fun a ha => by obtain ⟨b, o, rfl, hlt⟩ := HQ.out; injection ha with ha; subst ha; dsimp only; omega)).mono ?_
        rintro e w3 ⟨row3, rfl, hb3, hst3⟩
        have HB3 := Lib.hid hb3
        have HST3 := Lib.hid hst3
        clear hb3 hst3
        go_wp2_with fail
        go_roundg (n - i2)
        case measure => exact (clrG_next HAC.out HD.out HIJ.out HRRA.out HKL.out HR2.out HRR2.out HRA.out.le HRA.out HT.out HGR.out HG2.out hlt1 HRW.out HB3.out HST3.out).2
        case rel => exact ⟨kq, i2, rfl, rfl, rfl, (clrG_next HAC.out HD.out HIJ.out HRRA.out HKL.out HR2.out HRR2.out HRA.out.le HRA.out HT.out HGR.out HG2.out hlt1 HRW.out HB3.out HST3.out).1⟩
    · have HRE := Lib.hid hrest
      clear hrest c5
      go_wp2_with fail
      refine (bytes_any 92 (fun _ => none) w1.heap.size 0 _ row wr HB.out).mono ?_
      rintro e w4 ⟨a4, l4, cap4, nq, rfl, hl4, hlc4, hcm4, hin4, _, rfl⟩
      have HL4 := Lib.hid hl4
      have HLC4 := Lib.hid hlc4
      have HCM4 := Lib.hid hcm4
      have HIN4 := Lib.hid hin4
      clear hl4 hlc4 hcm4 hin4
      go_wp2_with fail
      go_ret2
      exact gotB_mk rfl HL4.out HIN4.out HLC4.out HCM4.out (HRJ.out.drewN nq) HRE.out.symm (grown_drewN (grown_trans HG.out HGR.out) nq)

/-- GetClr. -/
theorem getClr_any (g : Nat) (p : Option Addr) (n c : Nat) (xs : List Int) (big : Bool) (i : Nat) (d r : List Int) (w : World) (h : RS w g p n c xs big i) (hx : RdClr big (xs.drop i) d r) :
    Calls Tryd.prog 51 #[.pointer (some ⟨g, 0, none⟩)] w (GotB g p n c xs big r d w) := by
  obtain ⟨b, t, hbt, h1 | h1 | h1⟩ := hx
  · obtain ⟨hb, rfl, rfl⟩ := h1
    exact getClr_none g p n c xs big i b r w h hbt hb
  · obtain ⟨rfl, hp⟩ := h1
    exact getClr_parts g p n c xs big i t d r w h hbt hp
  · obtain ⟨hb, hl, rfl, rfl⟩ := h1
    exact getClr_short g p n c xs big i b t w h hbt hb hl
end Go.Proofs.YtacmnibhdmeidaaDoor
