/-
  The reference's PacketConnect.
-/
import Derived.Test.YtaohgebiedkdaaaDoorConn2
import Derived.Test.YtaohgebiedkdaaaDoorSpecPut
import Derived.KernelRfl
namespace Go.Proofs.YtaohgebiedkdaaaDoor
open Go Go.RowKit

/-- The same bytes, in the reference's order. -/
def connBx (long : Bool) (v lo op oo n1 n2 su tu len m : Int) : List Int :=
  setAll (setAll (((setAll (setAll (setAll (((setAll (setAll (setAll (setAll (setAll (headL long len 1 0 70) 8 (be2 v)) 10 (be2 lo)) 12 (be2 op)) 14 (be2 n1)) 16 (be2 n2)).set 18 79).set 19 152) 22 (be2 oo)) 24 (be2 m)) 26 (be2 70)).set 32 1).set 33 1) 58 (be4 su)) 62 (be4 tu)
def connAx (long : Bool) (v lo op oo n1 n2 su tu len m : Int) : List Int :=
  ((setAll (setAll (setAll (((setAll (setAll (setAll (setAll (setAll (setAll (setAll (setAll (headL long len 1 0 70) 8 (be2 v)) 10 (be2 lo)) 12 (be2 op)) 14 (be2 n1)) 58 (be4 su)) 16 (be2 n2)) 62 (be4 tu)) 66 (be4 0)).set 18 79).set 19 152) 22 (be2 oo)) 24 (be2 m)) 26 (be2 70)).set 32 1).set 33 1
theorem conn_false (v lo op oo n1 n2 su tu len m : Int) : connBx false v lo op oo n1 n2 su tu len m = connAx false v lo op oo n1 n2 su tu len m := by kernel_rfl
theorem conn_true (v lo op oo n1 n2 su tu len m : Int) : connBx true v lo op oo n1 n2 su tu len m = connAx true v lo op oo n1 n2 su tu len m := by kernel_rfl
def connB (c : Cx) (len : Int) (m : Nat) : List Int := connBx c.long c.v c.lo c.op c.oo (min c.su 65535) (min c.tu 65535) c.su c.tu len m
theorem conn_same (c : Cx) (len : Int) (m : Nat) : connB c len m = connA c.conn len m := by
  have h : connA c.conn len m = connAx c.long c.v c.lo c.op c.oo (min c.su 65535) (min c.tu 65535) c.su c.tu len m := rfl
  rw [h, connB]
  cases c.long
  · exact conn_false _ _ _ _ _ _ _ _ _ _
  · exact conn_true _ _ _ _ _ _ _ _ _ _

set_option maxRecDepth 100000 in
set_option maxHeartbeats 4000000 in
theorem specConn_any (c : Cx) (s : ByteArray) (w : World) (ok : c.Ok) (hm : s.size ≤ 2000) :
    Calls Tryd.prog 24 #[c.val, .string s] w fun e w' => ∃ v, e = .returned v ∧ w'.ownsRow w.heap.size 5 1 v (70 + if s.size ≤ 230 then s.size else 0) ((connL c s).map (Value.int .u8)) ∧ Below w.heap.size w w' := by
  have ok1 := ok.v
  have ok2 := ok.lo
  have ok3 := ok.op
  have ok4 := ok.oo
  have ok5 := ok.su
  have ok6 := ok.tu
  have i0 : ((s.size : Nat) : Int) ≤ 2000 := by omega
  obtain ⟨n1, hn1⟩ : ∃ n1 : Int, min c.su 65535 = n1 := ⟨_, rfl⟩
  obtain ⟨n2, hn2⟩ : ∃ n2 : Int, min c.tu 65535 = n2 := ⟨_, rfl⟩
  have HN1 := Lib.hid hn1
  have HN2 := Lib.hid hn2
  have bn1 : 0 ≤ n1 ∧ n1 ≤ 65535 := by omega
  have bn2 : 0 ≤ n2 ∧ n2 ≤ 65535 := by omega
  have HF := Lib.hid (fun _ : Unit => conn_same c (connLen s.size) s.size)
  have HL : 0 ≤ connLen s.size ∧ connLen s.size < 4294967296 := by unfold connLen; split <;> omega
  have hlen : (s.size ≤ 230 → connLen s.size = 70 + (s.size : Int)) ∧ (¬ s.size ≤ 230 → connLen s.size = 70) := by
    unfold connLen
    constructor <;> intro h
    · rw [if_pos h, Int.add_comm]
    · rw [if_neg h]; rfl
  have HH := Lib.hid (fun w1 => specHead_any c 70 (connLen s.size) 1 0 70 w1 rfl (by decide) (by decide) HL.1 HL.2)
  have HS := Lib.hid (sL_cells s)
  have HE := Lib.hid (show connL c s = connA c.conn (connLen s.size) s.size ++ if s.size ≤ 230 then sL s else [] from rfl)
  have HK := Lib.hid (show connB c (connLen s.size) s.size = connB c (connLen s.size) s.size from rfl)
  generalize hlong : c.long = long at *
  generalize connL c s = ys at *
  generalize hk : (70 + if s.size ≤ 230 then s.size else 0) = k at *
  have HKK := Lib.hid hk
  clear hk
  generalize sL s = xs at *
  generalize connA c.conn (connLen s.size) s.size = zs at *
  unfold connB connBx at HF
  rw [hlong] at HF
  generalize connLen s.size = len at *
  unfold Cx.val at *
  clear HL ok HK hlong
  by_cases hq : s.size ≤ 230
  · have hl := hlen.1 hq
    have hq1 : ((s.size : Nat) : Int) ≤ 230 := by omega
    clear hlen
    subst hl
    have HQ := Lib.hid hq
    clear hq
    go_enter Tryd.func24, Tryd.ntmps24
    go_wp2_with fail
    refine (HH.out _).mono ?_
    rintro e w1 ⟨g, rfl, hown, hb⟩
    have HC1 := Lib.hid ((Blk.new w 35 #[.int .u16 c.v, .int .u16 c.lo, .int .u16 c.op, .int .u16 c.oo, .int .u16 c.hi, .int .u8 c.a0, .int .u8 c.a1, .int .u32 c.su, .int .u32 c.tu, .bool c.cp]).old hb)
    have HB1 := Lib.hid (((Below.refl w.heap.size w).alloc (Nat.le_refl _) _).trans (hb.mono (by simp)))
    have hg := own_lt hown
    have hgw : w.heap.size + 1 ≤ g := by have := hg.1; rw [World.size_alloc] at this; omega
    have hne : w.heap.size ≠ g := by omega
    have hgb : w.heap.size ≤ g := by omega
    generalize hL1 : headL long _ 1 0 70 = L1 at hown
    have HL1 := Lib.hid hL1
    have HO1 := Lib.hid (own_base hown (show w.heap.size ≤ _ by simp))
    clear hown hb hg hL1
    have ck : w1.cell? ⟨w.heap.size, 0, none⟩ = some (.int .u16 c.v) := HC1.out.cell 0
    go_wp2_with fail
    refine (packetPut2 w.heap.size g 70 70 8 c.v L1 w1 HO1.out (by omega) (by omega) (by omega) (by omega)).mono ?_
    rintro e w2 ⟨rfl, hown, hg⟩
    have HC2 := Lib.hid (HC1.out.grown hg (by intro e; injection e; omega))
    have HB2 := Lib.hid (HB1.out.trans (below_grown hg hgb HB1.out.size))
    generalize hL2 : setAll L1 8 (be2 c.v) = L2 at hown
    have HL2 := Lib.hid hL2
    have HO2 := Lib.hid hown
    clear hown hg hL2 HC1 HB1 HO1 ck
    have ck : w2.cell? ⟨w.heap.size, 1, none⟩ = some (.int .u16 c.lo) := HC2.out.cell 1
    go_wp2_with fail
    refine (packetPut2 w.heap.size g 70 70 10 c.lo L2 w2 HO2.out (by omega) (by omega) (by omega) (by omega)).mono ?_
    rintro e w3 ⟨rfl, hown, hg⟩
    have HC3 := Lib.hid (HC2.out.grown hg (by intro e; injection e; omega))
    have HB3 := Lib.hid (HB2.out.trans (below_grown hg hgb HB2.out.size))
    generalize hL3 : setAll L2 10 (be2 c.lo) = L3 at hown
    have HL3 := Lib.hid hL3
    have HO3 := Lib.hid hown
    clear hown hg hL3 HC2 HB2 HO2 ck
    have ck : w3.cell? ⟨w.heap.size, 2, none⟩ = some (.int .u16 c.op) := HC3.out.cell 2
    go_wp2_with fail
    refine (packetPut2 w.heap.size g 70 70 12 c.op L3 w3 HO3.out (by omega) (by omega) (by omega) (by omega)).mono ?_
    rintro e w4 ⟨rfl, hown, hg⟩
    have HC4 := Lib.hid (HC3.out.grown hg (by intro e; injection e; omega))
    have HB4 := Lib.hid (HB3.out.trans (below_grown hg hgb HB3.out.size))
    generalize hL4 : setAll L3 12 (be2 c.op) = L4 at hown
    have HL4 := Lib.hid hL4
    have HO4 := Lib.hid hown
    clear hown hg hL4 HC3 HB3 HO3 ck
    have ck : w4.cell? ⟨w.heap.size, 7, none⟩ = some (.int .u32 c.su) := HC4.out.cell 7
    go_wp2_with fail
    refine (packetPut2 w.heap.size g 70 70 14 n1 L4 w4 HO4.out (by omega) (by omega) (by omega) (by omega)).mono ?_
    rintro e w5 ⟨rfl, hown, hg⟩
    have HC5 := Lib.hid (HC4.out.grown hg (by intro e; injection e; omega))
    have HB5 := Lib.hid (HB4.out.trans (below_grown hg hgb HB4.out.size))
    generalize hL5 : setAll L4 14 (be2 n1) = L5 at hown
    have HL5 := Lib.hid hL5
    have HO5 := Lib.hid hown
    clear hown hg hL5 HC4 HB4 HO4 ck
    have ck : w5.cell? ⟨w.heap.size, 8, none⟩ = some (.int .u32 c.tu) := HC5.out.cell 8
    go_wp2_with fail
    refine (packetPut2 w.heap.size g 70 70 16 n2 L5 w5 HO5.out (by omega) (by omega) (by omega) (by omega)).mono ?_
    rintro e w6 ⟨rfl, hown, hg⟩
    have HC6 := Lib.hid (HC5.out.grown hg (by intro e; injection e; omega))
    have HB6 := Lib.hid (HB5.out.trans (below_grown hg hgb HB5.out.size))
    generalize hL6 : setAll L5 16 (be2 n2) = L6 at hown
    have HL6 := Lib.hid hL6
    have HO6 := Lib.hid hown
    clear hown hg hL6 HC5 HB5 HO5 ck
    have s1 := own_cell HO6.out 18 (by omega)
    have z1 := HO6.out.frozenAt 18
    have s2 := own_cell HO6.out 19 (by omega)
    have z2 := HO6.out.frozenAt 19
    go_upto_region 11 with fail
    have HO7 := Lib.hid (own_store (own_store HO6.out 18 79).1 19 152).1
    have HC7 := Lib.hid ((HC6.out.other (i := 18) (u := .int .u8 79) hne).other (i := 19) (u := .int .u8 152) hne)
    have HB7 := Lib.hid ((HB6.out.setCell (p := ⟨g, 18, none⟩) hgb (.int .u8 79)).setCell (p := ⟨g, 19, none⟩) hgb (.int .u8 152))
    clear HO6 HC6 HB6 s1 s2 z1 z2
    generalize ((w6.setCell ⟨g, 18, none⟩ (.int .u8 79)).setCell ⟨g, 19, none⟩ (.int .u8 152)) = w7 at *
    generalize hL7 : (L6.set 18 79).set 19 152 = L7 at HO7
    have HL7 := Lib.hid hL7
    clear hL7
    have ck : w7.cell? ⟨w.heap.size, 3, none⟩ = some (.int .u16 c.oo) := HC7.out.cell 3
    go_wp2_with fail
    refine (packetPut2 w.heap.size g 70 70 22 c.oo L7 w7 HO7.out (by omega) (by omega) (by omega) (by omega)).mono ?_
    rintro e w8 ⟨rfl, hown, hg⟩
    have HC8 := Lib.hid (HC7.out.grown hg (by intro e; injection e; omega))
    have HB8 := Lib.hid (HB7.out.trans (below_grown hg hgb HB7.out.size))
    generalize hL8 : setAll L7 22 (be2 c.oo) = L8 at hown
    have HL8 := Lib.hid hL8
    have HO8 := Lib.hid hown
    clear hown hg hL8 HC7 HB7 HO7 ck
    go_wp2_with fail
    refine (packetPut2 w.heap.size g 70 70 24 (s.size : Int) L8 w8 HO8.out (by omega) (by omega) (by omega) (by omega)).mono ?_
    rintro e w9 ⟨rfl, hown, hg⟩
    have HC9 := Lib.hid (HC8.out.grown hg (by intro e; injection e; omega))
    have HB9 := Lib.hid (HB8.out.trans (below_grown hg hgb HB8.out.size))
    generalize hL9 : setAll L8 24 (be2 (s.size : Int)) = L9 at hown
    have HL9 := Lib.hid hL9
    have HO9 := Lib.hid hown
    clear hown hg hL9 HC8 HB8 HO8
    go_wp2_with fail
    refine (packetPut2 w.heap.size g 70 70 26 70 L9 w9 HO9.out (by omega) (by omega) (by omega) (by omega)).mono ?_
    rintro e w10 ⟨rfl, hown, hg⟩
    have HC10 := Lib.hid (HC9.out.grown hg (by intro e; injection e; omega))
    have HB10 := Lib.hid (HB9.out.trans (below_grown hg hgb HB9.out.size))
    generalize hL10 : setAll L9 26 (be2 70) = L10 at hown
    have HL10 := Lib.hid hL10
    have HO10 := Lib.hid hown
    clear hown hg hL10 HC9 HB9 HO9
    have s1 := own_cell HO10.out 32 (by omega)
    have z1 := HO10.out.frozenAt 32
    have s2 := own_cell HO10.out 33 (by omega)
    have z2 := HO10.out.frozenAt 33
    go_upto_region 15 with fail
    have HO11 := Lib.hid (own_store (own_store HO10.out 32 1).1 33 1).1
    have HC11 := Lib.hid ((HC10.out.other (i := 32) (u := .int .u8 1) hne).other (i := 33) (u := .int .u8 1) hne)
    have HB11 := Lib.hid ((HB10.out.setCell (p := ⟨g, 32, none⟩) hgb (.int .u8 1)).setCell (p := ⟨g, 33, none⟩) hgb (.int .u8 1))
    clear HO10 HC10 HB10 s1 s2 z1 z2
    generalize ((w10.setCell ⟨g, 32, none⟩ (.int .u8 1)).setCell ⟨g, 33, none⟩ (.int .u8 1)) = w11 at *
    generalize hL11 : (L10.set 32 1).set 33 1 = L11 at HO11
    have HL11 := Lib.hid hL11
    clear hL11
    have ck : w11.cell? ⟨w.heap.size, 7, none⟩ = some (.int .u32 c.su) := HC11.out.cell 7
    go_wp2_with fail
    refine (packetPut4 w.heap.size g 70 70 58 c.su L11 w11 HO11.out (by omega) (by omega) (by omega) (by omega)).mono ?_
    rintro e w12 ⟨rfl, hown, hg⟩
    have HC12 := Lib.hid (HC11.out.grown hg (by intro e; injection e; omega))
    have HB12 := Lib.hid (HB11.out.trans (below_grown hg hgb HB11.out.size))
    generalize hL12 : setAll L11 58 (be4 c.su) = L12 at hown
    have HL12 := Lib.hid hL12
    have HO12 := Lib.hid hown
    clear hown hg hL12 HC11 HB11 HO11 ck
    have ck : w12.cell? ⟨w.heap.size, 8, none⟩ = some (.int .u32 c.tu) := HC12.out.cell 8
    go_wp2_with fail
    refine (packetPut4 w.heap.size g 70 70 62 c.tu L12 w12 HO12.out (by omega) (by omega) (by omega) (by omega)).mono ?_
    rintro e w13 ⟨rfl, hown, hg⟩
    have HC13 := Lib.hid (HC12.out.grown hg (by intro e; injection e; omega))
    have HB13 := Lib.hid (HB12.out.trans (below_grown hg hgb HB12.out.size))
    generalize hL13 : setAll L12 62 (be4 c.tu) = L13 at hown
    have HL13 := Lib.hid hL13
    have HO13 := Lib.hid hown
    clear hown hg hL13 HC12 HB12 HO12 ck
    have hfin : L13 = zs := by
      rw [← HF.out (), HN1.out, HN2.out, ← HL13.out, ← HL12.out, ← HL11.out, ← HL10.out, ← HL9.out, ← HL8.out, ← HL7.out, ← HL6.out, ← HL5.out, ← HL4.out, ← HL3.out, ← HL2.out, ← HL1.out]
    clear HC13
    obtain ⟨i0, hi, hz0, hz1, hz2⟩ := info_parts info5
    obtain ⟨v, w', hrun, hov, hgr, hnil⟩ := Lib.run_append_own_string (P := Tryd.prog) w13 w.heap.size 22 9 22 5 i0 Tryd.underlying22 Tryd.underlying9 hi hz0 hz1 hz2 _ 70 _ HO13.out s (by unfold maxLen; omega) (by omega) HB13.out.size
    have H := Lib.hid hrun
    have HV := Lib.hid hov
    have HG := Lib.hid hgr
    clear hrun hov hgr hi hz0 hz1 hz2 hnil
    go_wp2_with (at_builtin; refine Lib.wpList_append_run _ rfl _ _ _ _ rfl _ _ rfl rfl _ _ H.out ?_)
    go_ret
    refine ⟨v, rfl, ?_, HB13.out.trans (below_grown HG.out hgb HB13.out.size)⟩
    have hv := HV.out
    rw [HS.out, hfin, ← List.map_append] at hv
    have hk := HKK.out
    have he := HE.out
    rw [if_pos HQ.out] at hk he
    rw [he, ← hk]
    exact hv
  · have hl := hlen.2 hq
    have hq1 : (230 : Int) < ((s.size : Nat) : Int) := by omega
    clear hlen
    subst hl
    have HQ := Lib.hid hq
    clear hq
    go_enter Tryd.func24, Tryd.ntmps24
    go_wp2_with fail
    refine (HH.out _).mono ?_
    rintro e w1 ⟨g, rfl, hown, hb⟩
    have HC1 := Lib.hid ((Blk.new w 35 #[.int .u16 c.v, .int .u16 c.lo, .int .u16 c.op, .int .u16 c.oo, .int .u16 c.hi, .int .u8 c.a0, .int .u8 c.a1, .int .u32 c.su, .int .u32 c.tu, .bool c.cp]).old hb)
    have HB1 := Lib.hid (((Below.refl w.heap.size w).alloc (Nat.le_refl _) _).trans (hb.mono (by simp)))
    have hg := own_lt hown
    have hgw : w.heap.size + 1 ≤ g := by have := hg.1; rw [World.size_alloc] at this; omega
    have hne : w.heap.size ≠ g := by omega
    have hgb : w.heap.size ≤ g := by omega
    generalize hL1 : headL long _ 1 0 70 = L1 at hown
    have HL1 := Lib.hid hL1
    have HO1 := Lib.hid (own_base hown (show w.heap.size ≤ _ by simp))
    clear hown hb hg hL1
    have ck : w1.cell? ⟨w.heap.size, 0, none⟩ = some (.int .u16 c.v) := HC1.out.cell 0
    go_wp2_with fail
    refine (packetPut2 w.heap.size g 70 70 8 c.v L1 w1 HO1.out (by omega) (by omega) (by omega) (by omega)).mono ?_
    rintro e w2 ⟨rfl, hown, hg⟩
    have HC2 := Lib.hid (HC1.out.grown hg (by intro e; injection e; omega))
    have HB2 := Lib.hid (HB1.out.trans (below_grown hg hgb HB1.out.size))
    generalize hL2 : setAll L1 8 (be2 c.v) = L2 at hown
    have HL2 := Lib.hid hL2
    have HO2 := Lib.hid hown
    clear hown hg hL2 HC1 HB1 HO1 ck
    have ck : w2.cell? ⟨w.heap.size, 1, none⟩ = some (.int .u16 c.lo) := HC2.out.cell 1
    go_wp2_with fail
    refine (packetPut2 w.heap.size g 70 70 10 c.lo L2 w2 HO2.out (by omega) (by omega) (by omega) (by omega)).mono ?_
    rintro e w3 ⟨rfl, hown, hg⟩
    have HC3 := Lib.hid (HC2.out.grown hg (by intro e; injection e; omega))
    have HB3 := Lib.hid (HB2.out.trans (below_grown hg hgb HB2.out.size))
    generalize hL3 : setAll L2 10 (be2 c.lo) = L3 at hown
    have HL3 := Lib.hid hL3
    have HO3 := Lib.hid hown
    clear hown hg hL3 HC2 HB2 HO2 ck
    have ck : w3.cell? ⟨w.heap.size, 2, none⟩ = some (.int .u16 c.op) := HC3.out.cell 2
    go_wp2_with fail
    refine (packetPut2 w.heap.size g 70 70 12 c.op L3 w3 HO3.out (by omega) (by omega) (by omega) (by omega)).mono ?_
    rintro e w4 ⟨rfl, hown, hg⟩
    have HC4 := Lib.hid (HC3.out.grown hg (by intro e; injection e; omega))
    have HB4 := Lib.hid (HB3.out.trans (below_grown hg hgb HB3.out.size))
    generalize hL4 : setAll L3 12 (be2 c.op) = L4 at hown
    have HL4 := Lib.hid hL4
    have HO4 := Lib.hid hown
    clear hown hg hL4 HC3 HB3 HO3 ck
    have ck : w4.cell? ⟨w.heap.size, 7, none⟩ = some (.int .u32 c.su) := HC4.out.cell 7
    go_wp2_with fail
    refine (packetPut2 w.heap.size g 70 70 14 n1 L4 w4 HO4.out (by omega) (by omega) (by omega) (by omega)).mono ?_
    rintro e w5 ⟨rfl, hown, hg⟩
    have HC5 := Lib.hid (HC4.out.grown hg (by intro e; injection e; omega))
    have HB5 := Lib.hid (HB4.out.trans (below_grown hg hgb HB4.out.size))
    generalize hL5 : setAll L4 14 (be2 n1) = L5 at hown
    have HL5 := Lib.hid hL5
    have HO5 := Lib.hid hown
    clear hown hg hL5 HC4 HB4 HO4 ck
    have ck : w5.cell? ⟨w.heap.size, 8, none⟩ = some (.int .u32 c.tu) := HC5.out.cell 8
    go_wp2_with fail
    refine (packetPut2 w.heap.size g 70 70 16 n2 L5 w5 HO5.out (by omega) (by omega) (by omega) (by omega)).mono ?_
    rintro e w6 ⟨rfl, hown, hg⟩
    have HC6 := Lib.hid (HC5.out.grown hg (by intro e; injection e; omega))
    have HB6 := Lib.hid (HB5.out.trans (below_grown hg hgb HB5.out.size))
    generalize hL6 : setAll L5 16 (be2 n2) = L6 at hown
    have HL6 := Lib.hid hL6
    have HO6 := Lib.hid hown
    clear hown hg hL6 HC5 HB5 HO5 ck
    have s1 := own_cell HO6.out 18 (by omega)
    have z1 := HO6.out.frozenAt 18
    have s2 := own_cell HO6.out 19 (by omega)
    have z2 := HO6.out.frozenAt 19
    go_upto_region 11 with fail
    have HO7 := Lib.hid (own_store (own_store HO6.out 18 79).1 19 152).1
    have HC7 := Lib.hid ((HC6.out.other (i := 18) (u := .int .u8 79) hne).other (i := 19) (u := .int .u8 152) hne)
    have HB7 := Lib.hid ((HB6.out.setCell (p := ⟨g, 18, none⟩) hgb (.int .u8 79)).setCell (p := ⟨g, 19, none⟩) hgb (.int .u8 152))
    clear HO6 HC6 HB6 s1 s2 z1 z2
    generalize ((w6.setCell ⟨g, 18, none⟩ (.int .u8 79)).setCell ⟨g, 19, none⟩ (.int .u8 152)) = w7 at *
    generalize hL7 : (L6.set 18 79).set 19 152 = L7 at HO7
    have HL7 := Lib.hid hL7
    clear hL7
    have ck : w7.cell? ⟨w.heap.size, 3, none⟩ = some (.int .u16 c.oo) := HC7.out.cell 3
    go_wp2_with fail
    refine (packetPut2 w.heap.size g 70 70 22 c.oo L7 w7 HO7.out (by omega) (by omega) (by omega) (by omega)).mono ?_
    rintro e w8 ⟨rfl, hown, hg⟩
    have HC8 := Lib.hid (HC7.out.grown hg (by intro e; injection e; omega))
    have HB8 := Lib.hid (HB7.out.trans (below_grown hg hgb HB7.out.size))
    generalize hL8 : setAll L7 22 (be2 c.oo) = L8 at hown
    have HL8 := Lib.hid hL8
    have HO8 := Lib.hid hown
    clear hown hg hL8 HC7 HB7 HO7 ck
    go_wp2_with fail
    refine (packetPut2 w.heap.size g 70 70 24 (s.size : Int) L8 w8 HO8.out (by omega) (by omega) (by omega) (by omega)).mono ?_
    rintro e w9 ⟨rfl, hown, hg⟩
    have HC9 := Lib.hid (HC8.out.grown hg (by intro e; injection e; omega))
    have HB9 := Lib.hid (HB8.out.trans (below_grown hg hgb HB8.out.size))
    generalize hL9 : setAll L8 24 (be2 (s.size : Int)) = L9 at hown
    have HL9 := Lib.hid hL9
    have HO9 := Lib.hid hown
    clear hown hg hL9 HC8 HB8 HO8
    go_wp2_with fail
    refine (packetPut2 w.heap.size g 70 70 26 70 L9 w9 HO9.out (by omega) (by omega) (by omega) (by omega)).mono ?_
    rintro e w10 ⟨rfl, hown, hg⟩
    have HC10 := Lib.hid (HC9.out.grown hg (by intro e; injection e; omega))
    have HB10 := Lib.hid (HB9.out.trans (below_grown hg hgb HB9.out.size))
    generalize hL10 : setAll L9 26 (be2 70) = L10 at hown
    have HL10 := Lib.hid hL10
    have HO10 := Lib.hid hown
    clear hown hg hL10 HC9 HB9 HO9
    have s1 := own_cell HO10.out 32 (by omega)
    have z1 := HO10.out.frozenAt 32
    have s2 := own_cell HO10.out 33 (by omega)
    have z2 := HO10.out.frozenAt 33
    go_upto_region 15 with fail
    have HO11 := Lib.hid (own_store (own_store HO10.out 32 1).1 33 1).1
    have HC11 := Lib.hid ((HC10.out.other (i := 32) (u := .int .u8 1) hne).other (i := 33) (u := .int .u8 1) hne)
    have HB11 := Lib.hid ((HB10.out.setCell (p := ⟨g, 32, none⟩) hgb (.int .u8 1)).setCell (p := ⟨g, 33, none⟩) hgb (.int .u8 1))
    clear HO10 HC10 HB10 s1 s2 z1 z2
    generalize ((w10.setCell ⟨g, 32, none⟩ (.int .u8 1)).setCell ⟨g, 33, none⟩ (.int .u8 1)) = w11 at *
    generalize hL11 : (L10.set 32 1).set 33 1 = L11 at HO11
    have HL11 := Lib.hid hL11
    clear hL11
    have ck : w11.cell? ⟨w.heap.size, 7, none⟩ = some (.int .u32 c.su) := HC11.out.cell 7
    go_wp2_with fail
    refine (packetPut4 w.heap.size g 70 70 58 c.su L11 w11 HO11.out (by omega) (by omega) (by omega) (by omega)).mono ?_
    rintro e w12 ⟨rfl, hown, hg⟩
    have HC12 := Lib.hid (HC11.out.grown hg (by intro e; injection e; omega))
    have HB12 := Lib.hid (HB11.out.trans (below_grown hg hgb HB11.out.size))
    generalize hL12 : setAll L11 58 (be4 c.su) = L12 at hown
    have HL12 := Lib.hid hL12
    have HO12 := Lib.hid hown
    clear hown hg hL12 HC11 HB11 HO11 ck
    have ck : w12.cell? ⟨w.heap.size, 8, none⟩ = some (.int .u32 c.tu) := HC12.out.cell 8
    go_wp2_with fail
    refine (packetPut4 w.heap.size g 70 70 62 c.tu L12 w12 HO12.out (by omega) (by omega) (by omega) (by omega)).mono ?_
    rintro e w13 ⟨rfl, hown, hg⟩
    have HC13 := Lib.hid (HC12.out.grown hg (by intro e; injection e; omega))
    have HB13 := Lib.hid (HB12.out.trans (below_grown hg hgb HB12.out.size))
    generalize hL13 : setAll L12 62 (be4 c.tu) = L13 at hown
    have HL13 := Lib.hid hL13
    have HO13 := Lib.hid hown
    clear hown hg hL13 HC12 HB12 HO12 ck
    have hfin : L13 = zs := by
      rw [← HF.out (), HN1.out, HN2.out, ← HL13.out, ← HL12.out, ← HL11.out, ← HL10.out, ← HL9.out, ← HL8.out, ← HL7.out, ← HL6.out, ← HL5.out, ← HL4.out, ← HL3.out, ← HL2.out, ← HL1.out]
    clear HC13
    go_wp2_with fail
    go_ret
    refine ⟨_, rfl, ?_, HB13.out⟩
    have hv := HO13.out
    rw [hfin] at hv
    have hk := HKK.out
    have he := HE.out
    rw [if_neg HQ.out] at hk he
    rw [he, ← hk, List.append_nil]
    exact hv
end Go.Proofs.YtaohgebiedkdaaaDoor