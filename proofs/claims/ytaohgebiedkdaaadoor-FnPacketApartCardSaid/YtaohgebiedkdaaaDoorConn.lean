/-
  The bytes of a packet CONNECT.
-/
import Derived.Test.YtaohgebiedkdaaaDoorHead
import Derived.Test.YtaohgebiedkdaaaDoorApp
import Derived.Test.YtaohgebiedkdaaaDoorRead2
import Derived.Deep.DeepCutAuto
namespace Go.Proofs.YtaohgebiedkdaaaDoor
open Go Go.RowKit

/-- A packet CONNECT without its data, in the order in which bytes writes. -/
def connA (c : Cx) (len : Int) (m : Nat) : List Int :=
  let l := headL c.long len 1 0 70
  let l := setAll l 8 (be2 c.v)
  let l := setAll l 10 (be2 c.lo)
  let l := setAll l 12 (be2 c.op)
  let l := setAll l 14 (be2 (min c.su 65535))
  let l := setAll l 58 (be4 c.su)
  let l := setAll l 16 (be2 (min c.tu 65535))
  let l := setAll l 62 (be4 c.tu)
  let l := setAll l 66 (be4 0)
  let l := (l.set 18 79).set 19 152
  let l := setAll l 22 (be2 c.oo)
  let l := setAll l 24 (be2 (m : Int))
  let l := setAll l 26 (be2 70)
  (l.set 32 c.a0).set 33 c.a1

theorem Blk.other {w : World} {g b i : Nat} {t : TypeId} {cs : Array Value} {u : Value} (h : Blk w g t cs) (hne : g ≠ b) : Blk (w.setCell ⟨b, i, none⟩ u) g t cs :=
  (Below.heap_setCell w ⟨b, i, none⟩ u g hne).trans h

set_option maxRecDepth 100000 in
set_option maxHeartbeats 4000000 in
theorem connectPacket_bytes (c : Cx) (s : ByteArray) (pk cx : Nat) (q : Option Addr) (m d : Nat) (xs : List Int) (len : Int) (w : World) (ok : c.Ok) (hl0 : 0 ≤ len) (hl1 : len < 4294967296)
    (hk : Blk w pk 132 #[.int .u16 70, .int .u32 len, .int .u8 1, .int .u8 0, .pointer (some ⟨cx, 0, none⟩), .slice q m d]) (hc : Blk w cx 99 (c.cells s))
    (hi : Lib.BytesIn w q m xs) (hx : xs.length = m) (hm : m ≤ 2000) :
    Calls Tryd.prog 64 #[.pointer (some ⟨pk, 0, none⟩)] w fun e w' => ∃ v, e = .returned v ∧
      w'.ownsRow w.heap.size 5 1 v (70 + if m ≤ 230 then m else 0) ((connA c len m ++ if m ≤ 230 then xs else []).map (Value.int .u8)) ∧ Below w.heap.size w w' := by
  have hpk := hk.lt
  have hcx := hc.lt
  have C := Lib.hid (packet_bytes c.long pk 0 cx 70 len 1 0 c.v c.cp w rfl hl0 hl1 (hk.cell 0) (hk.cell 1) (hk.cell 2) (hk.cell 3) (hk.cell 4) (ctx_c2 hc) (ctx_c9 hc) (by decide) (by decide))
  have ok1 := ok.v
  have ok2 := ok.lo
  have ok3 := ok.op
  have ok4 := ok.oo
  have ok5 := ok.su
  have ok6 := ok.tu
  have HP := Lib.hid hk
  have HC := Lib.hid hc
  have HI := Lib.hid hi
  have HX := Lib.hid hx
  have HF := Lib.hid (Eq.refl (connA c len m))
  have him : ((m : Nat) : Int) ≤ 2000 := by omega
  obtain ⟨n1, hn1⟩ : ∃ n1 : Int, n1 = min c.su 65535 := ⟨_, rfl⟩
  obtain ⟨n2, hn2⟩ : ∃ n2 : Int, n2 = min c.tu 65535 := ⟨_, rfl⟩
  have HN1 := Lib.hid hn1
  have HN2 := Lib.hid hn2
  have bn1 : 0 ≤ n1 ∧ n1 ≤ 65535 := by omega
  have bn2 : 0 ≤ n2 ∧ n2 ≤ 65535 := by omega
  clear hi hx hc hk ok hn1 hn2
  go_enter Tryd.func64, Tryd.ntmps64
  go_wp2_with fail
  refine C.out.mono ?_
  rintro e w1 ⟨g, cap, rfl, hown, hb⟩
  have HB1 := Lib.hid hb
  have HP1 := Lib.hid (HP.out.old hb)
  have HC1 := Lib.hid (HC.out.old hb)
  generalize hL1 : headL c.long len 1 0 70 = L1 at hown
  have HL1 := Lib.hid hL1
  have HO1 := Lib.hid hown
  have hg := own_lt hown
  have hnp : pk ≠ g := by omega
  have hnc : cx ≠ g := by omega
  have hgw := hg.1
  have hcap : 70 ≤ cap := own_cap hown
  clear hb hown hg hL1 C
  have p4 : w1.cell? ⟨pk, 4, none⟩ = some (.pointer (some ⟨cx, 0, none⟩)) := HP1.out.cell 4
  have ck : w1.cell? ⟨cx, 2, none⟩ = some (.int .u16 c.v) := HC1.out.cell 2
  have hco : cap ≠ 8 := by omega
  go_wp2_with fail
  go_region_held3 (fun w' => w'.cell? ⟨pk, 4, none⟩ = some (.pointer (some ⟨cx, 0, none⟩)) ∧ w'.cell? ⟨cx, 2, none⟩ = some (.int .u16 c.v)) (go_keep) (first | (go_at_call 74; refine (put16_own w.heap.size g 8 70 cap 62 (cap - 8) c.v L1 _ (by exact HO1.out) (by omega) (by omega) (by omega) (by omega)).mono ?_; rintro e w2 ⟨rfl, hown2, hg2⟩; have HP2 := Lib.hid (Blk.grown (w := w1.drew) HP1.out hg2 (by intro e; injection e; omega)); have HC2 := Lib.hid (Blk.grown (w := w1.drew) HC1.out hg2 (by intro e; injection e; omega)); have HB2 := Lib.hid (HB1.out.drew.trans (below_grown hg2 hgw HB1.out.size)); generalize hL2 : setAll L1 8 (be2 c.v) = L2 at hown2; have HL2 := Lib.hid hL2; have HO2 := Lib.hid hown2; have p4' := grown_cell (w := w1.drew) hg2 p4 hnp; have ck' := grown_cell (w := w1.drew) hg2 ck hnc; clear hown2 hg2 p4 ck hL2))
  clear p4' ck' hco HP1 HC1 HB1 HO1
  have p4 : w2.cell? ⟨pk, 4, none⟩ = some (.pointer (some ⟨cx, 0, none⟩)) := HP2.out.cell 4
  have ck : w2.cell? ⟨cx, 3, none⟩ = some (.int .u16 c.lo) := HC2.out.cell 3
  have hco : cap ≠ 10 := by omega
  go_wp2_with fail
  go_region_held3 (fun w' => w'.cell? ⟨pk, 4, none⟩ = some (.pointer (some ⟨cx, 0, none⟩)) ∧ w'.cell? ⟨cx, 3, none⟩ = some (.int .u16 c.lo)) (go_keep) (first | (go_at_call 74; refine (put16_own w.heap.size g 10 70 cap 60 (cap - 10) c.lo L2 _ (by exact HO2.out) (by omega) (by omega) (by omega) (by omega)).mono ?_; rintro e w3 ⟨rfl, hown2, hg2⟩; have HP3 := Lib.hid (Blk.grown (w := w2.drew) HP2.out hg2 (by intro e; injection e; omega)); have HC3 := Lib.hid (Blk.grown (w := w2.drew) HC2.out hg2 (by intro e; injection e; omega)); have HB3 := Lib.hid (HB2.out.drew.trans (below_grown hg2 hgw HB2.out.size)); generalize hL3 : setAll L2 10 (be2 c.lo) = L3 at hown2; have HL3 := Lib.hid hL3; have HO3 := Lib.hid hown2; have p4' := grown_cell (w := w2.drew) hg2 p4 hnp; have ck' := grown_cell (w := w2.drew) hg2 ck hnc; clear hown2 hg2 p4 ck hL3))
  clear p4' ck' hco HP2 HC2 HB2 HO2
  have p4 : w3.cell? ⟨pk, 4, none⟩ = some (.pointer (some ⟨cx, 0, none⟩)) := HP3.out.cell 4
  have ck : w3.cell? ⟨cx, 4, none⟩ = some (.int .u16 c.op) := HC3.out.cell 4
  have hco : cap ≠ 12 := by omega
  go_wp2_with fail
  go_region_held3 (fun w' => w'.cell? ⟨pk, 4, none⟩ = some (.pointer (some ⟨cx, 0, none⟩)) ∧ w'.cell? ⟨cx, 4, none⟩ = some (.int .u16 c.op)) (go_keep) (first | (go_at_call 74; refine (put16_own w.heap.size g 12 70 cap 58 (cap - 12) c.op L3 _ (by exact HO3.out) (by omega) (by omega) (by omega) (by omega)).mono ?_; rintro e w4 ⟨rfl, hown2, hg2⟩; have HP4 := Lib.hid (Blk.grown (w := w3.drew) HP3.out hg2 (by intro e; injection e; omega)); have HC4 := Lib.hid (Blk.grown (w := w3.drew) HC3.out hg2 (by intro e; injection e; omega)); have HB4 := Lib.hid (HB3.out.drew.trans (below_grown hg2 hgw HB3.out.size)); generalize hL4 : setAll L3 12 (be2 c.op) = L4 at hown2; have HL4 := Lib.hid hL4; have HO4 := Lib.hid hown2; have p4' := grown_cell (w := w3.drew) hg2 p4 hnp; have ck' := grown_cell (w := w3.drew) hg2 ck hnc; clear hown2 hg2 p4 ck hL4))
  clear p4' ck' hco HP3 HC3 HB3 HO3
  have p4 : w4.cell? ⟨pk, 4, none⟩ = some (.pointer (some ⟨cx, 0, none⟩)) := HP4.out.cell 4
  have ck : w4.cell? ⟨cx, 12, none⟩ = some (.int .u32 c.su) := HC4.out.cell 12
  go_upto_if 62 with fail
  go_cut [4] (fun s4 wx => s4 = .int .u16 n1 ∧ w4 = wx)
  case first =>
    go_wp2_with fail
    all_goals go_meet
    all_goals exact ⟨by have := HN1.out; congr 1; first | omega | (rw [wrap_u16]; omega), rfl⟩
  obtain ⟨rfl, rfl⟩ := hcut
  clear p4 ck
  have p4 : w4.cell? ⟨pk, 4, none⟩ = some (.pointer (some ⟨cx, 0, none⟩)) := HP4.out.cell 4
  have hco : cap ≠ 14 := by omega
  go_wp2_with fail
  go_region_held3 (fun w' => w'.cell? ⟨pk, 4, none⟩ = some (.pointer (some ⟨cx, 0, none⟩))) (go_keep) (first | (go_at_call 74; refine (put16_own w.heap.size g 14 70 cap 56 (cap - 14) n1 L4 _ (by exact HO4.out) (by omega) (by omega) (by omega) (by omega)).mono ?_; rintro e w5 ⟨rfl, hown2, hg2⟩; have HP5 := Lib.hid (Blk.grown (w := w4.drew) HP4.out hg2 (by intro e; injection e; omega)); have HC5 := Lib.hid (Blk.grown (w := w4.drew) HC4.out hg2 (by intro e; injection e; omega)); have HB5 := Lib.hid (HB4.out.drew.trans (below_grown hg2 hgw HB4.out.size)); generalize hL5 : setAll L4 14 (be2 n1) = L5 at hown2; have HL5 := Lib.hid hL5; have HO5 := Lib.hid hown2; have p4' := grown_cell (w := w4.drew) hg2 p4 hnp; clear hown2 hg2 p4 hL5))
  clear p4' hco HP4 HC4 HB4 HO4
  have p4 : w5.cell? ⟨pk, 4, none⟩ = some (.pointer (some ⟨cx, 0, none⟩)) := HP5.out.cell 4
  have ck : w5.cell? ⟨cx, 12, none⟩ = some (.int .u32 c.su) := HC5.out.cell 12
  have hco : cap ≠ 58 := by omega
  go_wp2_with fail
  go_region_held3 (fun w' => w'.cell? ⟨pk, 4, none⟩ = some (.pointer (some ⟨cx, 0, none⟩)) ∧ w'.cell? ⟨cx, 12, none⟩ = some (.int .u32 c.su)) (go_keep) (first | (go_at_call 73; refine (put32_own w.heap.size g 58 70 cap 12 (cap - 58) c.su L5 _ (by exact HO5.out) (by omega) (by omega) (by omega) (by omega)).mono ?_; rintro e w6 ⟨rfl, hown2, hg2⟩; have HP6 := Lib.hid (Blk.grown (w := w5.drew) HP5.out hg2 (by intro e; injection e; omega)); have HC6 := Lib.hid (Blk.grown (w := w5.drew) HC5.out hg2 (by intro e; injection e; omega)); have HB6 := Lib.hid (HB5.out.drew.trans (below_grown hg2 hgw HB5.out.size)); generalize hL6 : setAll L5 58 (be4 c.su) = L6 at hown2; have HL6 := Lib.hid hL6; have HO6 := Lib.hid hown2; have p4' := grown_cell (w := w5.drew) hg2 p4 hnp; have ck' := grown_cell (w := w5.drew) hg2 ck hnc; clear hown2 hg2 p4 ck hL6))
  clear p4' ck' hco HP5 HC5 HB5 HO5
  have p4 : w6.cell? ⟨pk, 4, none⟩ = some (.pointer (some ⟨cx, 0, none⟩)) := HP6.out.cell 4
  have ck : w6.cell? ⟨cx, 13, none⟩ = some (.int .u32 c.tu) := HC6.out.cell 13
  go_upto_if 97 with fail
  go_cut [4] (fun s4 wx => s4 = .int .u16 n2 ∧ w6 = wx)
  case first =>
    go_wp2_with fail
    all_goals go_meet
    all_goals exact ⟨by have := HN2.out; congr 1; first | omega | (rw [wrap_u16]; omega), rfl⟩
  obtain ⟨rfl, rfl⟩ := hcut
  clear p4 ck
  have p4 : w6.cell? ⟨pk, 4, none⟩ = some (.pointer (some ⟨cx, 0, none⟩)) := HP6.out.cell 4
  have hco : cap ≠ 16 := by omega
  go_wp2_with fail
  go_region_held3 (fun w' => w'.cell? ⟨pk, 4, none⟩ = some (.pointer (some ⟨cx, 0, none⟩))) (go_keep) (first | (go_at_call 74; refine (put16_own w.heap.size g 16 70 cap 54 (cap - 16) n2 L6 _ (by exact HO6.out) (by omega) (by omega) (by omega) (by omega)).mono ?_; rintro e w7 ⟨rfl, hown2, hg2⟩; have HP7 := Lib.hid (Blk.grown (w := w6.drew) HP6.out hg2 (by intro e; injection e; omega)); have HC7 := Lib.hid (Blk.grown (w := w6.drew) HC6.out hg2 (by intro e; injection e; omega)); have HB7 := Lib.hid (HB6.out.drew.trans (below_grown hg2 hgw HB6.out.size)); generalize hL7 : setAll L6 16 (be2 n2) = L7 at hown2; have HL7 := Lib.hid hL7; have HO7 := Lib.hid hown2; have p4' := grown_cell (w := w6.drew) hg2 p4 hnp; clear hown2 hg2 p4 hL7))
  clear p4' hco HP6 HC6 HB6 HO6
  have p4 : w7.cell? ⟨pk, 4, none⟩ = some (.pointer (some ⟨cx, 0, none⟩)) := HP7.out.cell 4
  have ck : w7.cell? ⟨cx, 13, none⟩ = some (.int .u32 c.tu) := HC7.out.cell 13
  have hco : cap ≠ 62 := by omega
  go_wp2_with fail
  go_region_held3 (fun w' => w'.cell? ⟨pk, 4, none⟩ = some (.pointer (some ⟨cx, 0, none⟩)) ∧ w'.cell? ⟨cx, 13, none⟩ = some (.int .u32 c.tu)) (go_keep) (first | (go_at_call 73; refine (put32_own w.heap.size g 62 70 cap 8 (cap - 62) c.tu L7 _ (by exact HO7.out) (by omega) (by omega) (by omega) (by omega)).mono ?_; rintro e w8 ⟨rfl, hown2, hg2⟩; have HP8 := Lib.hid (Blk.grown (w := w7.drew) HP7.out hg2 (by intro e; injection e; omega)); have HC8 := Lib.hid (Blk.grown (w := w7.drew) HC7.out hg2 (by intro e; injection e; omega)); have HB8 := Lib.hid (HB7.out.drew.trans (below_grown hg2 hgw HB7.out.size)); generalize hL8 : setAll L7 62 (be4 c.tu) = L8 at hown2; have HL8 := Lib.hid hL8; have HO8 := Lib.hid hown2; have p4' := grown_cell (w := w7.drew) hg2 p4 hnp; have ck' := grown_cell (w := w7.drew) hg2 ck hnc; clear hown2 hg2 p4 ck hL8))
  clear p4' ck' hco HP7 HC7 HB7 HO7
  have p4 : w8.cell? ⟨pk, 4, none⟩ = some (.pointer (some ⟨cx, 0, none⟩)) := HP8.out.cell 4
  have hco : cap ≠ 66 := by omega
  go_wp2_with fail
  go_region_held3 (fun w' => w'.cell? ⟨pk, 4, none⟩ = some (.pointer (some ⟨cx, 0, none⟩))) (go_keep) (first | (go_at_call 73; refine (put32_own w.heap.size g 66 70 cap 4 (cap - 66) 0 L8 _ (by exact HO8.out) (by omega) (by omega) (by omega) (by omega)).mono ?_; rintro e w9 ⟨rfl, hown2, hg2⟩; have HP9 := Lib.hid (Blk.grown (w := w8.drew) HP8.out hg2 (by intro e; injection e; omega)); have HC9 := Lib.hid (Blk.grown (w := w8.drew) HC8.out hg2 (by intro e; injection e; omega)); have HB9 := Lib.hid (HB8.out.drew.trans (below_grown hg2 hgw HB8.out.size)); generalize hL9 : setAll L8 66 (be4 0) = L9 at hown2; have HL9 := Lib.hid hL9; have HO9 := Lib.hid hown2; have p4' := grown_cell (w := w8.drew) hg2 p4 hnp; clear hown2 hg2 p4 hL9))
  clear p4' hco HP8 HC8 HB8 HO8
  have s1 := own_cell HO9.out 18 (by omega)
  have z1 := HO9.out.frozenAt 18
  have s2 := own_cell HO9.out 19 (by omega)
  have z2 := HO9.out.frozenAt 19
  go_upto_region 18 with fail
  have HO10 := Lib.hid (own_store (own_store HO9.out 18 79).1 19 152).1
  have HP10 := Lib.hid ((HP9.out.other (i := 18) (u := .int .u8 79) hnp).other (i := 19) (u := .int .u8 152) hnp)
  have HC10 := Lib.hid ((HC9.out.other (i := 18) (u := .int .u8 79) hnc).other (i := 19) (u := .int .u8 152) hnc)
  have HB10 := Lib.hid ((HB9.out.setCell (p := ⟨g, 18, none⟩) hgw (.int .u8 79)).setCell (p := ⟨g, 19, none⟩) hgw (.int .u8 152))
  clear HO9 HP9 HC9 HB9 s1 s2 z1 z2
  generalize ((w9.setCell ⟨g, 18, none⟩ (.int .u8 79)).setCell ⟨g, 19, none⟩ (.int .u8 152)) = w10 at *
  generalize hL10 : (L9.set 18 79).set 19 152 = L10 at HO10
  have HL10 := Lib.hid hL10
  clear hL10
  have p4 : w10.cell? ⟨pk, 4, none⟩ = some (.pointer (some ⟨cx, 0, none⟩)) := HP10.out.cell 4
  have ck : w10.cell? ⟨cx, 6, none⟩ = some (.int .u16 c.oo) := HC10.out.cell 6
  have hco : cap ≠ 22 := by omega
  go_wp2_with fail
  go_region_held3 (fun w' => w'.cell? ⟨pk, 4, none⟩ = some (.pointer (some ⟨cx, 0, none⟩)) ∧ w'.cell? ⟨cx, 6, none⟩ = some (.int .u16 c.oo)) (go_keep) (first | (go_at_call 74; refine (put16_own w.heap.size g 22 70 cap 48 (cap - 22) c.oo L10 _ (by exact HO10.out) (by omega) (by omega) (by omega) (by omega)).mono ?_; rintro e w11 ⟨rfl, hown2, hg2⟩; have HP11 := Lib.hid (Blk.grown (w := w10.drew) HP10.out hg2 (by intro e; injection e; omega)); have HC11 := Lib.hid (Blk.grown (w := w10.drew) HC10.out hg2 (by intro e; injection e; omega)); have HB11 := Lib.hid (HB10.out.drew.trans (below_grown hg2 hgw HB10.out.size)); generalize hL11 : setAll L10 22 (be2 c.oo) = L11 at hown2; have HL11 := Lib.hid hL11; have HO11 := Lib.hid hown2; have p4' := grown_cell (w := w10.drew) hg2 p4 hnp; have ck' := grown_cell (w := w10.drew) hg2 ck hnc; clear hown2 hg2 p4 ck hL11))
  clear p4' ck' hco HP10 HC10 HB10 HO10
  have hwm : IntKind.u16.wrap ((m : Nat) : Int) = (m : Int) := by rw [wrap_u16]; omega
  have p4 : w11.cell? ⟨pk, 5, none⟩ = some (.slice q m d) := HP11.out.cell 5
  have hco : cap ≠ 24 := by omega
  go_wp2_with fail
  go_region_held3 (fun w' => w'.cell? ⟨pk, 5, none⟩ = some (.slice q m d)) (go_keep) (first | (go_at_call 74; refine (put16_own w.heap.size g 24 70 cap 46 (cap - 24) (m : Int) L11 _ (by exact HO11.out) (by omega) (by omega) (by omega) (by omega)).mono ?_; rintro e w12 ⟨rfl, hown2, hg2⟩; have HP12 := Lib.hid (Blk.grown (w := w11.drew) HP11.out hg2 (by intro e; injection e; omega)); have HC12 := Lib.hid (Blk.grown (w := w11.drew) HC11.out hg2 (by intro e; injection e; omega)); have HB12 := Lib.hid (HB11.out.drew.trans (below_grown hg2 hgw HB11.out.size)); generalize hL12 : setAll L11 24 (be2 (m : Int)) = L12 at hown2; have HL12 := Lib.hid hL12; have HO12 := Lib.hid hown2; have p4' := grown_cell (w := w11.drew) hg2 p4 hnp; clear hown2 hg2 p4 hL12))
  clear p4' hco HP11 HC11 HB11 HO11
  have p4 : w12.cell? ⟨pk, 0, none⟩ = some (.int .u16 70) := HP12.out.cell 0
  have hco : cap ≠ 26 := by omega
  go_wp2_with fail
  go_region_held3 (fun w' => w'.cell? ⟨pk, 0, none⟩ = some (.int .u16 70)) (go_keep) (first | (go_at_call 74; refine (put16_own w.heap.size g 26 70 cap 44 (cap - 26) 70 L12 _ (by exact HO12.out) (by omega) (by omega) (by omega) (by omega)).mono ?_; rintro e w13 ⟨rfl, hown2, hg2⟩; have HP13 := Lib.hid (Blk.grown (w := w12.drew) HP12.out hg2 (by intro e; injection e; omega)); have HC13 := Lib.hid (Blk.grown (w := w12.drew) HC12.out hg2 (by intro e; injection e; omega)); have HB13 := Lib.hid (HB12.out.drew.trans (below_grown hg2 hgw HB12.out.size)); generalize hL13 : setAll L12 26 (be2 70) = L13 at hown2; have HL13 := Lib.hid hL13; have HO13 := Lib.hid hown2; have p4' := grown_cell (w := w12.drew) hg2 p4 hnp; clear hown2 hg2 p4 hL13))
  clear p4' hco HP12 HC12 HB12 HO12
  have s1 := own_cell HO13.out 32 (by omega)
  have z1 := HO13.out.frozenAt 32
  have s2 := own_cell HO13.out 33 (by omega)
  have z2 := HO13.out.frozenAt 33
  have p4 : w13.cell? ⟨pk, 4, none⟩ = some (.pointer (some ⟨cx, 0, none⟩)) := HP13.out.cell 4
  have c10 : w13.cell? ⟨cx, 10, none⟩ = some (.int .u8 c.a0) := HC13.out.cell 10
  have c11 : w13.cell? ⟨cx, 11, none⟩ = some (.int .u8 c.a1) := HC13.out.cell 11
  have p5 : w13.cell? ⟨pk, 5, none⟩ = some (.slice q m d) := HP13.out.cell 5
  go_upto_if 179 with fail
  clear p5
  have HO14 := Lib.hid (own_store (own_store HO13.out 32 c.a0).1 33 c.a1).1
  have HP14 := Lib.hid ((HP13.out.other (i := 32) (u := .int .u8 c.a0) hnp).other (i := 33) (u := .int .u8 c.a1) hnp)
  have HC14 := Lib.hid ((HC13.out.other (i := 32) (u := .int .u8 c.a0) hnc).other (i := 33) (u := .int .u8 c.a1) hnc)
  have HB14 := Lib.hid ((HB13.out.setCell (p := ⟨g, 32, none⟩) hgw (.int .u8 c.a0)).setCell (p := ⟨g, 33, none⟩) hgw (.int .u8 c.a1))
  clear HO13 HP13 HC13 HB13 s1 s2 z1 z2 p4 c10 c11
  generalize ((w13.setCell ⟨g, 32, none⟩ (.int .u8 c.a0)).setCell ⟨g, 33, none⟩ (.int .u8 c.a1)) = w14 at *
  generalize hL14 : (L13.set 32 c.a0).set 33 c.a1 = L14 at HO14
  have HL14 := Lib.hid hL14
  clear hL14
  have hfin : L14 = connA c len m := by
    rw [← HL14.out, ← HL13.out, ← HL12.out, ← HL11.out, ← HL10.out, ← HL9.out, ← HL8.out, ← HL7.out, ← HL6.out, ← HL5.out, ← HL4.out, ← HL3.out, ← HL2.out, ← HL1.out, HN1.out, HN2.out]
    rfl
  have HI14 := Lib.hid (bin_below HI.out HB14.out)
  have p5 : w14.cell? ⟨pk, 5, none⟩ = some (.slice q m d) := HP14.out.cell 5
  by_cases hq : m ≤ 230
  · have hq1 : ((m : Nat) : Int) ≤ 230 := by omega
    obtain ⟨v, w', hrun, hov, hgr, _⟩ := run_append_bytes w14 w.heap.size _ 70 L14 HO14.out q m d xs HI14.out HX.out (by omega) HB14.out.size
    have H := Lib.hid hrun
    have HV := Lib.hid hov
    have HG := Lib.hid hgr
    clear hrun hov hgr
    go_wp2_with (at_builtin; refine Lib.wpList_append_run _ rfl _ _ _ _ rfl _ _ rfl rfl _ _ H.out ?_)
    go_ret
    refine ⟨v, rfl, ?_, HB14.out.trans (below_grown HG.out hgw HB14.out.size)⟩
    rw [← hfin, ← List.map_append]
    exact HV.out
  · have hq1 : (230 : Int) < ((m : Nat) : Int) := by omega
    go_wp2_with fail
    go_ret
    refine ⟨_, rfl, ?_, HB14.out⟩
    rw [← hfin]
    exact HO14.out
end Go.Proofs.YtaohgebiedkdaaaDoor