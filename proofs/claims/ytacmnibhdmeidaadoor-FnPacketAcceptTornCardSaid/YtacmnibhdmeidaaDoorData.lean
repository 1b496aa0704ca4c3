/-
  The bytes of a packet of data.
-/
import Derived.Test.YtacmnibhdmeidaaDoorHead
import Derived.Lib.SlBytesConst
namespace Go.Proofs.YtacmnibhdmeidaaDoor
open Go Go.RowKit

theorem newDataPacket_any (cx : Nat) (p : Option Addr) (n c : Nat) (w : World) (hn : n ≤ 100000) :
    Calls Tryd.prog 60 #[.slice p n c, .pointer (some ⟨cx, 0, none⟩)] w fun e w' => e = .returned (.tuple #[.pointer (some ⟨w.heap.size, 0, none⟩), .nilIface]) ∧
      w' = w.alloc (.cells #[.int .u16 10, .int .u32 ((n : Int) + 10), .int .u8 6, .int .u8 0, .pointer (some ⟨cx, 0, none⟩), .int .u16 0, .slice p n c] 146) := by
  have h1 : ((n : Nat) : Int) ≤ 100000 := by omega
  have h0 : (0 : Int) ≤ ((n : Nat) : Int) := by omega
  go_enter Tryd.func60, Tryd.ntmps60
  go_wp2
  go_ret2
  exact ⟨rfl, rfl⟩

theorem newBuffer_any (v : Value) (w : World) (hv : ∃ p n c, v = .slice p n c) :
    Calls Tryd.prog 80 #[v] w fun e w' => e = .returned (.pointer (some ⟨w.heap.size, 0, none⟩)) ∧ w' = w.alloc (.cells #[v, .int .i64 0, .int .i8 0] 92) := by
  obtain ⟨p, n, c, rfl⟩ := hv
  go_enter Tryd.func80, Tryd.ntmps80
  go_wp2
  go_ret
  exact ⟨rfl, rfl⟩

def dataL (long : Bool) (len : Int) (xs : List Int) : List Int := setAll (headL long len 6 0 10) 8 (be2 0) ++ xs

set_option maxRecDepth 100000 in
set_option maxHeartbeats 1000000 in
theorem dataPacket_bytes (long : Bool) (pk cx : Nat) (p : Option Addr) (n c : Nat) (xs : List Int) (len ver : Int) (cp : Bool) (w : World) (hlong : long = (cp && decide (315 ≤ ver))) (hl0 : 0 ≤ len) (hl1 : len < 4294967296)
    (hk : Blk w pk 146 #[.int .u16 10, .int .u32 len, .int .u8 6, .int .u8 0, .pointer (some ⟨cx, 0, none⟩), .int .u16 0, .slice p n c])
    (k2 : w.cell? ⟨cx, 2, none⟩ = some (.int .u16 ver)) (k9 : w.cell? ⟨cx, 9, none⟩ = some (.bool cp)) (hi : Lib.BytesIn w p n xs) (hx : xs.length = n) (hn : n ≤ 100000) :
    Calls Tryd.prog 61 #[.pointer (some ⟨pk, 0, none⟩)] w fun e w' => ∃ v, e = .returned v ∧ w'.ownsRow w.heap.size 5 1 v (10 + n) ((dataL long len xs).map (Value.int .u8)) ∧ Below w.heap.size w w' := by
  have hpk := hk.lt
  have C := Lib.hid (packet_bytes long pk 0 cx 10 len 6 0 ver cp w hlong hl0 hl1 (hk.cell 0) (hk.cell 1) (hk.cell 2) (hk.cell 3) (hk.cell 4) k2 k9 (by decide) (by decide))
  have HK := Lib.hid hk
  have HI := Lib.hid hi
  have HX := Lib.hid hx
  clear hlong k2 k9 hi hx hk
  go_enter Tryd.func61, Tryd.ntmps61
  go_wp2_with fail
  refine C.out.mono ?_
  rintro e w1 ⟨g, cap, rfl, hown, hb⟩
  have HB := Lib.hid hb
  have HO := Lib.hid hown
  have d5 : w1.cell? ⟨pk, 5, none⟩ = some (.int .u16 0) := (HK.out.old hb).cell 5
  have d6 : w1.cell? ⟨pk, 6, none⟩ = some (.slice p n c) := (HK.out.old hb).cell 6
  have hg := own_lt hown
  have hne : pk ≠ g := by omega
  have hc10 : 10 ≤ cap := by
    rcases hown.2 with ⟨h, _⟩ | ⟨_, _, _, h, _, _, hle, _⟩
    · cases h
    · injection h; omega
  have hgw := hg.1
  have hc8 : cap ≠ 8 := by omega
  clear hb hown hg
  go_wp2_with fail
  go_region_held3 (fun w' => w'.cell? ⟨pk, 5, none⟩ = some (.int .u16 0) ∧ w'.cell? ⟨pk, 6, none⟩ = some (.slice p n c)) (go_keep)
    (first | (go_at_call 69; refine (put16_own w.heap.size g 8 10 cap 2 (cap - 8) 0 (headL long len 6 0 10) _ (by exact HO.out) (by omega) (by omega) (by omega) (by omega)).mono ?_; rintro e w2 ⟨rfl, hown2, hg2⟩; have f5 := grown_cell hg2 d5 hne; have f6 := grown_cell hg2 d6 hne; have HO2 := Lib.hid hown2; have HG2 := Lib.hid hg2; clear hown2 hg2 d5 d6))
  go_wp2_with fail
  refine (newBuffer_any _ _ ⟨_, _, _, rfl⟩).mono ?_
  rintro e w3 ⟨rfl, rfl⟩
  have hb2 : Below w.heap.size w w2 := HB.out.trans (below_grown (show w1.grownBy w2 (some g) from ⟨HG2.out.os, HG2.out.tape, HG2.out.output, HG2.out.size, HG2.out.block⟩) hgw HB.out.size)
  have HB2 := Lib.hid hb2
  have hsz : w.heap.size ≤ w2.heap.size := hb2.size
  have hpk2 : pk < w2.heap.size := by omega
  have hbuf : Lib.IsBuffer 92 5 w.heap.size w2.heap.size ((setAll (headL long len 6 0 10) 8 (be2 0)).map (Value.int .u8)) (w2.alloc (.cells #[.slice (some ⟨g, 0, none⟩) 10 cap, .int .i64 0, .int .i8 0] 92)) := by
    have hl : (setAll (headL long len 6 0 10) 8 (be2 0)).length = 10 := by simpa using HO2.out.1
    refine ⟨hsz, _, _, heap_alloc_new _ _, ?_, ?_⟩
    · rw [List.length_map, hl]; exact HO2.out.alloc _
    · have := (own_lt HO2.out).2; simp [Value.ownBlock]; omega
  have HBuf := Lib.hid hbuf
  clear hbuf hb2
  have hlen : ((setAll (headL long len 6 0 10) 8 (be2 0)).map (Value.int .u8)).length = 10 := by have := HO2.out.1; simpa using this
  have HL := Lib.hid hlen
  have hone : ∀ (l : List Int), ∀ v ∈ l.map (Value.int .u8), v.oneCell' = true := fun l v hv => by obtain ⟨x, _, rfl⟩ := List.mem_map.1 hv; rfl
  have HOne := Lib.hid hone
  clear hlen hone
  by_cases h0 : n = 0
  · subst h0
    have hx0 : xs = [] := List.eq_nil_of_length_eq_zero HX.out
    subst hx0
    go_wp2_with fail
    refine (Tryd.Buffer_Bytes _ _ _ _ HBuf.out).mono ?_
    rintro e w4 ⟨v, rfl, hov, k, rfl⟩
    have HV := Lib.hid hov
    clear hov
    go_wp2_with fail
    go_ret
    refine ⟨v, rfl, ?_, below_drewN (HB2.out.alloc HB2.out.size _) k⟩
    have hov := HV.out
    rw [HL.out] at hov
    simpa [dataL] using hov
  · have hn0 : (0 : Int) < ((n : Nat) : Int) := by omega
    obtain ⟨b, o, rfl, hc⟩ := HI.out (by omega)
    have hbw : b < w.heap.size := heap_lt_of_cell (hc 0 (by omega))
    have hsrc : ∀ j v, (xs.map (Value.int .u8))[j]? = some v → (w2.alloc (.cells #[.slice (some ⟨g, 0, none⟩) 10 cap, .int .i64 0, .int .i8 0] 92)).cell? ((⟨b, o, none⟩ : Addr).add j) = some v := fun j v hj => by
      have hjn : j < xs.length := by have := (List.getElem?_eq_some_iff.1 hj).1; simpa using this
      rw [Go.WideShapes.add_plain, ((HB2.out.alloc HB2.out.size _).cell (p := ⟨b, o + j, none⟩) hbw), hc j (by have := HX.out; omega)]
      simpa [List.getD, List.getElem?_eq_getElem hjn] using hj
    have W := Lib.hid (Tryd.Buffer_Write_any w.heap.size w2.heap.size _ (xs.map (Value.int .u8)) ⟨b, o, none⟩ n c _ HBuf.out (by simp; omega) (HOne.out _) (by simpa using HX.out) (by simp; omega) hsrc (HOne.out _) (by rw [HL.out]; omega))
    clear hc hsrc
    go_wp2_with fail
    refine W.out.mono ?_
    rintro e w4 ⟨rfl, hbuf4, hb4, _⟩
    have HB4 := Lib.hid ((HB2.out.alloc HB2.out.size _).trans hb4)
    have HBuf4 := Lib.hid hbuf4
    clear hbuf4 hb4 W
    go_wp2_with fail
    refine (Tryd.Buffer_Bytes _ _ _ _ HBuf4.out).mono ?_
    rintro e w5 ⟨v, rfl, hov, k, rfl⟩
    have HV := Lib.hid hov
    clear hov
    go_wp2_with fail
    go_ret
    refine ⟨v, rfl, ?_, below_drewN HB4.out k⟩
    have hov := HV.out
    rw [List.length_append, HL.out, List.length_map, HX.out, ← List.map_append] at hov
    exact hov

theorem dataBytes_net (long : Bool) (cx : Nat) (p : Option Addr) (n c : Nat) (xs : List Int) (ver : Int) (cp : Bool) (w : World) (hlong : long = (cp && decide (315 ≤ ver)))
    (k2 : w.cell? ⟨cx, 2, none⟩ = some (.int .u16 ver)) (k9 : w.cell? ⟨cx, 9, none⟩ = some (.bool cp)) (hi : Lib.BytesIn w p n xs) (hx : xs.length = n) (hn : n ≤ 100000) :
    Calls Tryd.prog 36 #[.pointer (some ⟨cx, 0, none⟩), .slice p n c] w fun e w' => ∃ v, e = .returned (.tuple #[v, .nilIface]) ∧ w'.ownsRow w.heap.size 5 1 v (10 + n) ((dataL long ((n : Int) + 10) xs).map (Value.int .u8)) ∧ Below w.heap.size w w' := by
  have hcx : cx < w.heap.size := heap_lt_of_cell k2
  have C := Lib.hid (fun O => dataPacket_bytes long w.heap.size cx p n c xs ((n : Int) + 10) ver cp (w.alloc O) hlong (by omega) (by omega))
  have K2 := Lib.hid k2
  have K9 := Lib.hid k9
  have HI := Lib.hid hi
  have HX := Lib.hid hx
  clear hlong k2 k9 hi hx
  go_enter Tryd.func36, Tryd.ntmps36
  go_wp2_with fail
  refine (newDataPacket_any cx p n c _ hn).mono ?_
  rintro e w1 ⟨rfl, rfl⟩
  go_wp2_with fail
  refine (C.out _ (Blk.new _ _ _) (by rw [World.cell?_alloc_lt _ _ _ hcx]; exact K2.out) (by rw [World.cell?_alloc_lt _ _ _ hcx]; exact K9.out) (bin_alloc HI.out _) HX.out hn).mono ?_
  rintro e w2 ⟨v, rfl, hov, hb⟩
  have HV := Lib.hid hov
  have HB := Lib.hid hb
  clear hov hb C
  go_wp2_with fail
  go_ret2
  exact ⟨v, rfl, own_base HV.out (by simp), ((Below.refl _ _).alloc (Nat.le_refl _) _).trans (HB.out.mono (by simp))⟩

/-- A context's fields fit their kinds. -/
structure Cx.Ok (c : Cx) : Prop where
  v : 0 ≤ c.v ∧ c.v < 65536
  lo : 0 ≤ c.lo ∧ c.lo < 65536
  op : 0 ≤ c.op ∧ c.op < 65536
  oo : 0 ≤ c.oo ∧ c.oo < 65536
  su : 0 ≤ c.su ∧ c.su < 4294967296
  tu : 0 ≤ c.tu ∧ c.tu < 4294967296
def Cx.long (c : Cx) : Bool := c.cp && decide (315 ≤ c.v)

theorem clone_any (w : World) (p : Option Addr) (n c : Nat) (xs : List Int) (h : Lib.BytesIn w p n xs) (hx : xs.length = n) (hn : n ≤ 140737488355328) :
    Calls Tryd.prog 9 #[.slice p n c] w fun e w' => ∃ q d, e = .returned (.slice q n d) ∧ w'.ownsRow w.heap.size 5 1 (.slice q n d) n (xs.map (Value.int .u8)) ∧ Below w.heap.size w w' := by
  cases p with
  | none =>
    have hn0 : n = 0 := by
      rcases Nat.eq_zero_or_pos n with h0 | h0
      · exact h0
      · obtain ⟨b, o, hp, _⟩ := h h0
        cases hp
    subst hn0
    have hl : xs = [] := List.eq_nil_of_length_eq_zero hx
    subst hl
    refine (Tryd.bytes_Clone_nil _ _ _).mono ?_
    rintro e w' ⟨rfl, rfl⟩
    exact ⟨none, 0, rfl, World.ownsRow_nil _ _ _ _, Below.refl _ _⟩
  | some a =>
    have hc : ∀ i, i < n → w.cell? (a.add i) = some (.int .u8 (xs.getD i 0)) := fun i hi => by
      obtain ⟨b, o, hp, hcell⟩ := h (by omega)
      injection hp with hp
      subst hp
      rw [Go.WideShapes.add_plain]
      exact hcell i hi
    refine (Tryd.bytes_Clone_at a n c xs w hx (by omega) hc).mono ?_
    rintro e w' ⟨v, rfl, hown, _, hb⟩
    obtain ⟨q, d, rfl, hin⟩ := bin_own hown
    exact ⟨q, d, rfl, hown, hb⟩

theorem bin_of_own {w : World} {base : Nat} {e : TypeId} {q : Option Addr} {n d : Nat} {xs : List Int} (h : w.ownsRow base e 1 (.slice q n d) n (xs.map (Value.int .u8))) : Lib.BytesIn w q n xs := by
  obtain ⟨_, _, hv, hin⟩ := bin_own h
  cases hv
  exact hin

set_option maxRecDepth 100000 in
set_option maxHeartbeats 1000000 in
theorem dataBytes_any (c : Cx) (p : Option Addr) (n k : Nat) (xs : List Int) (w : World) (hi : Lib.BytesIn w p n xs) (hx : xs.length = n) (hn : n ≤ 100000) :
    Calls Tryd.prog 19 #[c.val, .slice p n k] w fun e w' => ∃ v, e = .returned v ∧ w'.ownsRow w.heap.size 5 1 v (10 + n) ((dataL c.long ((n : Int) + 10) xs).map (Value.int .u8)) ∧ Below w.heap.size w w' := by
  have HI := Lib.hid hi
  have HX := Lib.hid hx
  clear hi hx
  unfold Cx.val
  go_enter Tryd.func19, Tryd.ntmps19
  go_wp2_with fail
  refine (contextOf_any c _).mono ?_
  rintro e w1 ⟨cx, rfl, hk, hb⟩
  have HK := Lib.hid hk
  have HB := Lib.hid (((Below.refl w.heap.size w).alloc (Nat.le_refl _) _).trans (hb.mono (by simp)))
  clear hk hb
  go_wp2_with fail
  refine (clone_any _ _ _ _ _ (bin_below HI.out HB.out) HX.out (by omega)).mono ?_
  rintro e w2 ⟨q, d, rfl, hown, hb⟩
  have HQ := Lib.hid (bin_of_own hown)
  have HK2 := Lib.hid (HK.out.old hb)
  have HB2 := Lib.hid (HB.out.trans (hb.mono HB.out.size))
  clear hown hb HK HB
  go_wp2_with fail
  refine (dataBytes_net c.long _ _ _ _ _ c.v c.cp _ rfl (ctx_c2 HK2.out) (ctx_c9 HK2.out) HQ.out HX.out hn).mono ?_
  rintro e w3 ⟨v, rfl, hov, hb⟩
  have HV := Lib.hid (own_base hov HB2.out.size)
  have HB3 := Lib.hid (HB2.out.trans (hb.mono HB2.out.size))
  clear hov hb
  go_wp2_with fail
  go_ret
  exact ⟨v, rfl, HV.out, HB3.out⟩

set_option maxRecDepth 100000 in
set_option maxHeartbeats 1000000 in
theorem packetAwake_any (w : World) :
    Calls Tryd.prog 6 #[] w fun e w' => e = .returned (.bool true) ∧ Below w.heap.size w w' := by
  have kc := fun (w : World) (C : Array Value) (n c : Nat) => Lib.run_convert_bytes_const (P := Tryd.prog) w 26 5 C n c Tryd.underlying26 Tryd.underlying5
  go_enter Tryd.func6, Tryd.ntmps6
  go_wp2_with fail
  refine (dataBytes_any ⟨0, 0, 0, 0, 0, 0, 0, 0, 0, false⟩ _ 2 2 [97, 98] _ (by exact bin_new_m w [97, 98] _ _) rfl (by decide)).mono ?_
  rintro e w1 ⟨v, rfl, hov, hb⟩
  obtain ⟨q, d, rfl, hin⟩ := bin_own hov
  have HI := Lib.hid hin
  have HB := Lib.hid (((Below.refl w.heap.size w).alloc (Nat.le_refl _) (.cells #[.int .u8 97, .int .u8 98] 5 (2, 3))).trans (hb.mono (by simp)))
  clear hov hb hin
  go_wp2_with fail
  refine (Tryd.bytes_Equal_all _ _ _ _ _ _ (dataL false 12 [97, 98]) [0, 12, 0, 0, 6, 0, 0, 0, 0, 0, 97, 98] _ (by decide) rfl (by exact bin_alloc HI.out _) (by exact bin_new w1 [0, 12, 0, 0, 6, 0, 0, 0, 0, 0, 97, 98] _)).mono ?_
  rintro e w2 ⟨rfl, rfl⟩
  rw [show (Lib.bytesOf (dataL false 12 [97, 98]) == Lib.bytesOf [0, 12, 0, 0, 6, 0, 0, 0, 0, 0, 97, 98]) = true from by decide]
  go_wp2_with fail
  go_ret
  exact ⟨rfl, HB.out.alloc HB.out.size _⟩
end Go.Proofs.YtacmnibhdmeidaaDoor
