/-
  ConnectBytes of the thin package.
-/
import Derived.Test.YtaohgebiedkdaaaDoorConn
import Derived.Lib.AppendStr
import Derived.Laws.IdiomStrings
namespace Go.Proofs.YtaohgebiedkdaaaDoor
open Go Go.RowKit

/-- A string's bytes. -/
def sL (s : ByteArray) : List Int := s.data.toList.map fun b => (b.toNat : Int)
theorem sL_length (s : ByteArray) : (sL s).length = s.size := by simp [sL]
theorem sL_cells (s : ByteArray) : Lib.strCells s = (sL s).map (Value.int .u8) := by simp [Lib.strCells, sL]
theorem sL_byte (s : ByteArray) : ∀ x ∈ sL s, 0 ≤ x ∧ x < 256 := by
  intro x hx
  obtain ⟨b, _, rfl⟩ := List.mem_map.1 hx
  have := b.toNat_lt
  omega
theorem bin_row (w : World) (s : ByteArray) (cap : Nat) (t : TypeId) (m : Nat × Nat) : Lib.BytesIn (w.alloc (.cells (bytesRow s cap) t m)) (some ⟨w.heap.size, 0, none⟩) s.size (sL s) := fun _ =>
  ⟨w.heap.size, 0, rfl, fun i hi => by
    rw [Nat.zero_add, cell_of_row _ w.heap.size i _ t m (heap_alloc_new w _)]
    simp [bytesRow, sL, List.getD, Array.getElem?_append, hi]⟩

/-- The context that newConnectPacket leaves. -/
def Cx.conn (c : Cx) : Cx := { c with hi := 1, a0 := 1, a1 := 1 }
def connLen (m : Nat) : Int := (if m ≤ 230 then (m : Int) else 0) + 70

theorem conn_close {w : World} {cx : Nat} {t : TypeId} {c : Cx} {s : ByteArray} (h : Blk w cx t (c.cells s)) (cap : Nat) (m : Nat × Nat) (t1 t2 : TypeId) (cs : Array Value) :
    Blk (((((w.setCell ⟨cx, 7, none⟩ (.int .u16 1)).setCell ⟨cx, 10, none⟩ (.int .u8 1)).setCell ⟨cx, 11, none⟩ (.int .u8 1)).alloc (.cells (bytesRow s cap) t1 m)).alloc (.cells cs t2)).drew (w.heap.size + 1) t2 cs ∧
    Blk (((((w.setCell ⟨cx, 7, none⟩ (.int .u16 1)).setCell ⟨cx, 10, none⟩ (.int .u8 1)).setCell ⟨cx, 11, none⟩ (.int .u8 1)).alloc (.cells (bytesRow s cap) t1 m)).alloc (.cells cs t2)).drew cx t (c.conn.cells s) ∧
    Lib.BytesIn (((((w.setCell ⟨cx, 7, none⟩ (.int .u16 1)).setCell ⟨cx, 10, none⟩ (.int .u8 1)).setCell ⟨cx, 11, none⟩ (.int .u8 1)).alloc (.cells (bytesRow s cap) t1 m)).alloc (.cells cs t2)).drew (some ⟨w.heap.size, 0, none⟩) s.size (sL s) ∧
    w.grownBy (((((w.setCell ⟨cx, 7, none⟩ (.int .u16 1)).setCell ⟨cx, 10, none⟩ (.int .u8 1)).setCell ⟨cx, 11, none⟩ (.int .u8 1)).alloc (.cells (bytesRow s cap) t1 m)).alloc (.cells cs t2)).drew (some cx) := by
  have h3 := ((h.set_ 7 (.int .u16 1)).set_ 10 (.int .u8 1)).set_ 11 (.int .u8 1)
  have hs : (((w.setCell ⟨cx, 7, none⟩ (.int .u16 1)).setCell ⟨cx, 10, none⟩ (.int .u8 1)).setCell ⟨cx, 11, none⟩ (.int .u8 1)).heap.size = w.heap.size := by simp
  have hg : w.grownBy (((w.setCell ⟨cx, 7, none⟩ (.int .u16 1)).setCell ⟨cx, 10, none⟩ (.int .u8 1)).setCell ⟨cx, 11, none⟩ (.int .u8 1)) (some cx) := ⟨rfl, rfl, rfl, by simp, fun k hk hne => by
    have hkc : k ≠ cx := fun e => hne (by rw [e])
    exact (Below.heap_setCell _ ⟨cx, 11, none⟩ _ k hkc).trans ((Below.heap_setCell _ ⟨cx, 10, none⟩ _ k hkc).trans (Below.heap_setCell _ ⟨cx, 7, none⟩ _ k hkc))⟩
  have hc : Blk (((w.setCell ⟨cx, 7, none⟩ (.int .u16 1)).setCell ⟨cx, 10, none⟩ (.int .u8 1)).setCell ⟨cx, 11, none⟩ (.int .u8 1)) cx t (c.conn.cells s) := by
    simpa [Cx.cells, Cx.conn] using h3
  generalize ((w.setCell ⟨cx, 7, none⟩ (.int .u16 1)).setCell ⟨cx, 10, none⟩ (.int .u8 1)).setCell ⟨cx, 11, none⟩ (.int .u8 1) = W at *
  have hb := Blk.new2 W (.cells (bytesRow s cap) t1 m) t2 cs
  have hi := bin_alloc (bin_row W s cap t1 m) (.cells cs t2)
  rw [hs] at hb hi
  exact ⟨hb, (hc.alloc _).alloc _, hi, grown_drew (grown_alloc (grown_alloc hg _) _)⟩

def NewConn (c : Cx) (s : ByteArray) (cx : Nat) (len : Int) (xs : List Int) (w : World) (e : Ending) (w' : World) : Prop := ∃ pk q d, e = .returned (.pointer (some ⟨pk, 0, none⟩)) ∧
      Blk w' pk 132 #[.int .u16 70, .int .u32 len, .int .u8 1, .int .u8 0, .pointer (some ⟨cx, 0, none⟩), .slice q s.size d] ∧ Blk w' cx 99 (c.conn.cells s) ∧
      Lib.BytesIn w' q s.size xs ∧ w.grownBy w' (some cx)

set_option maxRecDepth 100000 in
set_option maxHeartbeats 2000000 in
theorem newConnectPacket_any (c : Cx) (s : ByteArray) (cx : Nat) (w : World) (hm : s.size ≤ 2000) (hc : Blk w cx 99 (c.cells s)) :
    Calls Tryd.prog 63 #[.pointer (some ⟨cx, 0, none⟩)] w (NewConn c s cx (connLen s.size) (sL s) w) := by
  have hcx := hc.lt
  have HC := Lib.hid hc
  have c1 : w.cell? ⟨cx, 1, none⟩ = some (.string s) := hc.cell 1
  have c7 : w.cell? ⟨cx, 7, none⟩ = some (.int .u16 c.hi) := hc.cell 7
  have c10 : w.cell? ⟨cx, 10, none⟩ = some (.int .u8 c.a0) := hc.cell 10
  have c11 : w.cell? ⟨cx, 11, none⟩ = some (.int .u8 c.a1) := hc.cell 11
  have z7 := hc.frozen 7
  have z10 := hc.frozen 10
  have z11 := hc.frozen 11
  have kc := fun (w : World) => run_bytes_of_string (P := Tryd.prog) w 9 22 5 s Tryd.underlying9 Tryd.underlying22 Tryd.underlying5
  have i0 : ((s.size : Nat) : Int) ≤ 2000 := by omega
  have hlen : (s.size ≤ 230 → connLen s.size = (s.size : Int) + 70) ∧ (¬ s.size ≤ 230 → connLen s.size = 70) := by
    unfold connLen
    constructor <;> intro h
    · rw [if_pos h]
    · rw [if_neg h]; rfl
  have HCl := Lib.hid (fun cap m cs => conn_close hc cap m 5 132 cs)
  generalize connLen s.size = len at *
  generalize sL s = xs at *
  by_cases hq : s.size ≤ 230
  · have hl := hlen.1 hq
    have hq1 : ((s.size : Nat) : Int) ≤ 230 := by omega
    clear hlen hc
    subst hl
    go_enter Tryd.func63, Tryd.ntmps63
    go_wp2_with fail
    go_ret
    obtain ⟨h1, h2, h3, h4⟩ := HCl.out _ _ _
    exact ⟨_, _, _, rfl, h1, h2, h3, h4⟩
  · have hl := hlen.2 hq
    have hq1 : (230 : Int) < ((s.size : Nat) : Int) := by omega
    clear hlen hc
    subst hl
    go_enter Tryd.func63, Tryd.ntmps63
    go_wp2_with fail
    go_ret
    obtain ⟨h1, h2, h3, h4⟩ := HCl.out _ _ _
    exact ⟨_, _, _, rfl, h1, h2, h3, h4⟩

theorem connectData_any (c : Cx) (s : ByteArray) (cx : Nat) (w : World) (hc : Blk w cx 99 (c.cells ⟨#[]⟩)) :
    Calls Tryd.prog 44 #[.pointer (some ⟨cx, 0, none⟩), .string s] w fun e w' => e = .returned (.tuple #[]) ∧
      Blk w' cx 99 (c.cells s) ∧ w.grownBy w' (some cx) := by
  have hcx := hc.lt
  have c1 : w.cell? ⟨cx, 1, none⟩ = some (.string ⟨#[]⟩) := hc.cell 1
  have z1 := hc.frozen 1
  have HC := Lib.hid (hc.set_ 1 (.string s))
  clear hc
  go_enter Tryd.func44, Tryd.ntmps44
  go_wp2
  go_end0
  exact ⟨rfl, by simpa [Cx.cells] using HC.out, ⟨rfl, rfl, rfl, by simp, fun k hk hne => Below.heap_setCell _ ⟨cx, 1, none⟩ _ k (fun e => hne (by rw [e]))⟩⟩

theorem connA_conn (c : Cx) (len : Int) (m : Nat) : connA c.conn len m = connA { c with a0 := 1, a1 := 1 } len m := rfl

def connL (c : Cx) (s : ByteArray) : List Int := connA c.conn (connLen s.size) s.size ++ if s.size ≤ 230 then sL s else []
def ConnBytes (c : Cx) (s : ByteArray) (B : Nat) (W : World) (e : Ending) (w' : World) : Prop := ∃ v, e = .returned v ∧ w'.ownsRow B 5 1 v (70 + if s.size ≤ 230 then s.size else 0) ((connL c s).map (Value.int .u8)) ∧ W.grownBy w' (some B)

set_option maxHeartbeats 2000000 in
theorem connectBytes_net (c : Cx) (s : ByteArray) (cx : Nat) (w : World) (ok : c.Ok) (hm : s.size ≤ 2000) (hc : Blk w cx 99 (c.cells s)) :
    Calls Tryd.prog 45 #[.pointer (some ⟨cx, 0, none⟩)] w fun e w' => ∃ v, e = .returned v ∧ w'.ownsRow w.heap.size 5 1 v (70 + if s.size ≤ 230 then s.size else 0) ((connL c s).map (Value.int .u8)) ∧ w.grownBy w' (some cx) := by
  have hcx := hc.lt
  have HC := Lib.hid hc
  have okc : c.conn.Ok := ⟨ok.v, ok.lo, ok.op, ok.oo, ok.su, ok.tu⟩
  have HL : 0 ≤ connLen s.size ∧ connLen s.size < 4294967296 := by unfold connLen; split <;> omega
  have HB := Lib.hid (fun pk q d w1 h1 h2 h3 => connectPacket_bytes c.conn s pk cx q s.size d (sL s) (connLen s.size) w1 okc HL.1 HL.2 h1 h2 h3 (sL_length s) hm)
  have HN := Lib.hid (newConnectPacket_any c s cx w hm hc)
  unfold connL
  generalize connA c.conn (connLen s.size) s.size ++ (if s.size ≤ 230 then sL s else []) = ys at *
  generalize connLen s.size = len at *
  generalize (70 + if s.size ≤ 230 then s.size else 0) = k at *
  clear hc okc ok HL
  go_enter Tryd.func45, Tryd.ntmps45
  go_wp2_with fail
  refine HN.out.mono ?_
  rintro e w1 ⟨pk, q, d, rfl, h1, h2, h3, hg⟩
  have H1 := Lib.hid h1
  have H2 := Lib.hid h2
  have H3 := Lib.hid h3
  have HG := Lib.hid hg
  clear h1 h2 h3 hg
  go_wp2_with fail
  refine (HB.out _ _ _ _ H1.out H2.out H3.out).mono ?_
  rintro e w2 ⟨v, rfl, hov, hb⟩
  have HV := Lib.hid hov
  have HW := Lib.hid hb
  clear hov hb
  go_wp2_with fail
  go_ret
  exact ⟨v, rfl, own_base HV.out HG.out.size, grown_trans HG.out (grown_below HW.out _)⟩

set_option maxHeartbeats 1000000 in
theorem contextOf_new (c : Cx) (w : World) :
    Calls Tryd.prog 39 #[c.val] w fun e w' => ∃ b, e = .returned (.pointer (some ⟨b, 0, none⟩)) ∧ Blk w' b 99 (c.cells ⟨#[]⟩) ∧ Below w.heap.size w w' ∧ w.heap.size ≤ b := by
  unfold Cx.val
  go_enter Tryd.func39, Tryd.ntmps39
  go_wp2
  go_end0
  go_wp2
  go_ret
  exact ⟨_, rfl, Blk.new2 _ _ _ _, ((Below.refl _ _).alloc (Nat.le_refl _) _).alloc (by simp) _, by simp⟩

set_option maxHeartbeats 2000000 in
theorem connectBytes_any (c : Cx) (s : ByteArray) (w : World) (ok : c.Ok) (hm : s.size ≤ 2000) :
    Calls Tryd.prog 23 #[c.val, .string s] w fun e w' => ∃ v, e = .returned v ∧ w'.ownsRow w.heap.size 5 1 v (70 + if s.size ≤ 230 then s.size else 0) ((connL c s).map (Value.int .u8)) ∧ Below w.heap.size w w' := by
  have HX := Lib.hid (fun w1 => contextOf_new c w1)
  have HD := Lib.hid (fun cx w1 h => connectData_any c s cx w1 h)
  have HB := Lib.hid (fun cx w1 h => connectBytes_net c s cx w1 ok hm h)
  generalize connL c s = ys at *
  generalize (70 + if s.size ≤ 230 then s.size else 0) = k at *
  clear ok hm
  unfold Cx.val at *
  go_enter Tryd.func23, Tryd.ntmps23
  go_wp2_with fail
  refine (HX.out _).mono ?_
  rintro e w1 ⟨b, rfl, hc, hb, hbb1⟩
  have HC := Lib.hid hc
  have HB1 := Lib.hid (((Below.refl w.heap.size w).alloc (Nat.le_refl _) _).trans (hb.mono (by simp)))
  have hbb : w.heap.size ≤ b := by rw [World.size_alloc] at hbb1; omega
  clear hc hb
  go_wp2_with fail
  refine (HD.out _ _ HC.out).mono ?_
  rintro e w2 ⟨rfl, hc, hg⟩
  have HC2 := Lib.hid hc
  have HG2 := Lib.hid hg
  clear hc hg
  go_wp2_with fail
  refine (HB.out _ _ HC2.out).mono ?_
  rintro e w3 ⟨v, rfl, hov, hg⟩
  have HV := Lib.hid hov
  have HG3 := Lib.hid hg
  clear hov hg
  go_wp2_with fail
  go_ret
  refine ⟨v, rfl, own_base HV.out (Nat.le_trans HB1.out.size HG2.out.size), (HB1.out.trans (below_grown HG2.out hbb HB1.out.size)).trans (below_grown HG3.out hbb (Nat.le_trans HB1.out.size HG2.out.size))⟩
end Go.Proofs.YtaohgebiedkdaaaDoor
