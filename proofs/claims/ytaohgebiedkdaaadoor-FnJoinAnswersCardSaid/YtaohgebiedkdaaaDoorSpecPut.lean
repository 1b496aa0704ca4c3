/-
  The reference's packetPut, packetLength, PacketHead.
-/
import Derived.Test.YtaohgebiedkdaaaDoorData
import Derived.Laws.BitsAllLaws
import Derived.LoopTactic
import Derived.LoopN
namespace Go.Proofs.YtaohgebiedkdaaaDoor
open Go Go.RowKit

set_option maxHeartbeats 2000000 in
set_option maxRecDepth 100000 in
theorem packetPut2 (base g n cap at_ : Nat) (v : Int) (xs : List Int) (w : World) (h : w.ownsRow base 5 1 (.slice (some ⟨g, 0, none⟩) n cap) n (xs.map (Value.int .u8))) (ham : at_ + 2 ≤ n) (_hv0 : 0 ≤ v) (_hv1 : v < 281474976710656) (hcap : n ≤ 100000) :
    Calls Tryd.prog 46 #[.slice (some ⟨g, 0, none⟩) n cap, .int .i64 at_, .int .i64 2, .int .u64 v] w fun e w' => e = .returned (.tuple #[]) ∧
      w'.ownsRow base 5 1 (.slice (some ⟨g, 0, none⟩) n cap) n ((setAll xs at_ (be2 v)).map (Value.int .u8)) ∧ w.grownBy w' (some g) := by
  have hgl := (own_lt h).2
  have a0 := own_cell h at_ (by omega)
  have f0 := h.frozenAt at_
  have a1 := own_cell h (at_ + 1) (by omega)
  have f1 := h.frozenAt (at_ + 1)
  have i1 : ((at_ : Nat) : Int) + 2 ≤ ((n : Nat) : Int) := by omega
  have i2 : ((n : Nat) : Int) ≤ 100000 := by omega
  have HO := Lib.hid h
  clear h
  go_enter Tryd.func46, Tryd.ntmps46
  go_wp2
  refine wp_loop_rounds 3 ?_
  rw [rounds_succ]
  go_wp2
  rw [rounds_succ]
  go_wp2
  rw [rounds_succ]
  go_wp2
  go_end0
  obtain ⟨o0, g0⟩ := own_store HO.out at_ (v / 256 % 256)
  obtain ⟨o1, g1⟩ := own_store o0 (at_ + 1) (v % 256)
  exact ⟨rfl, o1, grown_trans (g0) g1⟩

set_option maxHeartbeats 2000000 in
set_option maxRecDepth 100000 in
theorem packetPut4 (base g n cap at_ : Nat) (v : Int) (xs : List Int) (w : World) (h : w.ownsRow base 5 1 (.slice (some ⟨g, 0, none⟩) n cap) n (xs.map (Value.int .u8))) (ham : at_ + 4 ≤ n) (_hv0 : 0 ≤ v) (_hv1 : v < 281474976710656) (hcap : n ≤ 100000) :
    Calls Tryd.prog 46 #[.slice (some ⟨g, 0, none⟩) n cap, .int .i64 at_, .int .i64 4, .int .u64 v] w fun e w' => e = .returned (.tuple #[]) ∧
      w'.ownsRow base 5 1 (.slice (some ⟨g, 0, none⟩) n cap) n ((setAll xs at_ (be4 v)).map (Value.int .u8)) ∧ w.grownBy w' (some g) := by
  have hgl := (own_lt h).2
  have a0 := own_cell h at_ (by omega)
  have f0 := h.frozenAt at_
  have a1 := own_cell h (at_ + 1) (by omega)
  have f1 := h.frozenAt (at_ + 1)
  have a2 := own_cell h (at_ + 2) (by omega)
  have f2 := h.frozenAt (at_ + 2)
  have a3 := own_cell h (at_ + 3) (by omega)
  have f3 := h.frozenAt (at_ + 3)
  have i1 : ((at_ : Nat) : Int) + 4 ≤ ((n : Nat) : Int) := by omega
  have i2 : ((n : Nat) : Int) ≤ 100000 := by omega
  have HO := Lib.hid h
  clear h
  go_enter Tryd.func46, Tryd.ntmps46
  go_wp2
  refine wp_loop_rounds 5 ?_
  rw [rounds_succ]
  go_wp2
  rw [rounds_succ]
  go_wp2
  rw [rounds_succ]
  go_wp2
  rw [rounds_succ]
  go_wp2
  rw [rounds_succ]
  go_wp2
  go_end0
  obtain ⟨o0, g0⟩ := own_store HO.out at_ (v / 16777216 % 256)
  obtain ⟨o1, g1⟩ := own_store o0 (at_ + 1) (v / 65536 % 256)
  obtain ⟨o2, g2⟩ := own_store o1 (at_ + 2) (v / 256 % 256)
  obtain ⟨o3, g3⟩ := own_store o2 (at_ + 3) (v % 256)
  exact ⟨rfl, o3, grown_trans (grown_trans (grown_trans (g0) g1) g2) g3⟩

theorem specLong_any (c : Cx) (w : World) :
    Calls Tryd.prog 43 #[c.val] w fun e w' => e = .returned (.bool c.long) ∧ Below w.heap.size w w' := by
  have HB := Lib.hid (show c.long = (c.cp && decide (315 ≤ c.v)) from rfl)
  generalize c.long = b at *
  unfold Cx.val
  cases hc : c.cp
  · rw [hc] at HB
    clear hc
    go_enter Tryd.func43, Tryd.ntmps43
    go_wp2
    go_ret
    exact ⟨by rw [HB.out]; rfl, (Below.refl _ _).alloc (Nat.le_refl _) _⟩
  · rw [hc] at HB
    clear hc
    go_enter Tryd.func43, Tryd.ntmps43
    go_wp2
    go_ret
    exact ⟨by rw [HB.out, Bool.true_and]; rfl, (Below.refl _ _).alloc (Nat.le_refl _) _⟩

set_option maxHeartbeats 2000000 in
set_option maxRecDepth 100000 in
theorem packetLength_any (c : Cx) (base g n cap : Nat) (v : Int) (xs : List Int) (w : World) (h : w.ownsRow base 5 1 (.slice (some ⟨g, 0, none⟩) n cap) n (xs.map (Value.int .u8))) (hn : 4 ≤ n) (hv0 : 0 ≤ v) (hv1 : v < 4294967296) (hcap : n ≤ 100000) :
    Calls Tryd.prog 62 #[c.val, .slice (some ⟨g, 0, none⟩) n cap, .int .u64 v] w fun e w' => e = .returned (.tuple #[]) ∧
      w'.ownsRow base 5 1 (.slice (some ⟨g, 0, none⟩) n cap) n ((setAll xs 0 (if c.long then be4 v else be2 v)).map (Value.int .u8)) ∧ w.grownBy w' (some g) := by
  have hgl := own_lt h
  have HO := Lib.hid h
  have HG := Lib.hid hgl
  clear h hgl
  have L := Lib.hid (fun w1 => specLong_any c w1)
  unfold Cx.val at *
  cases hl : c.long
  · rw [hl] at L
    go_enter Tryd.func62, Tryd.ntmps62
    go_wp2_with fail
    refine (L.out _).mono ?_
    rintro e w1 ⟨rfl, hb⟩
    have HO1 := Lib.hid (own_below (HO.out.alloc _) hb)
    have HB1 := Lib.hid (grown_below (((Below.refl w.heap.size w).alloc (Nat.le_refl _) _).trans (hb.mono (by simp))) (some g))
    clear hb
    go_wp2_with fail
    refine (packetPut2 base g n cap 0 v xs _ HO1.out (by omega) hv0 (by omega) hcap).mono ?_
    rintro e w2 ⟨rfl, ho, hg⟩
    have HO2 := Lib.hid ho
    have HG2 := Lib.hid (grown_trans HB1.out hg)
    clear ho hg
    go_wp2_with fail
    go_end0
    exact ⟨rfl, HO2.out, HG2.out⟩
  · rw [hl] at L
    go_enter Tryd.func62, Tryd.ntmps62
    go_wp2_with fail
    refine (L.out _).mono ?_
    rintro e w1 ⟨rfl, hb⟩
    have HO1 := Lib.hid (own_below (HO.out.alloc _) hb)
    have HB1 := Lib.hid (grown_below (((Below.refl w.heap.size w).alloc (Nat.le_refl _) _).trans (hb.mono (by simp))) (some g))
    clear hb
    go_wp2_with fail
    refine (packetPut4 base g n cap 0 v xs _ HO1.out (by omega) hv0 (by omega) hcap).mono ?_
    rintro e w2 ⟨rfl, ho, hg⟩
    have HO2 := Lib.hid ho
    have HG2 := Lib.hid (grown_trans HB1.out hg)
    clear ho hg
    go_wp2_with fail
    exact bodyPost_ret (v := .tuple #[]) (by simp [results, Tryd.results62, go_sem]) rfl ⟨rfl, HO2.out, HG2.out⟩

theorem run_make_any (kl kc : IntKind) (n : Nat) (hb : n ≤ 281474976710656) (w : World) :
    (Instr.makeSlice 22 (.int kl (n : Int)) (.int kc (n : Int))).run Tryd.prog w = .ok (.slice (some ⟨w.heap.size, 0, none⟩) n n) (w.alloc (.cells (zeroA n) 5)) := run_make_bytes kl kc n n (Nat.le_refl _) hb w

theorem headL_eq (long : Bool) (len ty fl : Int) (off : Nat) : headL long len ty fl off = ((setAll (zL off) 0 (if long then be4 len else be2 len)).set 4 ty).set 5 fl := by
  have : be2 (len % 65536) = be2 len := by
    unfold be2
    rw [show len % 65536 / 256 % 256 = len / 256 % 256 from by omega, show len % 65536 % 256 = len % 256 from by omega]
  rw [headL, this]

set_option maxHeartbeats 2000000 in
set_option maxRecDepth 100000 in
theorem specHead_any (c : Cx) (off : Nat) (len ty fl o : Int) (w : World) (ho : o = (off : Int)) (h8 : 8 < off) (h9 : off < 2000) (hl0 : 0 ≤ len) (hl1 : len < 4294967296) :
    Calls Tryd.prog 42 #[c.val, .agg #[.int .u32 len, .int .u8 ty, .int .u8 fl, .int .u16 o]] w fun e w' => ∃ g, e = .returned (.slice (some ⟨g, 0, none⟩) off off) ∧
      w'.ownsRow w.heap.size 5 1 (.slice (some ⟨g, 0, none⟩) off off) off ((headL c.long len ty fl off).map (Value.int .u8)) ∧ Below w.heap.size w w' := by
  have HH := Lib.hid (headL_eq c.long len ty fl off)
  have h8i : (8 : Int) < o := by omega
  have h9i : o < 2000 := by omega
  have mk : ∀ w : World, (Instr.makeSlice 22 (.int .i64 o) (.int .i64 o)).run Tryd.prog w = .ok (.slice (some ⟨w.heap.size, 0, none⟩) off off) (w.alloc (.cells (zeroA off) 5)) := by
    rw [ho]; exact run_make_any .i64 .i64 off (by omega)
  have HL := Lib.hid (fun base g cap v xs w1 h hn hv0 hv1 hcap => packetLength_any c base g off cap v xs w1 h hn hv0 hv1 hcap)
  have hmx : max 8 o = o := by omega
  clear ho
  unfold Cx.val at *
  go_enter Tryd.func42, Tryd.ntmps42
  go_wp2_with fail
  have W1 : World := ((w.alloc (.cells #[.int .u16 c.v, .int .u16 c.lo, .int .u16 c.op, .int .u16 c.oo, .int .u16 c.hi, .int .u8 c.a0, .int .u8 c.a1, .int .u32 c.su, .int .u32 c.tu, .bool c.cp] 35)).alloc (.cells #[.int .u32 len, .int .u8 ty, .int .u8 fl, .int .u16 o] 27))
  have hz := own_zero ((w.alloc (.cells #[.int .u16 c.v, .int .u16 c.lo, .int .u16 c.op, .int .u16 c.oo, .int .u16 c.hi, .int .u8 c.a0, .int .u8 c.a1, .int .u32 c.su, .int .u32 c.tu, .bool c.cp] 35)).alloc (.cells #[.int .u32 len, .int .u8 ty, .int .u8 fl, .int .u16 o] 27)) off off 5 (Nat.le_refl _) (by unfold maxLen; omega)
  simp only [World.size_alloc] at hz
  have HZ := Lib.hid hz
  clear hz W1
  refine (HL.out (w.heap.size + 1 + 1) (w.heap.size + 1 + 1) off len (zL off) _ HZ.out (by omega) hl0 hl1 (by omega)).mono ?_
  rintro e w1 ⟨rfl, ho, hg⟩
  generalize setAll (zL off) 0 (if c.long = true then be4 len else be2 len) = ys at *
  have hb := Blk.new2 w (.cells #[.int .u16 c.v, .int .u16 c.lo, .int .u16 c.op, .int .u16 c.oo, .int .u16 c.hi, .int .u8 c.a0, .int .u8 c.a1, .int .u32 c.su, .int .u32 c.tu, .bool c.cp] 35) 27 #[.int .u32 len, .int .u8 ty, .int .u8 fl, .int .u16 o]
  have hb1 := (hb.alloc (.cells (zeroA off) 5)).grown hg (by intro e; injection e; omega)
  have q1 : w1.cell? ⟨w.heap.size + 1, 1, none⟩ = some (.int .u8 ty) := hb1.cell 1
  have q2 : w1.cell? ⟨w.heap.size + 1, 2, none⟩ = some (.int .u8 fl) := hb1.cell 2
  have s4 := own_cell ho 4 (by omega)
  have s5 := own_cell ho 5 (by omega)
  have z4 := ho.frozenAt 4
  have z5 := ho.frozenAt 5
  have HO := Lib.hid ho
  have HG := Lib.hid (((((Below.refl w.heap.size w).alloc (Nat.le_refl _) _).alloc (by simp) _).alloc (by simp; omega) _).trans (below_grown (B := w.heap.size) hg (by omega) (by simp; omega)))
  have i4 : (4 : Int) < ((off : Nat) : Int) := by omega
  have i5 : (5 : Int) < ((off : Nat) : Int) := by omega
  clear ho hg hb hb1 HL HZ mk hmx
  go_wp2_with fail
  go_region
  go_wp2
  go_ret
  refine ⟨_, rfl, ?_, ((HG.out.setCell (show w.heap.size ≤ w.heap.size + 1 + 1 by omega) _).setCell (show w.heap.size ≤ w.heap.size + 1 + 1 by omega) _).drew⟩
  rw [HH.out]
  exact own_base (own_store (own_store HO.out 4 ty).1 5 fl).1 (by omega)
end Go.Proofs.YtaohgebiedkdaaaDoor
