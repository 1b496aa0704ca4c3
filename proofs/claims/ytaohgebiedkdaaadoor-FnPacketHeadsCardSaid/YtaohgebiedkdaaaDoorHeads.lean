/-
  FnPacketHeads: the law returns true for every context and every head.
-/
import Derived.Test.YtaohgebiedkdaaaDoorRedLaw
namespace Go.Proofs.YtaohgebiedkdaaaDoor
open Go Go.RowKit

set_option maxRecDepth 100000 in
set_option maxHeartbeats 1000000 in
theorem headBytes_net (long : Bool) (cx off : Nat) (len ty fl ver : Int) (cp : Bool) (w : World) (hlong : long = (cp && decide (315 ≤ ver))) (hl0 : 0 ≤ len) (hl1 : len < 4294967296)
    (k2 : w.cell? ⟨cx, 2, none⟩ = some (.int .u16 ver)) (k9 : w.cell? ⟨cx, 9, none⟩ = some (.bool cp)) (h8 : 8 < off) (h9 : off < 2000) :
    Calls Tryd.prog 38 #[.pointer (some ⟨cx, 0, none⟩), .int .u32 len, .int .u8 ty, .int .u8 fl, .int .u16 (off : Int)] w fun e w' => ∃ g cap, e = .returned (.slice (some ⟨g, 0, none⟩) off cap) ∧
      w'.ownsRow w.heap.size 5 1 (.slice (some ⟨g, 0, none⟩) off cap) off ((headL long len ty fl off).map (Value.int .u8)) ∧ Below w.heap.size w w' := by
  have hcx : cx < w.heap.size := heap_lt_of_cell k2
  have hk := Blk.new w 74 #[Value.int .u16 (off : Int), .int .u32 len, .int .u8 ty, .int .u8 fl, .pointer (some ⟨cx, 0, none⟩)]
  have C := Lib.hid (packet_bytes long w.heap.size 0 cx off len ty fl ver cp _ hlong hl0 hl1 (hk.cell 0) (hk.cell 1) (hk.cell 2) (hk.cell 3) (hk.cell 4) (by rw [World.cell?_alloc_lt _ _ _ hcx]; exact k2) (by rw [World.cell?_alloc_lt _ _ _ hcx]; exact k9) h8 h9)
  clear k2 k9 hlong hk
  go_enter Tryd.func38, Tryd.ntmps38
  go_wp2_with fail
  refine C.out.mono ?_
  rintro e w1 ⟨g, cap, rfl, hown, hb⟩
  have HO := Lib.hid (own_base hown (by simp : w.heap.size ≤ _))
  have HB := Lib.hid (((Below.refl w.heap.size w).alloc (Nat.le_refl _) _).trans (hb.mono (by simp)))
  clear hown hb C
  go_wp2_with fail
  go_ret
  exact ⟨g, cap, rfl, HO.out, HB.out⟩

set_option maxRecDepth 100000 in
set_option maxHeartbeats 2000000 in
theorem headBytes_any (c : Cx) (off : Nat) (len ty fl o : Int) (w : World) (ho : o = (off : Int)) (hl : 0 ≤ len ∧ len < 4294967296) (h8 : 8 < off) (h9 : off < 2000) :
    Calls Tryd.prog 16 #[c.val, .agg #[.int .u32 len, .int .u8 ty, .int .u8 fl, .int .u16 o]] w fun e w' => ∃ g cap, e = .returned (.slice (some ⟨g, 0, none⟩) off cap) ∧
      w'.ownsRow w.heap.size 5 1 (.slice (some ⟨g, 0, none⟩) off cap) off ((headL c.long len ty fl off).map (Value.int .u8)) ∧ Below w.heap.size w w' := by
  have HO := Lib.hid ho
  have hh : w.heap.size < w.heap.size + 1 + 1 := by omega
  clear ho
  unfold Cx.val
  go_enter Tryd.func16, Tryd.ntmps16
  go_wp2_with fail
  go_region_held3 (fun w' => w'.cell? ⟨w.heap.size, 0, none⟩ = some (.int .u16 c.v) ∧ w'.cell? ⟨w.heap.size, 1, none⟩ = some (.int .u16 c.lo) ∧ w'.cell? ⟨w.heap.size, 2, none⟩ = some (.int .u16 c.op) ∧ w'.cell? ⟨w.heap.size, 3, none⟩ = some (.int .u16 c.oo) ∧ w'.cell? ⟨w.heap.size, 4, none⟩ = some (.int .u16 c.hi) ∧ w'.cell? ⟨w.heap.size, 5, none⟩ = some (.int .u8 c.a0) ∧ w'.cell? ⟨w.heap.size, 6, none⟩ = some (.int .u8 c.a1) ∧ w'.cell? ⟨w.heap.size, 7, none⟩ = some (.int .u32 c.su) ∧ w'.cell? ⟨w.heap.size, 8, none⟩ = some (.int .u32 c.tu) ∧ w'.cell? ⟨w.heap.size, 9, none⟩ = some (.bool c.cp) ∧ w'.cell? ⟨w.heap.size + 1, 0, none⟩ = some (.int .u32 len) ∧ w'.cell? ⟨w.heap.size + 1, 1, none⟩ = some (.int .u8 ty) ∧ w'.cell? ⟨w.heap.size + 1, 2, none⟩ = some (.int .u8 fl) ∧ w'.cell? ⟨w.heap.size + 1, 3, none⟩ = some (.int .u16 o)) (go_keep)
    (first
      | (go_at_call 39; refine (contextOf_any c _).mono ?_; rintro e w1 ⟨cx, rfl, hk, hb⟩; obtain ⟨hcl, hfz⟩ := bcell hb; have HK := Lib.hid hk; have HB := Lib.hid hb; simp only [World.size_alloc, World.size_drew] at hcl; clear hk hb hfz)
      | (go_at_call 38; rw [HO.out]; refine (headBytes_net c.long cx off len ty fl c.v c.cp _ rfl hl.1 hl.2 (ctx_c2 HK.out) (ctx_c9 HK.out) h8 h9).mono ?_; rintro e w2 ⟨g, cap, rfl, hown, hb2⟩; obtain ⟨hcl2, hfz2⟩ := bcell hb2; have hs4 : w.heap.size + 1 < w1.heap.size := (by have := HB.out.size; simp only [World.size_alloc, World.size_drew] at this; omega); have hs3 : w.heap.size < w1.heap.size := (by omega); have HB2 := Lib.hid hb2; have HW := Lib.hid hown; clear hb2 hown hfz2))
  go_wp2
  go_ret
  have hb1 : Below w.heap.size w w1 := (((Below.refl w.heap.size w).alloc (Nat.le_refl _) _).alloc (by simp) _).drew.trans (HB.out.mono (by simp; omega))
  exact ⟨g, cap, rfl, own_base HW.out (by omega), hb1.trans (HB2.out.mono (by omega))⟩

theorem headL_short (len ty fl : Int) : g16 (headL false len ty fl 10) 0 = len % 65536 ∧ (headL false len ty fl 10).getD 4 0 = ty ∧ (headL false len ty fl 10).getD 5 0 = fl := by
  refine ⟨?_, rfl, rfl⟩
  show len % 65536 / 256 % 256 * 256 + len % 65536 % 256 = _
  omega

set_option maxRecDepth 100000 in
set_option maxHeartbeats 2000000 in
theorem fnPacketHeads_any (c : Cx) (len ty fl o : Int) (w : World) (hl : 0 ≤ len ∧ len < 4294967296) (ht : 0 ≤ ty ∧ ty < 256) (hf : 0 ≤ fl ∧ fl < 256) :
    Calls Tryd.prog 4 #[c.val, .agg #[.int .u32 len, .int .u8 ty, .int .u8 fl, .int .u16 o]] w fun e w' => e = .returned (.bool true) ∧ Below w.heap.size w w' := by
  unfold Cx.val
  go_enter Tryd.func4, Tryd.ntmps4
  go_wp2_with fail
  refine (headBytes_any { c with cp := false } 10 len ty fl 10 _ rfl hl (by decide) (by decide)).mono ?_
  rintro e w1 ⟨g, cap, rfl, hown, hb⟩
  have HO := Lib.hid hown
  have hh := (Blk.new2 w (.cells #[.int .u16 c.v, .int .u16 c.lo, .int .u16 c.op, .int .u16 c.oo, .int .u16 c.hi, .int .u8 c.a0, .int .u8 c.a1, .int .u32 c.su, .int .u32 c.tu, .bool false] 35) 27 #[.int .u32 len, .int .u8 ty, .int .u8 fl, .int .u16 10]).old hb
  have HH := Lib.hid hh
  have HB := Lib.hid ((((Below.refl w.heap.size w).alloc (Nat.le_refl _) _).alloc (by simp) _).trans (hb.mono (by simp; omega)))
  clear hb hh hown
  go_wp2_with fail
  refine (redirectRead_long _ _ _ _ _ (bin_of_own HO.out) rfl (headL_byte false len ty fl 10 ht hf) (Nat.le_refl _) (by decide)).mono ?_
  rintro e w2 ⟨rfl, hb⟩
  obtain ⟨e1, e2, e3⟩ := headL_short len ty fl
  rw [show ({ c with cp := false } : Cx).long = false from rfl, e1, e2, e3]
  have hh := HH.out.old hb
  have hlt := hh.lt
  have q0 : w2.cell? ⟨w.heap.size + 1, 0, none⟩ = some (.int .u32 len) := hh.cell 0
  have q1 : w2.cell? ⟨w.heap.size + 1, 1, none⟩ = some (.int .u8 ty) := hh.cell 1
  have q2 : w2.cell? ⟨w.heap.size + 1, 2, none⟩ = some (.int .u8 fl) := hh.cell 2
  have HB2 := Lib.hid (HB.out.trans (hb.mono HB.out.size))
  have hand : bits .and .u32 len 65535 = len % 65536 := by
    obtain ⟨m, rfl⟩ := Int.eq_ofNat_of_zero_le hl.1
    have := u32_and_nat m 65535 (by omega) (by decide)
    rw [show ((65535 : Int)) = ((65535 : Nat) : Int) from rfl, this, show (65535 : Nat) = 2 ^ 16 - 1 from rfl, Nat.and_two_pow_sub_one_eq_mod]
    omega
  clear hb hh HB HH HO e1 e2 e3
  unfold headV
  go_wp2_with fail
  refine (packetAwake_any _).mono ?_
  rintro e w3 ⟨rfl, hb⟩
  have HB3 := Lib.hid ((HB2.out.alloc HB2.out.size (.cells #[.int .u32 (len % 65536), .int .u8 ty, .int .u8 fl, .int .u16 10] 27)).trans (hb.mono (by have := HB2.out.size; simp; omega)))
  clear hb
  go_wp2_with fail
  go_ret
  exact ⟨rfl, HB3.out⟩
end Go.Proofs.YtaohgebiedkdaaaDoor
