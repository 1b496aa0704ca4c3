/-
  The reference's packetPut, packetLength, PacketHead.
-/
import Derived.Test.YtacmnibhdmeidaaDoorData
import Derived.Laws.BitsAllLaws
import Derived.LoopTactic
import Derived.LoopN
namespace Go.Proofs.YtacmnibhdmeidaaDoor
open Go Go.RowKit

set_option maxHeartbeats 2000000 in
set_option maxRecDepth 100000 in
theorem packetPut2 (base g n cap at_ : Nat) (v : Int) (xs : List Int) (w : World) (h : w.ownsRow base 5 1 (.slice (some ⟨g, 0, none⟩) n cap) n (xs.map (Value.int .u8))) (ham : at_ + 2 ≤ n) (_hv0 : 0 ≤ v) (_hv1 : v < 281474976710656) (hcap : n ≤ 100000) :
    Calls Tryd.prog 20 #[.slice (some ⟨g, 0, none⟩) n cap, .int .i64 at_, .int .i64 2, .int .u64 v] w fun e w' => e = .returned (.tuple #[]) ∧
      w'.ownsRow base 5 1 (.slice (some ⟨g, 0, none⟩) n cap) n ((setAll xs at_ (be2 v)).map (Value.int .u8)) ∧ w.grownBy w' (some g) := by
  have hgl := (own_lt h).2
  have a0 := own_cell h at_ (by omega)
  have f0 := h.frozenAt at_
  have a1 := own_cell h (at_ + 1) (by omega)
  have f1 := h.frozenAt (at_ + 1)
  have i1 : ((at_ : Nat) : Int) + 2 ≤ ((n : Nat) : Int) := by omega
  have i2 : ((n : Nat) : Int) ≤ 100000 := by omega
  have HO := Lib.hid h
  clear h
  go_enter Tryd.func20, Tryd.ntmps20
  go_wp2
  refine wp_loop_rounds 3 ?_
  rw [rounds_succ]
  go_wp2
  rw [rounds_succ]
  go_wp2
  rw [rounds_succ]
  go_wp2
  go_end0
  obtain ⟨o0, g0⟩ := own_store HO.out at_ (v / 256 % 256)
  obtain ⟨o1, g1⟩ := own_store o0 (at_ + 1) (v % 256)
  exact ⟨rfl, o1, grown_trans (g0) g1⟩

set_option maxHeartbeats 2000000 in
set_option maxRecDepth 100000 in
theorem packetPut4 (base g n cap at_ : Nat) (v : Int) (xs : List Int) (w : World) (h : w.ownsRow base 5 1 (.slice (some ⟨g, 0, none⟩) n cap) n (xs.map (Value.int .u8))) (ham : at_ + 4 ≤ n) (_hv0 : 0 ≤ v) (_hv1 : v < 281474976710656) (hcap : n ≤ 100000) :
    Calls Tryd.prog 20 #[.slice (some ⟨g, 0, none⟩) n cap, .int .i64 at_, .int .i64 4, .int .u64 v] w fun e w' => e = .returned (.tuple #[]) ∧
      w'.ownsRow base 5 1 (.slice (some ⟨g, 0, none⟩) n cap) n ((setAll xs at_ (be4 v)).map (Value.int .u8)) ∧ w.grownBy w' (some g) := by
  have hgl := (own_lt h).2
  have a0 := own_cell h at_ (by omega)
  have f0 := h.frozenAt at_
  have a1 := own_cell h (at_ + 1) (by omega)
  have f1 := h.frozenAt (at_ + 1)
  have a2 := own_cell h (at_ + 2) (by omega)
  have f2 := h.frozenAt (at_ + 2)
  have a3 := own_cell h (at_ + 3) (by omega)
  have f3 := h.frozenAt (at_ + 3)
  have i1 : ((at_ : Nat) : Int) + 4 ≤ ((n : Nat) : Int) := by omega
  have i2 : ((n : Nat) : Int) ≤ 100000 := by omega
  have HO := Lib.hid h
  clear h
  go_enter Tryd.func20, Tryd.ntmps20
  go_wp2
  refine wp_loop_rounds 5 ?_
  rw [rounds_succ]
  go_wp2
  rw [rounds_succ]
  go_wp2
  rw [rounds_succ]
  go_wp2
  rw [rounds_succ]
  go_wp2
  rw [rounds_succ]
  go_wp2
  go_end0
  obtain ⟨o0, g0⟩ := own_store HO.out at_ (v / 16777216 % 256)
  obtain ⟨o1, g1⟩ := own_store o0 (at_ + 1) (v / 65536 % 256)
  obtain ⟨o2, g2⟩ := own_store o1 (at_ + 2) (v / 256 % 256)
  obtain ⟨o3, g3⟩ := own_store o2 (at_ + 3) (v % 256)
  exact ⟨rfl, o3, grown_trans (grown_trans (grown_trans (g0) g1) g2) g3⟩

theorem run_make_any (kl kc : IntKind) (n : Nat) (hb : n ≤ 281474976710656) (w : World) :
    (Instr.makeSlice 26 (.int kl (n : Int)) (.int kc (n : Int))).run Tryd.prog w = .ok (.slice (some ⟨w.heap.size, 0, none⟩) n n) (w.alloc (.cells (zeroA n) 5)) := run_make_bytes kl kc n n (Nat.le_refl _) hb w

theorem headL_eq (long : Bool) (len ty fl : Int) (off : Nat) : headL long len ty fl off = ((setAll (zL off) 0 (if long then be4 len else be2 len)).set 4 ty).set 5 fl := by
  have : be2 (len % 65536) = be2 len := by
    unfold be2
    rw [show len % 65536 / 256 % 256 = len / 256 % 256 from by omega, show len % 65536 % 256 = len % 256 from by omega]
  rw [headL, this]

end Go.Proofs.YtacmnibhdmeidaaDoor
