/-
  FnPacketConnect: the law returns true for every context and every string.
-/
import Derived.Test.YtaohgebiedkdaaaDoorSpecConn
import Derived.Test.YtaohgebiedkdaaaDoorKeep
namespace Go.Proofs.YtaohgebiedkdaaaDoor
open Go Go.RowKit

set_option maxHeartbeats 4000000 in
set_option maxRecDepth 100000 in
theorem fnPacketConnect_few (c : Cx) (s : ByteArray) (w : World) (ok : c.Ok) (hm : s.size ≤ 2000) :
    Calls Tryd.prog 7 #[c.val, .string s] w fun e w' => e = .returned (.bool true) ∧ Below w.heap.size w w' := by
  have i0 : ((s.size : Nat) : Int) ≤ 2000 := by omega
  have HI := Lib.hid (fun w1 => connectBytes_any c s w1 ok hm)
  have HS := Lib.hid (fun w1 => specConn_any c s w1 ok hm)
  clear ok hm
  generalize (70 + if s.size ≤ 230 then s.size else 0) = k at *
  generalize connL c s = ys at *
  unfold Cx.val at *
  go_enter Tryd.func7, Tryd.ntmps7
  go_wp2_with fail
  generalize hW : w.alloc (.cells #[.int .u16 c.v, .int .u16 c.lo, .int .u16 c.op, .int .u16 c.oo, .int .u16 c.hi, .int .u8 c.a0, .int .u8 c.a1, .int .u32 c.su, .int .u32 c.tu, .bool c.cp] 35) = W
  have HKB := Lib.hid (show Blk W w.heap.size 35 #[.int .u16 c.v, .int .u16 c.lo, .int .u16 c.op, .int .u16 c.oo, .int .u16 c.hi, .int .u8 c.a0, .int .u8 c.a1, .int .u32 c.su, .int .u32 c.tu, .bool c.cp] from hW ▸ Blk.new _ _ _)
  have HW0 := Lib.hid (show Below w.heap.size w W from hW ▸ (Below.refl _ w).alloc (Nat.le_refl _) _)
  clear hW
  obtain ⟨b0, b1, b2, b3, b4, b5, b6, b7, b8, b9⟩ := cx_cells HKB.out
  have hlt := HKB.out.lt
  have hlt1 : w.heap.size < W.heap.size + 1 := by omega
  have hn1 := Nat.ne_of_lt hlt
  have hn2 := Nat.ne_of_gt hlt
  go_region_held3 (fun w' => w'.cell? ⟨w.heap.size, 0, none⟩ = some (.int .u16 c.v) ∧ w'.cell? ⟨w.heap.size, 1, none⟩ = some (.int .u16 c.lo) ∧ w'.cell? ⟨w.heap.size, 2, none⟩ = some (.int .u16 c.op) ∧ w'.cell? ⟨w.heap.size, 3, none⟩ = some (.int .u16 c.oo) ∧ w'.cell? ⟨w.heap.size, 4, none⟩ = some (.int .u16 c.hi) ∧ w'.cell? ⟨w.heap.size, 5, none⟩ = some (.int .u8 c.a0) ∧ w'.cell? ⟨w.heap.size, 6, none⟩ = some (.int .u8 c.a1) ∧ w'.cell? ⟨w.heap.size, 7, none⟩ = some (.int .u32 c.su) ∧ w'.cell? ⟨w.heap.size, 8, none⟩ = some (.int .u32 c.tu) ∧ w'.cell? ⟨w.heap.size, 9, none⟩ = some (.bool c.cp)) (first | exact cx_cells HKB.out | exact cx_cells HKB.out.drew | exact cx_cells (HKB.out.alloc _) | exact cx_cells (HKB.out.alloc _).drew | go_keep)
    (first
      | (go_at_call 23; refine (HI.out _).mono ?_; rintro e w1 ⟨v, rfl, hov, hb⟩; obtain ⟨q1, d1, rfl, hin⟩ := bin_own hov; have HL1 := Lib.hid hov.1; have HA := Lib.hid hin; (try (have HC := Lib.hid (bin_below HC.out hb))); clear hov hin; obtain ⟨hcl1, hfz1⟩ := bcell hb; have HB1 := Lib.hid hb; have hsz1 := hb.size; (try simp only [World.size_drew] at hcl1 hfz1 hsz1); (try simp only [World.size_alloc] at hcl1 hfz1 hsz1); have hs1 : w.heap.size < w1.heap.size := (by omega); have ht1 : w.heap.size < w1.heap.size + 1 := (by omega); have hn1 := Nat.ne_of_lt hs1; have hm1 := Nat.ne_of_gt hs1; have HKB := Lib.hid (show Blk w1 w.heap.size 35 #[.int .u16 c.v, .int .u16 c.lo, .int .u16 c.op, .int .u16 c.oo, .int .u16 c.hi, .int .u8 c.a0, .int .u8 c.a1, .int .u32 c.su, .int .u32 c.tu, .bool c.cp] from (by first | exact HKB.out.old hb | exact HKB.out.drew.old hb | exact (HKB.out.alloc _).old hb | exact (HKB.out.alloc _).drew.old hb)); clear hb)
      | (go_at_call 24; refine (HS.out _).mono ?_; rintro e w2 ⟨v, rfl, hov, hb⟩; obtain ⟨q2, d2, rfl, hin⟩ := bin_own hov; have HL2 := Lib.hid hov.1; have HC := Lib.hid hin; (try (have HA := Lib.hid (bin_below HA.out hb))); clear hov hin; obtain ⟨hcl2, hfz2⟩ := bcell hb; have HB2 := Lib.hid hb; have hsz2 := hb.size; (try simp only [World.size_drew] at hcl2 hfz2 hsz2); (try simp only [World.size_alloc] at hcl2 hfz2 hsz2); have hs2 : w.heap.size < w2.heap.size := (by omega); have ht2 : w.heap.size < w2.heap.size + 1 := (by omega); have hn2 := Nat.ne_of_lt hs2; have hm2 := Nat.ne_of_gt hs2; have HKB := Lib.hid (show Blk w2 w.heap.size 35 #[.int .u16 c.v, .int .u16 c.lo, .int .u16 c.op, .int .u16 c.oo, .int .u16 c.hi, .int .u8 c.a0, .int .u8 c.a1, .int .u32 c.su, .int .u32 c.tu, .bool c.cp] from (by first | exact HKB.out.old hb | exact HKB.out.drew.old hb | exact (HKB.out.alloc _).old hb | exact (HKB.out.alloc _).drew.old hb)); clear hb)
      | (go_at_call 19; refine (bytes_equal_same _ _ _ _ _ _ ys (by simpa using HL1.out) HA.out HC.out).mono ?_; rintro e w6 ⟨rfl, rfl⟩)
      | (go_at_call 12; refine (packetAwake_any _).mono ?_; rintro e w9 ⟨rfl, hb⟩; obtain ⟨hcl9, hfz9⟩ := bcell hb; have HB9 := Lib.hid hb; have hsz9 := hb.size; (try simp only [World.size_drew] at hcl9 hfz9 hsz9); (try simp only [World.size_alloc] at hcl9 hfz9 hsz9); have hs9 : w.heap.size < w9.heap.size := (by omega); have ht9 : w.heap.size < w9.heap.size + 1 := (by omega); have hn9 := Nat.ne_of_lt hs9; have hm9 := Nat.ne_of_gt hs9; have HKB := Lib.hid (show Blk w9 w.heap.size 35 #[.int .u16 c.v, .int .u16 c.lo, .int .u16 c.op, .int .u16 c.oo, .int .u16 c.hi, .int .u8 c.a0, .int .u8 c.a1, .int .u32 c.su, .int .u32 c.tu, .bool c.cp] from (by first | exact HKB.out.old hb | exact HKB.out.drew.old hb | exact (HKB.out.alloc _).old hb | exact (HKB.out.alloc _).drew.old hb)); clear hb))
  all_goals
    clear hcl1 hfz1 hcl2 hfz2 hcl9 hfz9
    go_wp2_with fail
    go_ret
    refine ⟨rfl, ?_⟩
    have hk : Kp W w9 := by
      repeat (first | with_reducible exact Kp.refl _ | with_reducible apply Kp.drew | with_reducible apply Kp.alloc | with_reducible refine Kp.call ?_ HB9.out | with_reducible refine Kp.call ?_ HB2.out | with_reducible refine Kp.call ?_ HB1.out)
    exact HW0.out.trans (hk.below.mono HW0.out.size)

theorem fnPacketConnect_any (c : Cx) (s : ByteArray) (w : World) (ok : c.Ok) :
    Calls Tryd.prog 7 #[c.val, .string s] w fun e w' => e = .returned (.bool true) ∧ Below w.heap.size w w' := by
  by_cases hm : s.size ≤ 2000
  · exact fnPacketConnect_few c s w ok hm
  by_cases hn : s.size ≤ 2147483647
  · have i0 : ((s.size : Nat) : Int) ≤ 2147483647 := by omega
    have i1 : (2000 : Int) < ((s.size : Nat) : Int) := by omega
    clear ok
    unfold Cx.val
    go_enter Tryd.func7, Tryd.ntmps7
    go_wp2_with fail
    refine (packetAwake_any _).mono ?_
    rintro e w3 ⟨rfl, hb⟩
    have HB3 := Lib.hid (((Below.refl _ w).alloc (Nat.le_refl _) _).trans (hb.mono (by simp)))
    clear hb
    go_wp2_with fail
    go_ret
    exact ⟨rfl, HB3.out⟩
  · have i0 : (2147483647 : Int) < ((s.size : Nat) : Int) := by omega
    clear ok
    unfold Cx.val
    go_enter Tryd.func7, Tryd.ntmps7
    go_wp2_with fail
    go_ret
    exact ⟨rfl, (Below.refl _ w).alloc (Nat.le_refl _) _⟩
end Go.Proofs.YtaohgebiedkdaaaDoor
