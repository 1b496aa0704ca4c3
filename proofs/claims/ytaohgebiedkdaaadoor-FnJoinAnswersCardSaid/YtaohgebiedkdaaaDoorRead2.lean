/-
  What DataRead tells of a packet of data.
-/
import Derived.Test.YtaohgebiedkdaaaDoorRead
namespace Go.Proofs.YtaohgebiedkdaaaDoor
open Go Go.RowKit

theorem own_cap {w : World} {base : Nat} {e : TypeId} {q : Option Addr} {n d : Nat} {xs : List Value} (h : w.ownsRow base e 1 (.slice q n d) n xs) : n ≤ d := by
  rcases h.2 with ⟨h, h0⟩ | ⟨_, _, _, h, _, _, hle, _⟩
  · omega
  · injection h; omega

def DReadV (len x5 y8 : Int) (n c b o cx : Nat) (w : World) (e : Ending) (w' : World) : Prop := ∃ g q, e = .returned (.tuple #[.pointer (some ⟨g, 0, none⟩), .int .u16 y8, .slice q (n - 10) (c - 10), .nilIface]) ∧
  Blk w' g 88 #[.int .u16 10, .int .u32 len, .int .u8 6, .int .u8 x5, .pointer (some ⟨cx, 0, none⟩), .int .u16 y8, .slice q (n - 10) (c - 10)] ∧ (10 < n → q = some ⟨b, o + 10, none⟩) ∧ Below w.heap.size w w'

set_option maxRecDepth 100000 in
set_option maxHeartbeats 2000000 in
theorem dataRead_net (long : Bool) (b o n c cx : Nat) (xs : List Int) (ver : Int) (cp : Bool) (w : World) (hlong : long = (cp && decide (315 ≤ ver)))
    (k2 : w.cell? ⟨cx, 2, none⟩ = some (.int .u16 ver)) (k9 : w.cell? ⟨cx, 9, none⟩ = some (.bool cp)) (hc : ∀ i, i < n → w.cell? ⟨b, o + i, none⟩ = some (.int .u8 (xs.getD i 0)))
    (hr : ∀ x ∈ xs, 0 ≤ x ∧ x < 256) (hn : 10 ≤ n) (hnc : n ≤ c) (h6 : xs.getD 4 0 = 6) :
    Calls Tryd.prog 41 #[.pointer (some ⟨cx, 0, none⟩), .slice (some ⟨b, o, none⟩) n c] w (DReadV (if long then g32 xs 0 else g16 xs 0) (xs.getD 5 0) (g16 xs 8) n c b o cx w) := by
  have C := Lib.hid (newDataFrom_ok long b o n c cx xs ver cp w hlong k2 k9 hc hr hn hnc h6)
  clear hlong k2 k9 hc hr h6
  unfold ReadPost at C
  generalize (if long then g32 xs 0 else g16 xs 0) = len at *
  generalize g16 xs 8 = y8 at *
  generalize xs.getD 5 0 = x5 at *
  go_enter Tryd.func41, Tryd.ntmps41
  go_wp2_with fail
  refine C.out.mono ?_
  rintro e w1 ⟨g, q, rfl, hk, hq, hb⟩
  have d5 : w1.cell? ⟨g, 5, none⟩ = some (.int .u16 y8) := hk.cell 5
  have d6 : w1.cell? ⟨g, 6, none⟩ = some (.slice q (n - 10) (c - 10)) := hk.cell 6
  have HK := Lib.hid hk
  have HQ := Lib.hid hq
  have HB := Lib.hid hb
  clear hk hq hb C
  go_wp2_with fail
  go_quiet (fail)
  go_wp2
  exact bodyPost_ret (v := .tuple #[.pointer (some ⟨g, 0, none⟩), .int .u16 y8, .slice q (n - 10) (c - 10), .nilIface]) (by simp [results, Tryd.results41, go_sem]) rfl ⟨g, q, rfl, HK.out.drewN _, HQ.out, below_drewN HB.out _⟩

/-- What DataRead returns. -/
def DataReadPost (len x5 y8 : Int) (n : Nat) (ys : List Int) (w : World) (e : Ending) (w' : World) : Prop := ∃ q d, e = .returned (.tuple #[headV len 6 x5 10, .int .u16 y8, .slice q (n - 10) d, .bool true]) ∧
  w'.ownsRow w.heap.size 5 1 (.slice q (n - 10) d) (n - 10) (ys.map (Value.int .u8)) ∧ Below w.heap.size w w'

set_option maxRecDepth 100000 in
set_option maxHeartbeats 2000000 in
theorem dataRead_ok (c : Cx) (p : Option Addr) (n k : Nat) (xs : List Int) (w : World) (hi : Lib.BytesIn w p n xs) (hx : xs.length = n) (hr : ∀ x ∈ xs, 0 ≤ x ∧ x < 256) (hn : 10 ≤ n) (hm : n ≤ 100000) (h6 : xs.getD 4 0 = 6) :
    Calls Tryd.prog 18 #[c.val, .slice p n k] w (DataReadPost (if c.long then g32 xs 0 else g16 xs 0) (xs.getD 5 0) (g16 xs 8) n (xs.drop 10) w) := by
  have HI := Lib.hid hi
  have HX := Lib.hid hx
  have C := Lib.hid (fun b o d cx w1 k2 k9 hc hd => dataRead_net c.long b o n d cx xs c.v c.cp w1 rfl k2 k9 hc hr hn hd h6)
  have HD := Lib.hid (show (xs.drop 10).length = n - 10 by simp; omega)
  have HE := Lib.hid (show ∀ i, (xs.drop 10).getD i 0 = xs.getD (10 + i) 0 from fun i => by simp [List.getD])
  generalize (if c.long then g32 xs 0 else g16 xs 0) = len at *
  generalize g16 xs 8 = y8 at *
  generalize hx5 : xs.getD 5 0 = x5 at *
  clear hi hx hr hx5 h6
  unfold Cx.val
  go_enter Tryd.func18, Tryd.ntmps18
  go_wp2_with fail
  refine (contextOf_any c _).mono ?_
  rintro e w1 ⟨cx, rfl, hk, hb⟩
  have HZ := Lib.hid ((Blk.new2 w (.cells #[.int .u16 c.v, .int .u16 c.lo, .int .u16 c.op, .int .u16 c.oo, .int .u16 c.hi, .int .u8 c.a0, .int .u8 c.a1, .int .u32 c.su, .int .u32 c.tu, .bool c.cp] 35) 27 #[.int .u32 0, .int .u8 0, .int .u8 0, .int .u16 0]).old hb)
  have HK := Lib.hid hk
  have HB := Lib.hid ((((Below.refl w.heap.size w).alloc (Nat.le_refl _) _).alloc (by simp) _).trans (hb.mono (by simp; omega)))
  clear hk hb
  go_wp2_with fail
  refine (clone_any _ _ _ _ _ (bin_below HI.out HB.out) HX.out (by omega)).mono ?_
  rintro e w2 ⟨q, d, rfl, hown, hb⟩
  have hnd := own_cap hown
  have hin := bin_of_own hown
  obtain ⟨b, o, rfl, hcell⟩ := hin (by omega)
  have HC := Lib.hid hcell
  have HK2 := Lib.hid (HK.out.old hb)
  have HZ2 := Lib.hid (HZ.out.old hb)
  have HB2 := Lib.hid (HB.out.trans (hb.mono HB.out.size))
  clear hown hb hin hcell HK HB HZ
  go_wp2_with fail
  refine (C.out b o d cx _ (ctx_c2 HK2.out) (ctx_c9 HK2.out) HC.out hnd).mono ?_
  rintro e w3 ⟨g, q, rfl, hk, hq, hb⟩
  have hcb : ∀ i, i < n → w3.cell? ⟨b, o + i, none⟩ = some (.int .u8 (xs.getD i 0)) := fun i hi => (hb.cell (p := ⟨b, o + i, none⟩) (heap_lt_of_cell (HC.out i hi))).trans (HC.out i hi)
  have HQ := Lib.hid (show Lib.BytesIn w3 q (n - 10) (xs.drop 10) from fun h0 => by
    rw [hq (by omega)]
    exact ⟨b, o + 10, rfl, fun i hi => by rw [HE.out i, Nat.add_assoc]; exact hcb (10 + i) (by omega)⟩)
  have HK3 := Lib.hid hk
  have HZ3 := Lib.hid (HZ2.out.old hb)
  have HB3 := Lib.hid (HB2.out.trans (hb.mono HB2.out.size))
  clear hk hq hb hcb HK2 HZ2 HB2 HC C
  go_wp2_with fail
  refine (headOf_any g _ _ _ _ w3 (HK3.out.cell 0) (HK3.out.cell 1) (HK3.out.cell 2) (HK3.out.cell 3)).mono ?_
  rintro e w4 ⟨rfl, hb⟩
  have HQ4 := Lib.hid (bin_below HQ.out hb)
  have HZ4 := Lib.hid (HZ3.out.old hb)
  have HB4 := Lib.hid (HB3.out.trans (hb.mono HB3.out.size))
  clear hb HK3 HZ3 HB3 HQ
  unfold headV
  go_wp2_with fail
  refine (clone_any _ _ _ _ _ HQ4.out HD.out (by omega)).mono ?_
  rintro e w5 ⟨q5, d5, rfl, hown, hb⟩
  have hz := HZ4.out.old hb
  have hlt := hz.lt
  obtain ⟨s0, s1, s2, s3, f0, f1, f2, f3⟩ := zero_head hz
  have HB5 := Lib.hid (HB4.out.trans (hb.mono HB4.out.size))
  have hlt4 := HZ4.out.lt
  have HO := Lib.hid hown
  clear hb hz HZ4 HB4 hown HQ4
  go_wp2_with fail
  refine bodyPost_ret (v := .tuple #[.agg #[.int .u32 len, .int .u8 6, .int .u8 x5, .int .u16 10], .int .u16 y8, .slice q5 (n - 10) d5, .bool true]) (by simp [results, Tryd.results18, go_sem, s0, s1, s2, s3]) rfl ⟨q5, d5, rfl, ?_, (((HB5.out.setCell (Nat.le_succ _) _).setCell (Nat.le_succ _) _).setCell (Nat.le_succ _) _).setCell (Nat.le_succ _) _⟩
  exact own_base (ownsRow_setCell_below (ownsRow_setCell_below (ownsRow_setCell_below (ownsRow_setCell_below HO.out hlt4 _) hlt4 _) hlt4 _) hlt4 _) (by omega)
end Go.Proofs.YtaohgebiedkdaaaDoor
