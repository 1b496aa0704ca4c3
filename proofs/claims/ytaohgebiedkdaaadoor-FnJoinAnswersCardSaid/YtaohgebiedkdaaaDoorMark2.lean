/-
  What the thin package reads of packets MARKER, and of packets that are no packets of data.
-/
import Derived.Test.YtaohgebiedkdaaaDoorMark
namespace Go.Proofs.YtaohgebiedkdaaaDoor
open Go Go.RowKit

def MarkReadN (ok : Bool) (len x4 x5 k : Int) (cx : Nat) (w : World) (e : Ending) (w' : World) : Prop :=
  if ok then ∃ g, e = .returned (.tuple #[.pointer (some ⟨g, 0, none⟩), .int .u8 k]) ∧ Blk w' g 107 #[.int .u16 0, .int .u32 len, .int .u8 x4, .int .u8 x5, .pointer (some ⟨cx, 0, none⟩), .int .u8 k] ∧ Below w.heap.size w w'
  else e = .returned (.tuple #[.pointer none, .int .u8 0]) ∧ Below w.heap.size w w'

set_option maxHeartbeats 1000000 in
theorem markerRead_net (ok : Bool) (p : Option Addr) (n c cx : Nat) (len x4 x5 k : Int) (w : World)
    (C : Calls Tryd.prog 71 #[.slice p n c, .pointer (some ⟨cx, 0, none⟩)] w (MarkRead ok len x4 x5 k cx w)) :
    Calls Tryd.prog 54 #[.pointer (some ⟨cx, 0, none⟩), .slice p n c] w (MarkReadN ok len x4 x5 k cx w) := by
  cases ok
  · have C' := Lib.hid C
    clear C
    go_enter Tryd.func54, Tryd.ntmps54
    go_wp2_with fail
    refine C'.out.mono ?_
    rintro e w1 ⟨rfl, hb⟩
    have HB := Lib.hid hb
    clear hb C'
    go_wp2_with fail
    go_ret2
    exact ⟨rfl, HB.out⟩
  · have C' := Lib.hid C
    clear C
    go_enter Tryd.func54, Tryd.ntmps54
    go_wp2_with fail
    refine C'.out.mono ?_
    rintro e w1 ⟨g, rfl, hk, hb⟩
    have d5 : w1.cell? ⟨g, 5, none⟩ = some (.int .u8 k) := hk.cell 5
    have HK := Lib.hid hk
    have HB := Lib.hid hb
    clear hk hb C'
    go_wp2_with fail
    go_quiet (fail)
    go_wp2
    exact bodyPost_ret (v := .tuple #[.pointer (some ⟨g, 0, none⟩), .int .u8 k]) (by simp [results, Tryd.results54, go_sem]) rfl ⟨g, rfl, HK.out.drewN _, below_drewN HB.out _⟩

def MarkReadV (ok : Bool) (len x4 x5 k : Int) (w : World) (e : Ending) (w' : World) : Prop :=
  if ok then e = .returned (.tuple #[.agg #[.int .u32 len, .int .u8 x4, .int .u8 x5, .int .u16 0], .int .u8 k, .bool true]) ∧ Below w.heap.size w w'
  else e = .returned (.tuple #[.agg #[.int .u32 0, .int .u8 0, .int .u8 0, .int .u16 0], .int .u8 0, .bool false]) ∧ Below w.heap.size w w'

set_option maxRecDepth 100000 in
set_option maxHeartbeats 2000000 in
theorem markerRead_any (ok : Bool) (c : Cx) (p : Option Addr) (n k : Nat) (xs : List Int) (len x4 x5 kd : Int) (w : World) (hi : Lib.BytesIn w p n xs) (hx : xs.length = n) (hm : n ≤ 100000)
    (C0 : ∀ (q : Option Addr) (d cx : Nat) (w1 : World), w1.cell? ⟨cx, 2, none⟩ = some (.int .u16 c.v) → w1.cell? ⟨cx, 9, none⟩ = some (.bool c.cp) → Lib.BytesIn w1 q n xs →
      Calls Tryd.prog 71 #[.slice q n d, .pointer (some ⟨cx, 0, none⟩)] w1 (MarkRead ok len x4 x5 kd cx w1)) :
    Calls Tryd.prog 35 #[c.val, .slice p n k] w (MarkReadV ok len x4 x5 kd w) := by
  have HI := Lib.hid hi
  have HX := Lib.hid hx
  have C := Lib.hid (fun q d cx w1 k2 k9 h => markerRead_net ok q n d cx len x4 x5 kd w1 (C0 q d cx w1 k2 k9 h))
  clear hi hx C0
  unfold Cx.val
  go_enter Tryd.func35, Tryd.ntmps35
  go_wp2_with fail
  refine (contextOf_any c _).mono ?_
  rintro e w1 ⟨cx, rfl, hk, hb⟩
  have HZ := Lib.hid ((Blk.new2 w (.cells #[.int .u16 c.v, .int .u16 c.lo, .int .u16 c.op, .int .u16 c.oo, .int .u16 c.hi, .int .u8 c.a0, .int .u8 c.a1, .int .u32 c.su, .int .u32 c.tu, .bool c.cp] 35) 27 #[.int .u32 0, .int .u8 0, .int .u8 0, .int .u16 0]).old hb)
  have HK := Lib.hid hk
  have HB := Lib.hid ((((Below.refl w.heap.size w).alloc (Nat.le_refl _) _).alloc (by simp) _).trans (hb.mono (by simp; omega)))
  clear hk hb
  go_wp2_with fail
  refine (clone_any _ _ _ _ _ (bin_below HI.out HB.out) HX.out (by omega)).mono ?_
  rintro e w2 ⟨q, d, rfl, hown, hb⟩
  have HQ2 := Lib.hid (bin_of_own hown)
  have HK2 := Lib.hid (HK.out.old hb)
  have HZ2 := Lib.hid (HZ.out.old hb)
  have HB2 := Lib.hid (HB.out.trans (hb.mono HB.out.size))
  clear hown hb HK HB HZ
  go_wp2_with fail
  refine (C.out q d cx _ (ctx_c2 HK2.out) (ctx_c9 HK2.out) HQ2.out).mono ?_
  cases ok
  · rintro e w3 ⟨rfl, hb⟩
    have hz := HZ2.out.old hb
    have hlt := hz.lt
    obtain ⟨s0, s1, s2, s3, f0, f1, f2, f3⟩ := zero_head hz
    have HB3 := Lib.hid (HB2.out.trans (hb.mono HB2.out.size))
    clear hb hz HK2 HZ2 HB2 C HQ2
    go_wp2_with fail
    refine bodyPost_ret (v := .tuple #[.agg #[.int .u32 0, .int .u8 0, .int .u8 0, .int .u16 0], .int .u8 0, .bool false]) (by simp [results, Tryd.results35, go_sem, s0, s1, s2, s3]) rfl ⟨rfl, ?_⟩
    exact (((HB3.out.setCell (Nat.le_succ _) _).setCell (Nat.le_succ _) _).setCell (Nat.le_succ _) _).setCell (Nat.le_succ _) _
  · rintro e w3 ⟨g, rfl, hk, hb⟩
    have HK3 := Lib.hid hk
    have HZ3 := Lib.hid (HZ2.out.old hb)
    have HB3 := Lib.hid (HB2.out.trans (hb.mono HB2.out.size))
    clear hk hb HK2 HZ2 HB2 C HQ2
    go_wp2_with fail
    refine (headOf_any g _ _ _ _ w3 (HK3.out.cell 0) (HK3.out.cell 1) (HK3.out.cell 2) (HK3.out.cell 3)).mono ?_
    rintro e w4 ⟨rfl, hb⟩
    have hz := HZ3.out.old hb
    have hlt := hz.lt
    obtain ⟨s0, s1, s2, s3, f0, f1, f2, f3⟩ := zero_head hz
    have HB4 := Lib.hid (HB3.out.trans (hb.mono HB3.out.size))
    clear hb hz HK3 HZ3 HB3
    unfold headV
    go_wp2_with fail
    refine bodyPost_ret (v := .tuple #[.agg #[.int .u32 len, .int .u8 x4, .int .u8 x5, .int .u16 0], .int .u8 kd, .bool true]) (by simp [results, Tryd.results35, go_sem, s0, s1, s2, s3]) rfl ⟨rfl, ?_⟩
    exact (((HB4.out.setCell (Nat.le_succ _) _).setCell (Nat.le_succ _) _).setCell (Nat.le_succ _) _).setCell (Nat.le_succ _) _

theorem markerRead_len (c : Cx) (p : Option Addr) (n k : Nat) (xs : List Int) (w : World) (hi : Lib.BytesIn w p n xs) (hx : xs.length = n) (hm : n ≤ 100000) (hn : n ≠ 11) :
    Calls Tryd.prog 35 #[c.val, .slice p n k] w (MarkReadV false 0 0 0 0 w) :=
  markerRead_any false c p n k xs 0 0 0 0 w hi hx hm fun q d cx w1 _ _ _ => (newMarkerFrom_len q n d cx w1 hn).mono (by rintro e w' ⟨rfl, rfl⟩; exact ⟨rfl, Below.refl _ _⟩)

theorem markerRead_eleven (c : Cx) (p : Option Addr) (k : Nat) (xs : List Int) (w : World) (hi : Lib.BytesIn w p 11 xs) (hx : xs.length = 11) (hr : ∀ x ∈ xs, 0 ≤ x ∧ x < 256) :
    Calls Tryd.prog 35 #[c.val, .slice p 11 k] w (MarkReadV (decide (xs.getD 4 0 = 12)) (if c.long then g32 xs 0 else g16 xs 0) (xs.getD 4 0) (xs.getD 5 0) (xs.getD 10 0) w) :=
  markerRead_any _ c p 11 k xs _ _ _ _ w hi hx (by decide) fun q d cx w1 k2 k9 h => by
    obtain ⟨b, o, rfl, hc⟩ := h (by decide)
    exact newMarkerFrom_any c.long b o d cx xs c.v c.cp w1 rfl k2 k9 hc hr

theorem markL_byte (long : Bool) (k : Int) (h : 0 ≤ k ∧ k < 256) : ∀ x ∈ markL long k, 0 ≤ x ∧ x < 256 := by
  intro x hx
  cases long <;> simp [markL] at hx <;> omega
theorem markerRead_own (c : Cx) (p : Option Addr) (k : Nat) (long : Bool) (kd : Int) (w : World) (hi : Lib.BytesIn w p 11 (markL long kd)) (h : 0 ≤ kd ∧ kd < 256) :
    ∃ len, Calls Tryd.prog 35 #[c.val, .slice p 11 k] w (MarkReadV true len 12 0 kd w) := by
  have := markerRead_eleven c p k (markL long kd) w hi (by cases long <;> rfl) (markL_byte long kd h)
  cases long <;> exact ⟨_, this⟩

/-- A packet of another type is no packet of data. -/
def NoData (w : World) (e : Ending) (w' : World) : Prop := ∃ q, e = .returned (.tuple #[.pointer none, .iface 140 (.pointer (some q))]) ∧ Below w.heap.size w w'

set_option maxHeartbeats 1000000 in
theorem newDataFrom_other (b o n c cx : Nat) (t : Int) (w : World) (hn : 10 ≤ n) (c4 : w.cell? ⟨b, o + 4, none⟩ = some (.int .u8 t)) (ht : t ≠ 6) :
    Calls Tryd.prog 61 #[.slice (some ⟨b, o, none⟩) n c, .pointer (some ⟨cx, 0, none⟩)] w (NoData w) := by
  have i0 : (10 : Int) ≤ ((n : Nat) : Int) := by omega
  have i4 : (4 : Int) < ((n : Nat) : Int) := by omega
  have g1 : decide (((n : Nat) : Int) < 10) = false := by simp; omega
  have g2 : (t != 6) = true := by simpa using ht
  go_enter Tryd.func61, Tryd.ntmps61
  go_wp2
  go_ret2
  exact ⟨_, rfl, (Below.refl _ _).alloc (Nat.le_refl _) _⟩

def NoRead (w : World) (e : Ending) (w' : World) : Prop := e = .returned (.tuple #[.agg #[.int .u32 0, .int .u8 0, .int .u8 0, .int .u16 0], .int .u16 0, .slice none 0 0, .bool false]) ∧ Below w.heap.size w w'
def NoReadN (w : World) (e : Ending) (w' : World) : Prop := ∃ q, e = .returned (.tuple #[.pointer none, .int .u16 0, .slice none 0 0, .iface 140 (.pointer (some q))]) ∧ Below w.heap.size w w'

theorem dataRead_net_other (b o n c cx : Nat) (t : Int) (w : World) (hn : 10 ≤ n) (c4 : w.cell? ⟨b, o + 4, none⟩ = some (.int .u8 t)) (ht : t ≠ 6) :
    Calls Tryd.prog 41 #[.pointer (some ⟨cx, 0, none⟩), .slice (some ⟨b, o, none⟩) n c] w (NoReadN w) := by
  have C := Lib.hid (newDataFrom_other b o n c cx t w hn c4 ht)
  clear hn c4 ht
  go_enter Tryd.func41, Tryd.ntmps41
  go_wp2_with fail
  refine C.out.mono ?_
  rintro e w1 ⟨q, rfl, hb⟩
  have HB := Lib.hid hb
  clear hb C
  go_wp2_with fail
  exact bodyPost_ret (v := .tuple #[.pointer none, .int .u16 0, .slice none 0 0, .iface 140 (.pointer (some q))]) (by simp [results, Tryd.results41, go_sem]) rfl ⟨q, rfl, HB.out⟩

set_option maxRecDepth 100000 in
set_option maxHeartbeats 2000000 in
theorem dataRead_other (c : Cx) (p : Option Addr) (n k : Nat) (xs : List Int) (w : World) (hi : Lib.BytesIn w p n xs) (hx : xs.length = n) (hn : 10 ≤ n) (hm : n ≤ 100000) (h6 : xs.getD 4 0 ≠ 6) :
    Calls Tryd.prog 18 #[c.val, .slice p n k] w (NoRead w) := by
  have HI := Lib.hid hi
  have HX := Lib.hid hx
  have C := Lib.hid (fun b o d cx w1 h4 => dataRead_net_other b o n d cx (xs.getD 4 0) w1 hn h4 h6)
  generalize hx4 : xs.getD 4 0 = x4 at *
  have HX4 := Lib.hid hx4
  clear hi hx h6 hx4
  unfold Cx.val
  go_enter Tryd.func18, Tryd.ntmps18
  go_wp2_with fail
  refine (contextOf_any c _).mono ?_
  rintro e w1 ⟨cx, rfl, hk, hb⟩
  have HZ := Lib.hid ((Blk.new2 w (.cells #[.int .u16 c.v, .int .u16 c.lo, .int .u16 c.op, .int .u16 c.oo, .int .u16 c.hi, .int .u8 c.a0, .int .u8 c.a1, .int .u32 c.su, .int .u32 c.tu, .bool c.cp] 35) 27 #[.int .u32 0, .int .u8 0, .int .u8 0, .int .u16 0]).old hb)
  have HB := Lib.hid ((((Below.refl w.heap.size w).alloc (Nat.le_refl _) _).alloc (by simp) _).trans (hb.mono (by simp; omega)))
  clear hk hb
  go_wp2_with fail
  refine (clone_any _ _ _ _ _ (bin_below HI.out HB.out) HX.out (by omega)).mono ?_
  rintro e w2 ⟨q, d, rfl, hown, hb⟩
  obtain ⟨b, o, rfl, hcell⟩ := bin_of_own hown (by omega)
  have HC := Lib.hid (show w2.cell? ⟨b, o + 4, none⟩ = some (.int .u8 x4) by rw [← HX4.out]; exact hcell 4 (by omega))
  have HZ2 := Lib.hid (HZ.out.old hb)
  have HB2 := Lib.hid (HB.out.trans (hb.mono HB.out.size))
  clear hown hb hcell HB HZ
  go_wp2_with fail
  refine (C.out b o d cx _ HC.out).mono ?_
  rintro e w3 ⟨q, rfl, hb⟩
  have hz := HZ2.out.old hb
  have hlt := hz.lt
  obtain ⟨s0, s1, s2, s3, f0, f1, f2, f3⟩ := zero_head hz
  have HB3 := Lib.hid (HB2.out.trans (hb.mono HB2.out.size))
  clear hb hz HZ2 HB2 C HC
  go_wp2_with fail
  refine bodyPost_ret (v := .tuple #[.agg #[.int .u32 0, .int .u8 0, .int .u8 0, .int .u16 0], .int .u16 0, .slice none 0 0, .bool false]) (by simp [results, Tryd.results18, go_sem, s0, s1, s2, s3]) rfl ⟨rfl, ?_⟩
  exact (((HB3.out.setCell (Nat.le_succ _) _).setCell (Nat.le_succ _) _).setCell (Nat.le_succ _) _).setCell (Nat.le_succ _) _
end Go.Proofs.YtaohgebiedkdaaaDoor
