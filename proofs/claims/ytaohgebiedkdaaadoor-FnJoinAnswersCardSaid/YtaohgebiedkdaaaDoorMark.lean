/-
  Packets MARKER: their bytes, and how they are read.
-/
import Derived.Test.YtaohgebiedkdaaaDoorRead2
import Derived.Deep.DeepCutAuto
namespace Go.Proofs.YtaohgebiedkdaaaDoor
open Go Go.RowKit

def markL (long : Bool) (k : Int) : List Int := if long then [0, 0, 0, 11, 12, 0, 0, 0, 1, 0, k] else [0, 11, 0, 0, 12, 0, 0, 0, 1, 0, k]
def MarkBytes (long : Bool) (k : Int) (w : World) (e : Ending) (w' : World) : Prop := ∃ g, e = .returned (.slice (some ⟨g, 0, none⟩) 11 11) ∧
  w'.ownsRow w.heap.size 5 1 (.slice (some ⟨g, 0, none⟩) 11 11) 11 ((markL long k).map (Value.int .u8)) ∧ Below w.heap.size w w'

set_option maxRecDepth 100000 in
set_option maxHeartbeats 2000000 in
theorem markerPacket_bytes (long : Bool) (pk cx : Nat) (k ver : Int) (cp : Bool) (w : World) (hlong : long = (cp && decide (315 ≤ ver)))
    (c4 : w.cell? ⟨pk, 4, none⟩ = some (.pointer (some ⟨cx, 0, none⟩))) (c5 : w.cell? ⟨pk, 5, none⟩ = some (.int .u8 k)) (k2 : w.cell? ⟨cx, 2, none⟩ = some (.int .u16 ver)) (k9 : w.cell? ⟨cx, 9, none⟩ = some (.bool cp)) :
    Calls Tryd.prog 70 #[.pointer (some ⟨pk, 0, none⟩)] w (MarkBytes long k w) := by
  cases cp
  · obtain rfl : long = false := by simpa using hlong
    clear hlong
    go_enter Tryd.func70, Tryd.ntmps70
    go_wp2
    go_ret
    exact ⟨_, rfl, by exact own_new w [0, 11, 0, 0, 12, 0, 0, 0, 1, 0, k] _ (by simp [maxLen]), (Below.refl _ _).alloc (Nat.le_refl _) _⟩
  · by_cases hv : 315 ≤ ver
    · obtain rfl : long = true := by simpa [hv] using hlong
      clear hlong
      go_enter Tryd.func70, Tryd.ntmps70
      go_wp2
      go_ret
      exact ⟨_, rfl, by exact own_new w [0, 0, 0, 11, 12, 0, 0, 0, 1, 0, k] _ (by simp [maxLen]), (Below.refl _ _).alloc (Nat.le_refl _) _⟩
    · obtain rfl : long = false := by simpa [hv] using hlong
      clear hlong
      go_enter Tryd.func70, Tryd.ntmps70
      go_wp2
      go_ret
      exact ⟨_, rfl, by exact own_new w [0, 11, 0, 0, 12, 0, 0, 0, 1, 0, k] _ (by simp [maxLen]), (Below.refl _ _).alloc (Nat.le_refl _) _⟩

theorem newMarker_any (cx : Nat) (k : Int) (w : World) :
    Calls Tryd.prog 69 #[.int .u8 k, .pointer (some ⟨cx, 0, none⟩)] w fun e w' => e = .returned (.pointer (some ⟨w.heap.size, 0, none⟩)) ∧
      w.alloc (.cells #[.int .u16 0, .int .u32 11, .int .u8 12, .int .u8 32, .pointer (some ⟨cx, 0, none⟩), .int .u8 k] 107) = w' := by
  go_enter Tryd.func69, Tryd.ntmps69
  go_wp2
  go_ret
  exact ⟨rfl, rfl⟩

set_option maxHeartbeats 1000000 in
theorem markerBytes_net (long : Bool) (cx : Nat) (k ver : Int) (cp : Bool) (w : World) (hlong : long = (cp && decide (315 ≤ ver))) (k2 : w.cell? ⟨cx, 2, none⟩ = some (.int .u16 ver)) (k9 : w.cell? ⟨cx, 9, none⟩ = some (.bool cp)) :
    Calls Tryd.prog 53 #[.pointer (some ⟨cx, 0, none⟩), .int .u8 k] w (MarkBytes long k w) := by
  have hcx : cx < w.heap.size := heap_lt_of_cell k2
  have C := Lib.hid (fun O => markerPacket_bytes long w.heap.size cx k ver cp (w.alloc O) hlong)
  have K2 := Lib.hid k2
  have K9 := Lib.hid k9
  clear hlong k2 k9
  go_enter Tryd.func53, Tryd.ntmps53
  go_wp2_with fail
  refine (newMarker_any cx k _).mono ?_
  rintro e w1 ⟨rfl, rfl⟩
  go_wp2_with fail
  have hbk := Blk.new w 107 #[.int .u16 0, .int .u32 11, .int .u8 12, .int .u8 32, .pointer (some ⟨cx, 0, none⟩), .int .u8 k]
  refine (C.out _ (hbk.cell 4) (hbk.cell 5) ((World.cell?_alloc_lt _ _ _ hcx).trans K2.out) ((World.cell?_alloc_lt _ _ _ hcx).trans K9.out)).mono ?_
  rintro e w2 ⟨g, rfl, hown, hb⟩
  have HO := Lib.hid hown
  have HB := Lib.hid (((Below.refl w.heap.size w).alloc (Nat.le_refl _) _).trans (hb.mono (by simp)))
  clear hown hb hbk
  go_wp2_with fail
  go_ret
  exact ⟨g, rfl, own_base HO.out (by simp), HB.out⟩

set_option maxHeartbeats 1000000 in
theorem markerBytes_any (c : Cx) (k : Int) (w : World) :
    Calls Tryd.prog 34 #[c.val, .int .u8 k] w (MarkBytes c.long k w) := by
  unfold Cx.val
  go_enter Tryd.func34, Tryd.ntmps34
  go_wp2_with fail
  refine (contextOf_any c _).mono ?_
  rintro e w1 ⟨cx, rfl, hk, hb⟩
  have HK := Lib.hid hk
  have HB := Lib.hid (((Below.refl w.heap.size w).alloc (Nat.le_refl _) _).trans (hb.mono (by simp)))
  clear hk hb
  go_wp2_with fail
  refine (markerBytes_net c.long _ _ c.v c.cp _ rfl (ctx_c2 HK.out) (ctx_c9 HK.out)).mono ?_
  rintro e w2 ⟨g, rfl, hown, hb⟩
  have HO := Lib.hid (own_base hown HB.out.size)
  have HB2 := Lib.hid (HB.out.trans (hb.mono HB.out.size))
  clear hown hb
  go_wp2_with fail
  go_ret
  exact ⟨g, rfl, HO.out, HB2.out⟩

/-- Other bytes than eleven are no marker. -/
theorem newMarkerFrom_len (p : Option Addr) (n c cx : Nat) (w : World) (hn : n ≠ 11) :
    Calls Tryd.prog 71 #[.slice p n c, .pointer (some ⟨cx, 0, none⟩)] w fun e w' => e = .returned (.pointer none) ∧ w = w' := by
  have hz : ¬ ((n : Nat) : Int) = 11 := by omega
  go_enter Tryd.func71, Tryd.ntmps71
  go_wp2_with fail
  go_ret
  exact ⟨rfl, rfl⟩

def MarkRead (ok : Bool) (len x4 x5 k : Int) (cx : Nat) (w : World) (e : Ending) (w' : World) : Prop :=
  if ok then ∃ g, e = .returned (.pointer (some ⟨g, 0, none⟩)) ∧ Blk w' g 107 #[.int .u16 0, .int .u32 len, .int .u8 x4, .int .u8 x5, .pointer (some ⟨cx, 0, none⟩), .int .u8 k] ∧ Below w.heap.size w w'
  else e = .returned (.pointer none) ∧ Below w.heap.size w w'

set_option maxRecDepth 100000 in
set_option maxHeartbeats 2000000 in
theorem newMarkerFrom_any (long : Bool) (b o c cx : Nat) (xs : List Int) (ver : Int) (cp : Bool) (w : World) (hlong : long = (cp && decide (315 ≤ ver)))
    (k2 : w.cell? ⟨cx, 2, none⟩ = some (.int .u16 ver)) (k9 : w.cell? ⟨cx, 9, none⟩ = some (.bool cp)) (hc : ∀ i, i < 11 → w.cell? ⟨b, o + i, none⟩ = some (.int .u8 (xs.getD i 0)))
    (hr : ∀ x ∈ xs, 0 ≤ x ∧ x < 256) :
    Calls Tryd.prog 71 #[.slice (some ⟨b, o, none⟩) 11 c, .pointer (some ⟨cx, 0, none⟩)] w (MarkRead (decide (xs.getD 4 0 = 12)) (if long then g32 xs 0 else g16 xs 0) (xs.getD 4 0) (xs.getD 5 0) (xs.getD 10 0) cx w) := by
  have c0 := hc 0 (by omega)
  have c1 := hc 1 (by omega)
  have c2 := hc 2 (by omega)
  have c3 := hc 3 (by omega)
  have c4 := hc 4 (by omega)
  have c5 := hc 5 (by omega)
  have c10 := hc 10 (by omega)
  rw [Nat.add_zero] at c0
  have hb : b < w.heap.size := heap_lt_of_cell c0
  have hcx : cx < w.heap.size := heap_lt_of_cell k2
  have r0 := Lib.hid (getD_byte hr 0)
  have r1 := Lib.hid (getD_byte hr 1)
  have r2 := Lib.hid (getD_byte hr 2)
  have r3 := Lib.hid (getD_byte hr 3)
  have e16 : g16 xs 0 = xs.getD 0 0 * 256 + xs.getD 1 0 := rfl
  have e32 : g32 xs 0 = ((xs.getD 0 0 * 256 + xs.getD 1 0) * 256 + xs.getD 2 0) * 256 + xs.getD 3 0 := rfl
  generalize g16 xs 0 = y16 at *
  generalize g32 xs 0 = y32 at *
  generalize xs.getD 0 0 = x0 at *
  generalize xs.getD 1 0 = x1 at *
  generalize xs.getD 2 0 = x2 at *
  generalize xs.getD 3 0 = x3 at *
  generalize xs.getD 4 0 = x4 at *
  generalize xs.getD 5 0 = x5 at *
  generalize xs.getD 10 0 = x10 at *
  have E16 := Lib.hid e16
  have E32 := Lib.hid e32
  have hwr : IntKind.u32.wrap (x0 * 256 + x1) = x0 * 256 + x1 := by rw [IntKind.wrap_u32]; have := r0.out; have := r1.out; omega
  have HWR := Lib.hid hwr
  obtain ⟨ok, hok⟩ : ∃ ok : Bool, ok = decide (x4 = 12) := ⟨_, rfl⟩
  rw [← hok]
  have HOK := Lib.hid hok
  clear hc hr e16 e32 hwr hok
  cases cp
  · obtain rfl : long = false := by simpa using hlong
    clear hlong
    go_enter Tryd.func71, Tryd.ntmps71
    go_wp2_with fail
    go_region_held3 (fun w' => w'.cell? ⟨b, o + 4, none⟩ = some (.int .u8 x4) ∧ w'.cell? ⟨b, o + 5, none⟩ = some (.int .u8 x5) ∧ w'.cell? ⟨b, o + 10, none⟩ = some (.int .u8 x10)) (go_keep) (fail)
    go_wp2_with fail
    have HB1 := Lib.hid (((Below.refl w.heap.size w).alloc (Nat.le_refl _) (.cells #[.int .u16 0, .int .u32 0, .int .u8 x4, .int .u8 x5, .pointer (some ⟨cx, 0, none⟩), .int .u8 x10] 107)).drew)
    have HK1 := Lib.hid ((Blk.new w 107 #[.int .u16 0, .int .u32 0, .int .u8 x4, .int .u8 x5, .pointer (some ⟨cx, 0, none⟩), .int .u8 x10]).drew)
    refine (get16 b o 11 c x0 x1 _ (by omega) ((HB1.out.cell (p := ⟨b, o, none⟩) hb).trans c0) ((HB1.out.cell (p := ⟨b, o + 1, none⟩) hb).trans c1) r0.out r1.out).mono ?_
    rintro e w2 ⟨rfl, hb2⟩
    have HK2 := Lib.hid (HK1.out.old hb2)
    have s1 : w2.cell? ⟨w.heap.size, 1, none⟩ = some (.int .u32 0) := HK2.out.cell 1
    have s2 : w2.cell? ⟨w.heap.size, 2, none⟩ = some (.int .u8 x4) := HK2.out.cell 2
    have f1 := HK2.out.frozen 1
    have HB2 := Lib.hid (HB1.out.trans (hb2.mono HB1.out.size))
    clear hb2 HB1 HK1 c0 c1 c2 c3 c4 c5 c10 k2 k9
    have hwr := HWR.out
    go_wp2_with fail
    all_goals go_ret
    · have hx : ¬ x4 = 12 := by have ht : (x4 != 12) = true := by assumption
                                simpa using ht
      obtain rfl : ok = false := by rw [HOK.out]; exact decide_eq_false hx
      exact ⟨rfl, HB2.out.setCell (Nat.le_refl _) _⟩
    · have hx : x4 = 12 := by have ht : (x4 != 12) = false := by assumption
                              simpa using ht
      obtain rfl : ok = true := by rw [HOK.out]; exact decide_eq_true hx
      have hk := HK2.out.set_ 1 (.int .u32 (x0 * 256 + x1))
      exact ⟨w.heap.size, rfl, by simpa [E16.out, E32.out] using hk, HB2.out.setCell (Nat.le_refl _) _⟩
  · by_cases hv : 315 ≤ ver
    · obtain rfl : long = true := by simpa [hv] using hlong
      clear hlong
      go_enter Tryd.func71, Tryd.ntmps71
      go_wp2_with fail
      go_region_held3 (fun w' => w'.cell? ⟨b, o + 4, none⟩ = some (.int .u8 x4) ∧ w'.cell? ⟨b, o + 5, none⟩ = some (.int .u8 x5) ∧ w'.cell? ⟨b, o + 10, none⟩ = some (.int .u8 x10)) (go_keep) (fail)
      go_wp2_with fail
      have HB1 := Lib.hid (((Below.refl w.heap.size w).alloc (Nat.le_refl _) (.cells #[.int .u16 0, .int .u32 0, .int .u8 x4, .int .u8 x5, .pointer (some ⟨cx, 0, none⟩), .int .u8 x10] 107)).drew)
      have HK1 := Lib.hid ((Blk.new w 107 #[.int .u16 0, .int .u32 0, .int .u8 x4, .int .u8 x5, .pointer (some ⟨cx, 0, none⟩), .int .u8 x10]).drew)
      refine (get32 b o 11 c x0 x1 x2 x3 _ (by omega) ((HB1.out.cell (p := ⟨b, o, none⟩) hb).trans c0) ((HB1.out.cell (p := ⟨b, o + 1, none⟩) hb).trans c1) ((HB1.out.cell (p := ⟨b, o + 2, none⟩) hb).trans c2) ((HB1.out.cell (p := ⟨b, o + 3, none⟩) hb).trans c3) r0.out r1.out r2.out r3.out).mono ?_
      rintro e w2 ⟨rfl, hb2⟩
      have HK2 := Lib.hid (HK1.out.old hb2)
      have s1 : w2.cell? ⟨w.heap.size, 1, none⟩ = some (.int .u32 0) := HK2.out.cell 1
      have s2 : w2.cell? ⟨w.heap.size, 2, none⟩ = some (.int .u8 x4) := HK2.out.cell 2
      have f1 := HK2.out.frozen 1
      have HB2 := Lib.hid (HB1.out.trans (hb2.mono HB1.out.size))
      clear hb2 HB1 HK1 c0 c1 c2 c3 c4 c5 c10 k2 k9
      have hwr := HWR.out
      go_wp2_with fail
      all_goals go_ret
      · have hx : ¬ x4 = 12 := by have ht : (x4 != 12) = true := by assumption
                                  simpa using ht
        obtain rfl : ok = false := by rw [HOK.out]; exact decide_eq_false hx
        exact ⟨rfl, HB2.out.setCell (Nat.le_refl _) _⟩
      · have hx : x4 = 12 := by have ht : (x4 != 12) = false := by assumption
                                simpa using ht
        obtain rfl : ok = true := by rw [HOK.out]; exact decide_eq_true hx
        have hk := HK2.out.set_ 1 (.int .u32 (((x0 * 256 + x1) * 256 + x2) * 256 + x3))
        exact ⟨w.heap.size, rfl, by simpa [E16.out, E32.out] using hk, HB2.out.setCell (Nat.le_refl _) _⟩
    · have hv2 : ver < 315 := by omega
      obtain rfl : long = false := by simpa [hv] using hlong
      clear hlong hv
      go_enter Tryd.func71, Tryd.ntmps71
      go_wp2_with fail
      go_region_held3 (fun w' => w'.cell? ⟨b, o + 4, none⟩ = some (.int .u8 x4) ∧ w'.cell? ⟨b, o + 5, none⟩ = some (.int .u8 x5) ∧ w'.cell? ⟨b, o + 10, none⟩ = some (.int .u8 x10)) (go_keep) (fail)
      go_wp2_with fail
      have HB1 := Lib.hid (((Below.refl w.heap.size w).alloc (Nat.le_refl _) (.cells #[.int .u16 0, .int .u32 0, .int .u8 x4, .int .u8 x5, .pointer (some ⟨cx, 0, none⟩), .int .u8 x10] 107)).drew)
      have HK1 := Lib.hid ((Blk.new w 107 #[.int .u16 0, .int .u32 0, .int .u8 x4, .int .u8 x5, .pointer (some ⟨cx, 0, none⟩), .int .u8 x10]).drew)
      refine (get16 b o 11 c x0 x1 _ (by omega) ((HB1.out.cell (p := ⟨b, o, none⟩) hb).trans c0) ((HB1.out.cell (p := ⟨b, o + 1, none⟩) hb).trans c1) r0.out r1.out).mono ?_
      rintro e w2 ⟨rfl, hb2⟩
      have HK2 := Lib.hid (HK1.out.old hb2)
      have s1 : w2.cell? ⟨w.heap.size, 1, none⟩ = some (.int .u32 0) := HK2.out.cell 1
      have s2 : w2.cell? ⟨w.heap.size, 2, none⟩ = some (.int .u8 x4) := HK2.out.cell 2
      have f1 := HK2.out.frozen 1
      have HB2 := Lib.hid (HB1.out.trans (hb2.mono HB1.out.size))
      clear hb2 HB1 HK1 c0 c1 c2 c3 c4 c5 c10 k2 k9
      have hwr := HWR.out
      go_wp2_with fail
      all_goals go_ret
      · have hx : ¬ x4 = 12 := by have ht : (x4 != 12) = true := by assumption
                                  simpa using ht
        obtain rfl : ok = false := by rw [HOK.out]; exact decide_eq_false hx
        exact ⟨rfl, HB2.out.setCell (Nat.le_refl _) _⟩
      · have hx : x4 = 12 := by have ht : (x4 != 12) = false := by assumption
                                simpa using ht
        obtain rfl : ok = true := by rw [HOK.out]; exact decide_eq_true hx
        have hk := HK2.out.set_ 1 (.int .u32 (x0 * 256 + x1))
        exact ⟨w.heap.size, rfl, by simpa [E16.out, E32.out] using hk, HB2.out.setCell (Nat.le_refl _) _⟩
end Go.Proofs.YtaohgebiedkdaaaDoor
