/-
  What is read of a packet of data.
-/
import Derived.Test.YtaohgebiedkdaaaDoorData
import Derived.Test.YtaohgebiedkdaaaDoorGet
import Derived.Test.YtaohgebiedkdaaaDoorRedLaw
namespace Go.Proofs.YtaohgebiedkdaaaDoor
open Go Go.RowKit

def ReadPostV (len x5 y8 : Int) (n c b o cx : Nat) (w : World) (e : Ending) (w' : World) : Prop := ∃ g q, e = .returned (.tuple #[.pointer (some ⟨g, 0, none⟩), .nilIface]) ∧  Blk w' g 88 #[.int .u16 10, .int .u32 len, .int .u8 6, .int .u8 x5, .pointer (some ⟨cx, 0, none⟩), .int .u16 y8, .slice q (n - 10) (c - 10)] ∧  (10 < n → q = some ⟨b, o + 10, none⟩) ∧ Below w.heap.size w w'

def ReadPost (long : Bool) (n c b o cx : Nat) (xs : List Int) (w : World) : Ending → World → Prop := ReadPostV (if long then g32 xs 0 else g16 xs 0) (xs.getD 5 0) (g16 xs 8) n c b o cx w

set_option maxRecDepth 100000 in
set_option maxHeartbeats 2000000 in
theorem newDataFrom_ok (long : Bool) (b o n c cx : Nat) (xs : List Int) (ver : Int) (cp : Bool) (w : World) (hlong : long = (cp && decide (315 ≤ ver)))
    (k2 : w.cell? ⟨cx, 2, none⟩ = some (.int .u16 ver)) (k9 : w.cell? ⟨cx, 9, none⟩ = some (.bool cp)) (hc : ∀ i, i < n → w.cell? ⟨b, o + i, none⟩ = some (.int .u8 (xs.getD i 0)))
    (hr : ∀ x ∈ xs, 0 ≤ x ∧ x < 256) (hn : 10 ≤ n) (hnc : n ≤ c) (h6 : xs.getD 4 0 = 6) :
    Calls Tryd.prog 61 #[.slice (some ⟨b, o, none⟩) n c, .pointer (some ⟨cx, 0, none⟩)] w (ReadPost long n c b o cx xs w) := by
  unfold ReadPost
  have c0 := hc 0 (by omega)
  have c1 := hc 1 (by omega)
  have c2 := hc 2 (by omega)
  have c3 := hc 3 (by omega)
  have c4 := hc 4 (by omega)
  have c5 := hc 5 (by omega)
  have c8 := hc 8 (by omega)
  have c9 := hc 9 (by omega)
  rw [Nat.add_zero] at c0
  rw [h6] at c4
  have hb : b < w.heap.size := heap_lt_of_cell c0
  have hcx : cx < w.heap.size := heap_lt_of_cell k2
  have r0 := Lib.hid (getD_byte hr 0)
  have r1 := Lib.hid (getD_byte hr 1)
  have r2 := Lib.hid (getD_byte hr 2)
  have r3 := Lib.hid (getD_byte hr 3)
  have r8 := Lib.hid (getD_byte hr 8)
  have r9 := Lib.hid (getD_byte hr 9)
  have e16 : g16 xs 0 = xs.getD 0 0 * 256 + xs.getD 1 0 := rfl
  have e32 : g32 xs 0 = ((xs.getD 0 0 * 256 + xs.getD 1 0) * 256 + xs.getD 2 0) * 256 + xs.getD 3 0 := rfl
  have e8 : g16 xs 8 = xs.getD 8 0 * 256 + xs.getD 9 0 := rfl
  generalize g16 xs 0 = y16 at *
  generalize g32 xs 0 = y32 at *
  generalize g16 xs 8 = y8 at *
  generalize xs.getD 0 0 = x0 at *
  generalize xs.getD 1 0 = x1 at *
  generalize xs.getD 2 0 = x2 at *
  generalize xs.getD 3 0 = x3 at *
  generalize xs.getD 5 0 = x5 at *
  generalize xs.getD 8 0 = x8 at *
  generalize xs.getD 9 0 = x9 at *
  have E16 := Lib.hid e16
  have E32 := Lib.hid e32
  have E8 := Lib.hid e8
  have hwr : IntKind.u32.wrap (x0 * 256 + x1) = x0 * 256 + x1 := by rw [IntKind.wrap_u32]; have := r0.out; have := r1.out; omega
  have HWR := Lib.hid hwr
  have i10 : (10 : Int) ≤ ((n : Nat) : Int) := by omega
  have inc : ((n : Nat) : Int) ≤ ((c : Nat) : Int) := by omega
  have n4 : (4 : Int) < ((n : Nat) : Int) := by omega
  have n5 : (5 : Int) < ((n : Nat) : Int) := by omega
  have c8n : c ≠ 8 := by omega
  have n8 : (8 : Int) ≤ ((n : Nat) : Int) := by omega
  clear hc hr h6 e16 e32 e8 hwr
  by_cases c10 : c = 10
  · obtain rfl : n = 10 := by omega
    subst c10
    cases cp
    · obtain rfl : long = false := by simpa using hlong
      clear hlong
      go_enter Tryd.func61, Tryd.ntmps61
      go_wp2_with fail
      go_region_held3 (fun w' => w'.cell? ⟨b, o + 4, none⟩ = some (.int .u8 6) ∧ w'.cell? ⟨b, o + 5, none⟩ = some (.int .u8 x5)) (go_keep)
        (first | (go_at_call 72; refine (get16 b (o + 8) 2 2 x8 x9 _ (by omega) (by simp [*]) (by simp [*]) r8.out r9.out).mono ?_; rintro e w2 ⟨rfl, hb2⟩; obtain ⟨hcl, hfz⟩ := bcell hb2; have HB2 := Lib.hid hb2; simp only [World.size_drew] at hcl hfz; clear hb2 hfz))
      have HB3 := Lib.hid ((Below.refl w.heap.size w).drew.trans HB2.out)
      have d0 := (HB3.out.cell (p := ⟨b, o, none⟩) hb).trans c0
      have d1 := (HB3.out.cell (p := ⟨b, o + 1, none⟩) hb).trans c1
      have d2 := (HB3.out.cell (p := ⟨b, o + 2, none⟩) hb).trans c2
      have d3 := (HB3.out.cell (p := ⟨b, o + 3, none⟩) hb).trans c3
      have m2 := (HB3.out.cell (p := ⟨cx, 2, none⟩) hcx).trans k2
      have m9 := (HB3.out.cell (p := ⟨cx, 9, none⟩) hcx).trans k9
      have hb5 : b < w2.heap.size := Nat.lt_of_lt_of_le hb HB3.out.size
      have hx5 : cx < w2.heap.size := Nat.lt_of_lt_of_le hcx HB3.out.size
      clear hcl HB2
      go_wp2_with fail
      refine (get16 b o 10 10 x0 x1 _ (by omega) (by rw [World.cell?_alloc_lt _ _ _ hb5]; exact d0) (by rw [World.cell?_alloc_lt _ _ _ hb5]; exact d1) r0.out r1.out).mono ?_
      rintro e w4 ⟨rfl, hb4⟩
      have HK := Lib.hid ((Blk.new w2 88 _).old hb4)
      have s1 : w4.cell? ⟨w2.heap.size, 1, none⟩ = some (.int .u32 0) := HK.out.cell 1
      have f1 := HK.out.frozen 1
      have HB4 := Lib.hid ((HB3.out.alloc HB3.out.size _).trans (hb4.mono (by have := HB3.out.size; simp; omega)))
      clear hb4 d0 d1 d2 d3 m2 m9
      have hwr := HWR.out
      go_wp2_with fail
      go_ret2
      have hk := HK.out.set_ 1 (.int .u32 y16)
      exact ⟨w2.heap.size, some ⟨b, o, none⟩, rfl, by simpa [E8.out, E16.out] using hk, (fun h => absurd h (by omega)), HB4.out.setCell HB3.out.size _⟩
    · by_cases hv : 315 ≤ ver
      · obtain rfl : long = true := by simpa [hv] using hlong
        clear hlong
        go_enter Tryd.func61, Tryd.ntmps61
        go_wp2_with fail
        go_region_held3 (fun w' => w'.cell? ⟨b, o + 4, none⟩ = some (.int .u8 6) ∧ w'.cell? ⟨b, o + 5, none⟩ = some (.int .u8 x5)) (go_keep)
          (first | (go_at_call 72; refine (get16 b (o + 8) 2 2 x8 x9 _ (by omega) (by simp [*]) (by simp [*]) r8.out r9.out).mono ?_; rintro e w2 ⟨rfl, hb2⟩; obtain ⟨hcl, hfz⟩ := bcell hb2; have HB2 := Lib.hid hb2; simp only [World.size_drew] at hcl hfz; clear hb2 hfz))
        have HB3 := Lib.hid ((Below.refl w.heap.size w).drew.trans HB2.out)
        have d0 := (HB3.out.cell (p := ⟨b, o, none⟩) hb).trans c0
        have d1 := (HB3.out.cell (p := ⟨b, o + 1, none⟩) hb).trans c1
        have d2 := (HB3.out.cell (p := ⟨b, o + 2, none⟩) hb).trans c2
        have d3 := (HB3.out.cell (p := ⟨b, o + 3, none⟩) hb).trans c3
        have m2 := (HB3.out.cell (p := ⟨cx, 2, none⟩) hcx).trans k2
        have m9 := (HB3.out.cell (p := ⟨cx, 9, none⟩) hcx).trans k9
        have hb5 : b < w2.heap.size := Nat.lt_of_lt_of_le hb HB3.out.size
        have hx5 : cx < w2.heap.size := Nat.lt_of_lt_of_le hcx HB3.out.size
        clear hcl HB2
        go_wp2_with fail
        refine (get32 b o 10 10 x0 x1 x2 x3 _ (by omega) (by rw [World.cell?_alloc_lt _ _ _ hb5]; exact d0) (by rw [World.cell?_alloc_lt _ _ _ hb5]; exact d1) (by rw [World.cell?_alloc_lt _ _ _ hb5]; exact d2) (by rw [World.cell?_alloc_lt _ _ _ hb5]; exact d3) r0.out r1.out r2.out r3.out).mono ?_
        rintro e w4 ⟨rfl, hb4⟩
        have HK := Lib.hid ((Blk.new w2 88 _).old hb4)
        have s1 : w4.cell? ⟨w2.heap.size, 1, none⟩ = some (.int .u32 0) := HK.out.cell 1
        have f1 := HK.out.frozen 1
        have HB4 := Lib.hid ((HB3.out.alloc HB3.out.size _).trans (hb4.mono (by have := HB3.out.size; simp; omega)))
        clear hb4 d0 d1 d2 d3 m2 m9
        go_wp2_with fail
        go_ret2
        have hk := HK.out.set_ 1 (.int .u32 y32)
        exact ⟨w2.heap.size, some ⟨b, o, none⟩, rfl, by simpa [E8.out, E32.out] using hk, (fun h => absurd h (by omega)), HB4.out.setCell HB3.out.size _⟩
      · have hv2 : ver < 315 := by omega
        obtain rfl : long = false := by simpa [hv] using hlong
        clear hlong hv
        go_enter Tryd.func61, Tryd.ntmps61
        go_wp2_with fail
        go_region_held3 (fun w' => w'.cell? ⟨b, o + 4, none⟩ = some (.int .u8 6) ∧ w'.cell? ⟨b, o + 5, none⟩ = some (.int .u8 x5)) (go_keep)
          (first | (go_at_call 72; refine (get16 b (o + 8) 2 2 x8 x9 _ (by omega) (by simp [*]) (by simp [*]) r8.out r9.out).mono ?_; rintro e w2 ⟨rfl, hb2⟩; obtain ⟨hcl, hfz⟩ := bcell hb2; have HB2 := Lib.hid hb2; simp only [World.size_drew] at hcl hfz; clear hb2 hfz))
        have HB3 := Lib.hid ((Below.refl w.heap.size w).drew.trans HB2.out)
        have d0 := (HB3.out.cell (p := ⟨b, o, none⟩) hb).trans c0
        have d1 := (HB3.out.cell (p := ⟨b, o + 1, none⟩) hb).trans c1
        have d2 := (HB3.out.cell (p := ⟨b, o + 2, none⟩) hb).trans c2
        have d3 := (HB3.out.cell (p := ⟨b, o + 3, none⟩) hb).trans c3
        have m2 := (HB3.out.cell (p := ⟨cx, 2, none⟩) hcx).trans k2
        have m9 := (HB3.out.cell (p := ⟨cx, 9, none⟩) hcx).trans k9
        have hb5 : b < w2.heap.size := Nat.lt_of_lt_of_le hb HB3.out.size
        have hx5 : cx < w2.heap.size := Nat.lt_of_lt_of_le hcx HB3.out.size
        clear hcl HB2
        go_wp2_with fail
        refine (get16 b o 10 10 x0 x1 _ (by omega) (by rw [World.cell?_alloc_lt _ _ _ hb5]; exact d0) (by rw [World.cell?_alloc_lt _ _ _ hb5]; exact d1) r0.out r1.out).mono ?_
        rintro e w4 ⟨rfl, hb4⟩
        have HK := Lib.hid ((Blk.new w2 88 _).old hb4)
        have s1 : w4.cell? ⟨w2.heap.size, 1, none⟩ = some (.int .u32 0) := HK.out.cell 1
        have f1 := HK.out.frozen 1
        have HB4 := Lib.hid ((HB3.out.alloc HB3.out.size _).trans (hb4.mono (by have := HB3.out.size; simp; omega)))
        clear hb4 d0 d1 d2 d3 m2 m9
        have hwr := HWR.out
        go_wp2_with fail
        go_ret2
        have hk := HK.out.set_ 1 (.int .u32 y16)
        exact ⟨w2.heap.size, some ⟨b, o, none⟩, rfl, by simpa [E8.out, E16.out] using hk, (fun h => absurd h (by omega)), HB4.out.setCell HB3.out.size _⟩
  · cases cp
    · obtain rfl : long = false := by simpa using hlong
      clear hlong
      go_enter Tryd.func61, Tryd.ntmps61
      go_wp2_with fail
      go_region_held3 (fun w' => w'.cell? ⟨b, o + 4, none⟩ = some (.int .u8 6) ∧ w'.cell? ⟨b, o + 5, none⟩ = some (.int .u8 x5)) (go_keep)
        (first | (go_at_call 72; refine (get16 b (o + 8) (n - 8) (c - 8) x8 x9 _ (by omega) (by simp [*]) (by simp [*]) r8.out r9.out).mono ?_; rintro e w2 ⟨rfl, hb2⟩; obtain ⟨hcl, hfz⟩ := bcell hb2; have HB2 := Lib.hid hb2; simp only [World.size_drew] at hcl hfz; clear hb2 hfz))
      have HB3 := Lib.hid ((Below.refl w.heap.size w).drew.trans HB2.out)
      have d0 := (HB3.out.cell (p := ⟨b, o, none⟩) hb).trans c0
      have d1 := (HB3.out.cell (p := ⟨b, o + 1, none⟩) hb).trans c1
      have d2 := (HB3.out.cell (p := ⟨b, o + 2, none⟩) hb).trans c2
      have d3 := (HB3.out.cell (p := ⟨b, o + 3, none⟩) hb).trans c3
      have m2 := (HB3.out.cell (p := ⟨cx, 2, none⟩) hcx).trans k2
      have m9 := (HB3.out.cell (p := ⟨cx, 9, none⟩) hcx).trans k9
      have hb5 : b < w2.heap.size := Nat.lt_of_lt_of_le hb HB3.out.size
      have hx5 : cx < w2.heap.size := Nat.lt_of_lt_of_le hcx HB3.out.size
      clear hcl HB2
      go_wp2_with fail
      refine (get16 b o n c x0 x1 _ (by omega) (by rw [World.cell?_alloc_lt _ _ _ hb5]; exact d0) (by rw [World.cell?_alloc_lt _ _ _ hb5]; exact d1) r0.out r1.out).mono ?_
      rintro e w4 ⟨rfl, hb4⟩
      have HK := Lib.hid ((Blk.new w2 88 _).old hb4)
      have s1 : w4.cell? ⟨w2.heap.size, 1, none⟩ = some (.int .u32 0) := HK.out.cell 1
      have f1 := HK.out.frozen 1
      have HB4 := Lib.hid ((HB3.out.alloc HB3.out.size _).trans (hb4.mono (by have := HB3.out.size; simp; omega)))
      clear hb4 d0 d1 d2 d3 m2 m9
      have hwr := HWR.out
      go_wp2_with fail
      go_ret2
      have hk := HK.out.set_ 1 (.int .u32 y16)
      exact ⟨w2.heap.size, some ⟨b, o + 10, none⟩, rfl, by simpa [E8.out, E16.out] using hk, (fun _ => rfl), HB4.out.setCell HB3.out.size _⟩
    · by_cases hv : 315 ≤ ver
      · obtain rfl : long = true := by simpa [hv] using hlong
        clear hlong
        go_enter Tryd.func61, Tryd.ntmps61
        go_wp2_with fail
        go_region_held3 (fun w' => w'.cell? ⟨b, o + 4, none⟩ = some (.int .u8 6) ∧ w'.cell? ⟨b, o + 5, none⟩ = some (.int .u8 x5)) (go_keep)
          (first | (go_at_call 72; refine (get16 b (o + 8) (n - 8) (c - 8) x8 x9 _ (by omega) (by simp [*]) (by simp [*]) r8.out r9.out).mono ?_; rintro e w2 ⟨rfl, hb2⟩; obtain ⟨hcl, hfz⟩ := bcell hb2; have HB2 := Lib.hid hb2; simp only [World.size_drew] at hcl hfz; clear hb2 hfz))
        have HB3 := Lib.hid ((Below.refl w.heap.size w).drew.trans HB2.out)
        have d0 := (HB3.out.cell (p := ⟨b, o, none⟩) hb).trans c0
        have d1 := (HB3.out.cell (p := ⟨b, o + 1, none⟩) hb).trans c1
        have d2 := (HB3.out.cell (p := ⟨b, o + 2, none⟩) hb).trans c2
        have d3 := (HB3.out.cell (p := ⟨b, o + 3, none⟩) hb).trans c3
        have m2 := (HB3.out.cell (p := ⟨cx, 2, none⟩) hcx).trans k2
        have m9 := (HB3.out.cell (p := ⟨cx, 9, none⟩) hcx).trans k9
        have hb5 : b < w2.heap.size := Nat.lt_of_lt_of_le hb HB3.out.size
        have hx5 : cx < w2.heap.size := Nat.lt_of_lt_of_le hcx HB3.out.size
        clear hcl HB2
        go_wp2_with fail
        refine (get32 b o n c x0 x1 x2 x3 _ (by omega) (by rw [World.cell?_alloc_lt _ _ _ hb5]; exact d0) (by rw [World.cell?_alloc_lt _ _ _ hb5]; exact d1) (by rw [World.cell?_alloc_lt _ _ _ hb5]; exact d2) (by rw [World.cell?_alloc_lt _ _ _ hb5]; exact d3) r0.out r1.out r2.out r3.out).mono ?_
        rintro e w4 ⟨rfl, hb4⟩
        have HK := Lib.hid ((Blk.new w2 88 _).old hb4)
        have s1 : w4.cell? ⟨w2.heap.size, 1, none⟩ = some (.int .u32 0) := HK.out.cell 1
        have f1 := HK.out.frozen 1
        have HB4 := Lib.hid ((HB3.out.alloc HB3.out.size _).trans (hb4.mono (by have := HB3.out.size; simp; omega)))
        clear hb4 d0 d1 d2 d3 m2 m9
        go_wp2_with fail
        go_ret2
        have hk := HK.out.set_ 1 (.int .u32 y32)
        exact ⟨w2.heap.size, some ⟨b, o + 10, none⟩, rfl, by simpa [E8.out, E32.out] using hk, (fun _ => rfl), HB4.out.setCell HB3.out.size _⟩
      · have hv2 : ver < 315 := by omega
        obtain rfl : long = false := by simpa [hv] using hlong
        clear hlong hv
        go_enter Tryd.func61, Tryd.ntmps61
        go_wp2_with fail
        go_region_held3 (fun w' => w'.cell? ⟨b, o + 4, none⟩ = some (.int .u8 6) ∧ w'.cell? ⟨b, o + 5, none⟩ = some (.int .u8 x5)) (go_keep)
          (first | (go_at_call 72; refine (get16 b (o + 8) (n - 8) (c - 8) x8 x9 _ (by omega) (by simp [*]) (by simp [*]) r8.out r9.out).mono ?_; rintro e w2 ⟨rfl, hb2⟩; obtain ⟨hcl, hfz⟩ := bcell hb2; have HB2 := Lib.hid hb2; simp only [World.size_drew] at hcl hfz; clear hb2 hfz))
        have HB3 := Lib.hid ((Below.refl w.heap.size w).drew.trans HB2.out)
        have d0 := (HB3.out.cell (p := ⟨b, o, none⟩) hb).trans c0
        have d1 := (HB3.out.cell (p := ⟨b, o + 1, none⟩) hb).trans c1
        have d2 := (HB3.out.cell (p := ⟨b, o + 2, none⟩) hb).trans c2
        have d3 := (HB3.out.cell (p := ⟨b, o + 3, none⟩) hb).trans c3
        have m2 := (HB3.out.cell (p := ⟨cx, 2, none⟩) hcx).trans k2
        have m9 := (HB3.out.cell (p := ⟨cx, 9, none⟩) hcx).trans k9
        have hb5 : b < w2.heap.size := Nat.lt_of_lt_of_le hb HB3.out.size
        have hx5 : cx < w2.heap.size := Nat.lt_of_lt_of_le hcx HB3.out.size
        clear hcl HB2
        go_wp2_with fail
        refine (get16 b o n c x0 x1 _ (by omega) (by rw [World.cell?_alloc_lt _ _ _ hb5]; exact d0) (by rw [World.cell?_alloc_lt _ _ _ hb5]; exact d1) r0.out r1.out).mono ?_
        rintro e w4 ⟨rfl, hb4⟩
        have HK := Lib.hid ((Blk.new w2 88 _).old hb4)
        have s1 : w4.cell? ⟨w2.heap.size, 1, none⟩ = some (.int .u32 0) := HK.out.cell 1
        have f1 := HK.out.frozen 1
        have HB4 := Lib.hid ((HB3.out.alloc HB3.out.size _).trans (hb4.mono (by have := HB3.out.size; simp; omega)))
        clear hb4 d0 d1 d2 d3 m2 m9
        have hwr := HWR.out
        go_wp2_with fail
        go_ret2
        have hk := HK.out.set_ 1 (.int .u32 y16)
        exact ⟨w2.heap.size, some ⟨b, o + 10, none⟩, rfl, by simpa [E8.out, E16.out] using hk, (fun _ => rfl), HB4.out.setCell HB3.out.size _⟩

end Go.Proofs.YtaohgebiedkdaaaDoor
