/-
  FnPacketRedirect: the law returns true for every list of bytes.
-/
import Derived.Test.YtaohgebiedkdaaaDoorRedirect
import Derived.Test.YtaohgebiedkdaaaDoorSpecGet
import Derived.Test.YtaohgebiedkdaaaDoorData
namespace Go.Proofs.YtaohgebiedkdaaaDoor
open Go Go.RowKit

set_option maxRecDepth 100000 in
set_option maxHeartbeats 1000000 in
theorem packetHead_any (b : Nat) (off len ty fl : Int) (w : World) (c0 : w.cell? ⟨b, 0, none⟩ = some (.int .u16 off)) (c1 : w.cell? ⟨b, 1, none⟩ = some (.int .u32 len)) (c2 : w.cell? ⟨b, 2, none⟩ = some (.int .u8 ty)) (c3 : w.cell? ⟨b, 3, none⟩ = some (.int .u8 fl)) :
    Calls Tryd.prog 56 #[.pointer (some ⟨b, 0, none⟩)] w fun e w' => e = .returned (.tuple #[.int .u32 len, .int .u8 ty, .int .u8 fl, .int .u16 off]) ∧ ∃ n, w' = w.drewN n := by
  go_enter Tryd.func56, Tryd.ntmps56
  go_wp2
  go_quiet (fail)
  go_wp2
  exact bodyPost_ret (v := .tuple #[.int .u32 len, .int .u8 ty, .int .u8 fl, .int .u16 off]) (by simp [results, Tryd.results56, go_sem]) rfl ⟨rfl, nq, rfl⟩

/-- A head, as a value. -/
def headV (len ty fl off : Int) : Value := .agg #[.int .u32 len, .int .u8 ty, .int .u8 fl, .int .u16 off]

set_option maxRecDepth 100000 in
set_option maxHeartbeats 1000000 in
theorem headOf_any (b : Nat) (off len ty fl : Int) (w : World) (c0 : w.cell? ⟨b, 0, none⟩ = some (.int .u16 off)) (c1 : w.cell? ⟨b, 1, none⟩ = some (.int .u32 len)) (c2 : w.cell? ⟨b, 2, none⟩ = some (.int .u8 ty)) (c3 : w.cell? ⟨b, 3, none⟩ = some (.int .u8 fl)) :
    Calls Tryd.prog 37 #[.pointer (some ⟨b, 0, none⟩)] w fun e w' => e = .returned (headV len ty fl off) ∧ Below w.heap.size w w' := by
  have hb : b < w.heap.size := heap_lt_of_cell c0
  have C := Lib.hid (fun O => packetHead_any b off len ty fl (w.alloc O) (by rw [World.cell?_alloc_lt _ _ _ hb]; exact c0) (by rw [World.cell?_alloc_lt _ _ _ hb]; exact c1) (by rw [World.cell?_alloc_lt _ _ _ hb]; exact c2) (by rw [World.cell?_alloc_lt _ _ _ hb]; exact c3))
  clear c0 c1 c2 c3
  go_enter Tryd.func37, Tryd.ntmps37
  go_wp2_with fail
  refine (C.out _).mono ?_
  rintro e w1 ⟨rfl, n, rfl⟩
  clear C
  go_wp2_with fail
  have hb1 : Below w.heap.size w ((w.alloc (.cells #[.int .u32 0, .int .u8 0, .int .u8 0, .int .u16 0] 27)).drewN n) := below_drewN ((Below.refl _ _).alloc (Nat.le_refl _) _) n
  exact bodyPost_ret (v := .agg #[.int .u32 len, .int .u8 ty, .int .u8 fl, .int .u16 off]) (by simp [results, Tryd.results37, go_sem]) rfl ⟨rfl, (((hb1.setCell (Nat.le_refl _) _).setCell (Nat.le_refl _) _).setCell (Nat.le_refl _) _).setCell (Nat.le_refl _) _⟩

/-- The cells of a result that is a head, where nothing has been stored yet. -/
theorem zero_head {w : World} {g : Nat} {t : TypeId} (h : Blk w g t #[.int .u32 0, .int .u8 0, .int .u8 0, .int .u16 0]) :
    w.cell? ⟨g, 0, none⟩ = some (.int .u32 0) ∧ w.cell? ⟨g, 1, none⟩ = some (.int .u8 0) ∧ w.cell? ⟨g, 2, none⟩ = some (.int .u8 0) ∧ w.cell? ⟨g, 3, none⟩ = some (.int .u16 0) ∧
    w.frozen? ⟨g, 0, none⟩ = false ∧ w.frozen? ⟨g, 1, none⟩ = false ∧ w.frozen? ⟨g, 2, none⟩ = false ∧ w.frozen? ⟨g, 3, none⟩ = false :=
  ⟨h.cell 0, h.cell 1, h.cell 2, h.cell 3, h.frozen 0, h.frozen 1, h.frozen 2, h.frozen 3⟩

set_option maxRecDepth 100000 in
set_option maxHeartbeats 1000000 in
theorem redirectRead_short (p : Option Addr) (n c : Nat) (xs : List Int) (w : World) (hi : Lib.BytesIn w p n xs) (hx : xs.length = n) (hn : n < 10) :
    Calls Tryd.prog 13 #[.slice p n c] w fun e w' => e = .returned (.tuple #[headV 0 0 0 0, .bool false]) ∧ Below w.heap.size w w' := by
  have HI := Lib.hid hi
  have HX := Lib.hid hx
  clear hi hx
  go_enter Tryd.func13, Tryd.ntmps13
  go_wp2_with fail
  refine (clone_any _ _ _ _ _ (bin_alloc HI.out _) HX.out (by omega)).mono ?_
  rintro e w1 ⟨q, d, rfl, _, hb⟩
  have hz := (Blk.new w 27 #[.int .u32 0, .int .u8 0, .int .u8 0, .int .u16 0]).old hb
  have hlt := hz.lt
  obtain ⟨s0, s1, s2, s3, f0, f1, f2, f3⟩ := zero_head hz
  have HB := Lib.hid (((Below.refl w.heap.size w).alloc (Nat.le_refl _) (.cells #[.int .u32 0, .int .u8 0, .int .u8 0, .int .u16 0] 27)).trans (hb.mono (by simp)))
  clear hb hz
  go_wp2_with fail
  refine (network_redirect_short _ _ _ _ hn).mono ?_
  rintro e w2 ⟨rfl, rfl⟩
  go_wp2_with fail
  exact bodyPost_ret (v := .tuple #[.agg #[.int .u32 0, .int .u8 0, .int .u8 0, .int .u16 0], .bool false]) (by simp [results, Tryd.results13, go_sem, s0, s1, s2, s3]) rfl ⟨rfl, (((HB.out.setCell (Nat.le_refl _) _).setCell (Nat.le_refl _) _).setCell (Nat.le_refl _) _).setCell (Nat.le_refl _) _⟩

set_option maxRecDepth 100000 in
set_option maxHeartbeats 1000000 in
theorem redirectRead_long (p : Option Addr) (n c : Nat) (xs : List Int) (w : World) (hi : Lib.BytesIn w p n xs) (hx : xs.length = n) (hr : ∀ x ∈ xs, 0 ≤ x ∧ x < 256) (hn : 10 ≤ n) (hm : n ≤ 100000) :
    Calls Tryd.prog 13 #[.slice p n c] w fun e w' => e = .returned (.tuple #[headV (g16 xs 0) (xs.getD 4 0) (xs.getD 5 0) 10, .bool true]) ∧ Below w.heap.size w w' := by
  have HI := Lib.hid hi
  have HX := Lib.hid hx
  have HR := Lib.hid hr
  clear hi hx hr
  go_enter Tryd.func13, Tryd.ntmps13
  go_wp2_with fail
  refine (clone_any _ _ _ _ _ (bin_alloc HI.out _) HX.out (by omega)).mono ?_
  rintro e w1 ⟨q, d, rfl, hown, hb⟩
  have HZ := Lib.hid ((Blk.new w 27 #[.int .u32 0, .int .u8 0, .int .u8 0, .int .u16 0]).old hb)
  have HQ := Lib.hid (bin_of_own hown)
  have HB := Lib.hid (((Below.refl w.heap.size w).alloc (Nat.le_refl _) (.cells #[.int .u32 0, .int .u8 0, .int .u8 0, .int .u16 0] 27)).trans (hb.mono (by simp)))
  clear hb hown
  go_wp2_with fail
  refine (network_redirect_long _ _ _ _ _ HQ.out HR.out hn).mono ?_
  rintro e w2 ⟨b, rfl, hblk, hb⟩
  have HZ2 := Lib.hid (HZ.out.old hb)
  have HK := Lib.hid hblk
  have HB2 := Lib.hid (HB.out.trans (hb.mono HB.out.size))
  clear hb hblk HZ HB HQ
  go_wp2_with fail
  refine (headOf_any b _ _ _ _ w2 (HK.out.cell 0) (HK.out.cell 1) (HK.out.cell 2) (HK.out.cell 3)).mono ?_
  rintro e w3 ⟨rfl, hb⟩
  have hz := HZ2.out.old hb
  have hlt := hz.lt
  obtain ⟨s0, s1, s2, s3, f0, f1, f2, f3⟩ := zero_head hz
  have HB3 := Lib.hid (HB2.out.trans (hb.mono HB2.out.size))
  clear hb hz HZ2 HB2 HK
  unfold headV
  go_wp2_with fail
  exact bodyPost_ret (v := .tuple #[.agg #[.int .u32 (g16 xs 0), .int .u8 (xs.getD 4 0), .int .u8 (xs.getD 5 0), .int .u16 10], .bool true]) (by simp [results, Tryd.results13, go_sem, s0, s1, s2, s3]) rfl ⟨rfl, (((HB3.out.setCell (Nat.le_refl _) _).setCell (Nat.le_refl _) _).setCell (Nat.le_refl _) _).setCell (Nat.le_refl _) _⟩

set_option maxRecDepth 100000 in
set_option maxHeartbeats 1000000 in
theorem fnPacketRedirect_few (p : Option Addr) (n c : Nat) (xs : List Int) (w : World) (hi : Lib.BytesIn w p n xs) (hx : xs.length = n) (hr : ∀ x ∈ xs, 0 ≤ x ∧ x < 256) (hnc : n ≤ c) (hcap : c ≤ maxLen) :
    Calls Tryd.prog 3 #[.slice p n c] w fun e w' => e = .returned (.bool true) ∧ Below w.heap.size w w' := by
  by_cases h0 : n ≤ 2147483647
  · have i0 : ((n : Nat) : Int) ≤ 2147483647 := by omega
    by_cases h1 : n ≤ 1000
    · have i1 : ((n : Nat) : Int) ≤ 1000 := by omega
      by_cases h2 : n < 10
      · have i2 : ((n : Nat) : Int) < 10 := by omega
        have HI := Lib.hid hi
        have HX := Lib.hid hx
        clear hi hx hr
        go_enter Tryd.func3, Tryd.ntmps3
        go_wp2_with fail
        refine (clone_any _ _ _ _ _ HI.out HX.out (by omega)).mono ?_
        rintro e w1 ⟨q, d, rfl, hown, hb⟩
        have HQ := Lib.hid (bin_of_own hown)
        have HB := Lib.hid hb
        clear hb hown
        go_wp2_with fail
        refine (redirectRead_short _ _ _ _ _ HQ.out HX.out h2).mono ?_
        rintro e w2 ⟨rfl, hb⟩
        have HB2 := Lib.hid (HB.out.trans (hb.mono HB.out.size))
        clear hb
        unfold headV
        go_wp2_with fail
        refine (packetAwake_any _).mono ?_
        rintro e w3 ⟨rfl, hb⟩
        have HB3 := Lib.hid ((HB2.out.alloc HB2.out.size (.cells #[.int .u32 0, .int .u8 0, .int .u8 0, .int .u16 0] 27)).trans (hb.mono (by have := HB2.out.size; simp; omega)))
        clear hb
        go_wp2_with fail
        go_ret
        exact ⟨rfl, HB3.out⟩
      · have i2 : (10 : Int) ≤ ((n : Nat) : Int) := by omega
        obtain ⟨b, o, rfl, hc⟩ := hi (by omega)
        have c4 := hc 4 (by omega)
        have c5 := hc 5 (by omega)
        have hbw : b < w.heap.size := heap_lt_of_cell c4
        have g0 := getD_byte hr 0
        have g1 := getD_byte hr (0 + 1)
        have hpg : pg 0 ((xs.drop 0).take 2) = g16 xs 0 := pg_two xs 0 (by omega)
        have hg16 : 0 ≤ g16 xs 0 ∧ g16 xs 0 < 65536 := by unfold g16; omega
        have hgo : IntKind.u32.wrap (g16 xs 0) = g16 xs 0 := by rw [IntKind.wrap_u32]; omega
        have C : ∀ (q : Option Addr) (d : Nat) (w1 : World), Lib.BytesIn w1 q n xs → Calls Tryd.prog 13 #[.slice q n d] w1 fun e w' => e = .returned (.tuple #[headV (g16 xs 0) (xs.getD 4 0) (xs.getD 5 0) 10, .bool true]) ∧ Below w1.heap.size w1 w' :=
          fun q d w1 h => redirectRead_long q n d xs w1 h hx hr (by omega) (by omega)
        have G : ∀ (w1 : World), Below w.heap.size w w1 → Calls Tryd.prog 15 #[.slice (some ⟨b, o, none⟩) n c, .int .i64 0, .int .i64 2] w1 fun e w' => e = .returned (.int .u64 (g16 xs 0)) ∧ w1 = w' := fun w1 hb => by
          rw [← hpg]
          exact packetGet_any b o n c 0 2 xs w1 (fun i hi => (hb.cell (p := ⟨b, o + i, none⟩) hbw).trans (hc i hi)) hx hr hnc hcap (by omega) (by decide) (by decide)
        have HI := Lib.hid hi
        have HX := Lib.hid hx
        generalize xs.getD 4 0 = x4 at *
        generalize xs.getD 5 0 = x5 at *
        generalize g16 xs 0 = y at *
        have HC := Lib.hid C
        have HGet := Lib.hid G
        clear hi hx hr hc g0 g1 hpg hg16 C G
        go_enter Tryd.func3, Tryd.ntmps3
        go_wp2_with fail
        refine (clone_any _ _ _ _ _ HI.out HX.out (by omega)).mono ?_
        rintro e w1 ⟨q, d, rfl, hown, hb⟩
        have HQ := Lib.hid (bin_of_own hown)
        have HB := Lib.hid hb
        clear hb hown
        go_wp2_with fail
        refine (HC.out _ _ _ HQ.out).mono ?_
        rintro e w2 ⟨rfl, hb⟩
        have HB2 := Lib.hid (HB.out.trans (hb.mono HB.out.size))
        clear hb HB HQ
        unfold headV
        have e4 : w2.cell? ⟨b, o + 4, none⟩ = some (.int .u8 x4) := (HB2.out.cell (p := ⟨b, o + 4, none⟩) hbw).trans c4
        have e5 : w2.cell? ⟨b, o + 5, none⟩ = some (.int .u8 x5) := (HB2.out.cell (p := ⟨b, o + 5, none⟩) hbw).trans c5
        have hbw2 : b < w2.heap.size := Nat.lt_of_lt_of_le hbw HB2.out.size
        have hbw3 : b < w2.heap.size + 1 := by omega
        have n4 : (4 : Int) < ((n : Nat) : Int) := by omega
        have n5 : (5 : Int) < ((n : Nat) : Int) := by omega
        go_wp2_with fail
        go_region_held3 (fun w' => w'.cell? ⟨b, o + 4, none⟩ = some (.int .u8 x4) ∧ w'.cell? ⟨b, o + 5, none⟩ = some (.int .u8 x5) ∧ w'.cell? ⟨w2.heap.size, 0, none⟩ = some (.int .u32 y) ∧ w'.cell? ⟨w2.heap.size, 1, none⟩ = some (.int .u8 x4) ∧ w'.cell? ⟨w2.heap.size, 2, none⟩ = some (.int .u8 x5) ∧ w'.cell? ⟨w2.heap.size, 3, none⟩ = some (.int .u16 10)) (go_keep)
          (first
            | (go_at_call 15; refine (HGet.out _ (by exact (HB2.out.alloc HB2.out.size _).drew)).mono ?_; rintro e w3 ⟨rfl, rfl⟩)
            | (go_at_call 12; refine (packetAwake_any _).mono ?_; rintro e w4 ⟨rfl, hb4⟩; obtain ⟨hcl, hfz⟩ := bcell hb4; have HB4 := Lib.hid hb4; simp only [World.size_alloc, World.size_drew] at hcl; clear hb4 hfz))
        go_wp2
        go_ret
        exact ⟨rfl, (HB2.out.alloc HB2.out.size _).drew.trans (HB4.out.mono (by have := HB2.out.size; simp; omega))⟩
    · have i1 : (1000 : Int) < ((n : Nat) : Int) := by omega
      clear hi hx hr
      go_enter Tryd.func3, Tryd.ntmps3
      go_wp2_with fail
      refine (packetAwake_any _).mono ?_
      rintro e w3 ⟨rfl, hb⟩
      have HB3 := Lib.hid hb
      clear hb
      go_wp2_with fail
      go_ret
      exact ⟨rfl, HB3.out⟩
  · have i0 : (2147483647 : Int) < ((n : Nat) : Int) := by omega
    clear hi hx hr
    go_enter Tryd.func3, Tryd.ntmps3
    go_wp2_with fail
    go_ret
    exact ⟨rfl, Below.refl _ _⟩
end Go.Proofs.YtaohgebiedkdaaaDoor
