/-
  bytes.Buffer: grow, with the row that it makes.
-/
import Derived.Test.YtacmnibhdmeidaaDoorBuf0
namespace Go.Proofs.YtacmnibhdmeidaaDoor
open Go Go.RowKit

set_option maxRecDepth 100000 in
set_option maxHeartbeats 4000000 in
theorem grow_small (T : TypeId) (R : Nat → Option Value) (b o n : Nat) (lr : Int) (w : World) (h : LibA.Three w b o T R (.slice none 0 0) (.int .i64 0) (.int .i8 lr)) (hn : 1 ≤ n) (h64 : n ≤ 64) :
    Calls Tryd.prog 82 #[.pointer (some ⟨b, o, none⟩), .int .i64 n] w (Grew T R b o [] n w) := by
  have c0 : w.cell? ⟨b, o, none⟩ = some (.slice none 0 0) := h.c0
  have c1 : w.cell? ⟨b, o + 1, none⟩ = some (.int .i64 0) := h.c1
  have f0 : w.frozen? ⟨b, o, none⟩ = false := h.f o
  have IS := Lib.hid (BufP.zero h).is
  have H3 := Lib.hid h
  have TG := Lib.hid (fun W (c : W.cell? ⟨b, o, none⟩ = some (.slice none 0 0)) => Tryd.Buffer_tryGrow_none_at b o none 0 0 n W c (Nat.le_refl _) (by decide) (by omega))
  have EN := eqlNil
  have MK : ∀ W, (Instr.makeSlice 26 (.int .i64 (n : Int)) (.int .i64 64)).run Tryd.prog W = .ok (.slice (some ⟨W.heap.size, 0, none⟩) n 64) (W.alloc (.cells (zeroA 64) 5)) := fun W => run_make_bytes .i64 .i64 n 64 h64 (by omega) W
  have i0 : (1 : Int) ≤ (n : Int) := by omega
  have i1 : (n : Int) ≤ 64 := by omega
  have hlt := h.lt
  clear h hn h64
  go_enter Tryd.func82, Tryd.ntmps82
  go_wp2_with fail
  refine (Tryd.Buffer_Len_at T R 0 b o [] _ IS.out).mono ?_
  rintro e W0 ⟨rfl, k, hW⟩
  have d0 : W0.cell? ⟨b, o, none⟩ = some (.slice none 0 0) := by rw [hW]; exact c0
  have d1 : W0.cell? ⟨b, o + 1, none⟩ = some (.int .i64 0) := by rw [hW]; exact c1
  have g0 : W0.frozen? ⟨b, o, none⟩ = false := by rw [hW]; exact f0
  have hlt0 : b < W0.heap.size := by rw [hW]; exact hlt
  have HW := Lib.hid hW
  clear hW c0 c1 f0 hlt
  go_wp2_with fail
  refine (TG.out _ d0).mono ?_
  rintro e W1 ⟨rfl, rfl⟩
  go_wp2_with fail
  go_ret
  have hs : W1.heap.size = w.heap.size := by rw [HW.out]; rfl
  have hk : Kp w W1 := by rw [HW.out]; exact (Kp.refl w).drewN k
  have h3 := ((H3.out.of_heap (hk.block b H3.out.lt)).set0 (.slice (some ⟨W1.heap.size, 0, none⟩) n 64)).of_heap (Below.heap_alloc _ (.cells (zeroA 64) 5) b (by simpa [World.setCell] using hlt0))
  have hN := heap_alloc_new (W1.setCell ⟨b, o, none⟩ (.slice (some ⟨W1.heap.size, 0, none⟩) n 64)) (.cells (zeroA 64) 5)
  rw [show (W1.setCell ⟨b, o, none⟩ (.slice (some ⟨W1.heap.size, 0, none⟩) n 64)).heap.size = W1.heap.size from by simp [World.setCell]] at hN
  refine ⟨64, zeroA 64, lr, rfl, ?_, ?_, ?_, by decide, by simp [zeroA], by simp, ?_⟩
  · rw [hs] at h3 ⊢; simpa using h3
  · rw [hs] at hN ⊢; exact hN
  · simp; omega
  · exact grown_alloc (grown_trans (grown_below hk _) (Lib.grownBy_setCell _ b o _)) _

set_option maxRecDepth 100000 in
set_option maxHeartbeats 4000000 in
theorem grow_big (T : TypeId) (R : Nat → Option Value) (b o n : Nat) (lr : Int) (w : World) (h : LibA.Three w b o T R (.slice none 0 0) (.int .i64 0) (.int .i8 lr)) (hn : 64 < n) (hm : n ≤ 1099511627776) :
    Calls Tryd.prog 82 #[.pointer (some ⟨b, o, none⟩), .int .i64 n] w (Grew T R b o [] n w) := by
  have c0 : w.cell? ⟨b, o, none⟩ = some (.slice none 0 0) := h.c0
  have c1 : w.cell? ⟨b, o + 1, none⟩ = some (.int .i64 0) := h.c1
  have f0 : w.frozen? ⟨b, o, none⟩ = false := h.f o
  have f1 : w.frozen? ⟨b, o + 1, none⟩ = false := h.f (o + 1)
  have IS := Lib.hid (BufP.zero h).is
  have H3 := Lib.hid h
  have TG := Lib.hid (fun W (c : W.cell? ⟨b, o, none⟩ = some (.slice none 0 0)) => Tryd.Buffer_tryGrow_none_at b o none 0 0 n W c (Nat.le_refl _) (by decide) (by omega))
  have GS := Lib.hid (fun W => Tryd.bytes_growSlice_nil n W (by omega) (by omega))
  have EN := eqlNil
  have i0 : (64 : Int) < (n : Int) := by omega
  have i1 : (n : Int) ≤ 1099511627776 := by omega
  have hwn : IntKind.i64.wrap (n : Int) = n := IntWalk.i64_in _ (by omega)
  have hlt := h.lt
  clear h hn hm
  go_enter Tryd.func82, Tryd.ntmps82
  go_wp2_with fail
  refine (Tryd.Buffer_Len_at T R 0 b o [] _ IS.out).mono ?_
  rintro e W0 ⟨rfl, k, hW⟩
  have d0 : W0.cell? ⟨b, o, none⟩ = some (.slice none 0 0) := by rw [hW]; exact c0
  have d1 : W0.cell? ⟨b, o + 1, none⟩ = some (.int .i64 0) := by rw [hW]; exact c1
  have g0 : W0.frozen? ⟨b, o, none⟩ = false := by rw [hW]; exact f0
  have g1 : W0.frozen? ⟨b, o + 1, none⟩ = false := by rw [hW]; exact f1
  have hlt0 : b < W0.heap.size := by rw [hW]; exact hlt
  have HW := Lib.hid hW
  clear hW c0 c1 f0 f1 hlt
  go_wp2_with fail
  refine (TG.out _ d0).mono ?_
  rintro e W1 ⟨rfl, rfl⟩
  go_wp2_with fail
  go_region_with (
      go_at_call 86
      refine (GS.out _).mono ?_
      rintro e w2 ⟨cap2, cells, rfl, hN, hcsz, hcap2, hcm2, hbel⟩
      have x0 : w2.frozen? ⟨b, o, none⟩ = false := (hbel.frozen (p := ⟨b, o, none⟩) (by exact hlt0)).trans g0
      have x1 : w2.frozen? ⟨b, o + 1, none⟩ = false := (hbel.frozen (p := ⟨b, o + 1, none⟩) (by exact hlt0)).trans g1
      have x2 : w2.cell? ⟨b, o, none⟩ = some (.slice none 0 0) := (hbel.cell (p := ⟨b, o, none⟩) (by exact hlt0)).trans d0
      have x3 : w2.cell? ⟨b, o + 1, none⟩ = some (.int .i64 0) := (hbel.cell (p := ⟨b, o + 1, none⟩) (by exact hlt0)).trans d1
      have HN := Lib.hid hN
      have HC := Lib.hid hcsz
      have HB := Lib.hid hbel
      clear hN hcsz hbel)
  all_goals (
    clear d0 d1 g0 g1
    go_wp2_with fail
    go_ret)
  all_goals exact grew_end (l := 0) (m := n) (bs := []) (n := n) rfl (Nat.zero_add n) rfl HW.out H3.out HN.out HC.out rfl (by omega) hcm2 (show Kp W1 w2 from ⟨HB.out.os, HB.out.tape, HB.out.output, HB.out.size, HB.out.block⟩)

set_option maxRecDepth 100000 in
set_option maxHeartbeats 8000000 in
theorem grow_row (T : TypeId) (R : Nat → Option Value) (b o n g cap l : Nat) (lr : Int) (cur : Array Value) (bs : List Int) (w : World) (h : LibA.Three w b o T R (.slice (some ⟨g, 0, none⟩) l cap) (.int .i64 0) (.int .i8 lr)) (hl : bs.length = l) (hg : w.heap[g]? = some (.cells cur 5 (0, 0)))
    (hlc : l ≤ cap) (hcs : cur.size = cap) (htk : cur.toList.take l = bs.map (Value.int .u8)) (hgb : g ≠ b) (hl0 : 0 < l) (hn : cap < l + n) (hm : l + n ≤ 1099511627776) :
    Calls Tryd.prog 82 #[.pointer (some ⟨b, o, none⟩), .int .i64 n] w (Grew T R b o bs n w) := by
  have c0 : w.cell? ⟨b, o, none⟩ = some (.slice (some ⟨g, 0, none⟩) l cap) := h.c0
  have c1 : w.cell? ⟨b, o + 1, none⟩ = some (.int .i64 0) := h.c1
  have f0 : w.frozen? ⟨b, o, none⟩ = false := h.f o
  have f1 : w.frozen? ⟨b, o + 1, none⟩ = false := h.f (o + 1)
  have IS := Lib.hid (show LibA.IsBuffer T R 5 0 b o (bs.map (Value.int .u8)) w from (BufP.is (row := some g) ⟨_, lr, by rw [hl]; exact h, .inr ⟨g, cap, cur, rfl, hgb, rfl, by omega, hg, by omega, by unfold maxLen; omega, hcs, by rw [hl]; exact htk⟩⟩))
  have H3 := Lib.hid h
  have TG := Lib.hid (fun W (c : W.cell? ⟨b, o, none⟩ = some (.slice (some ⟨g, 0, none⟩) l cap)) => Tryd.Buffer_tryGrow_none_at b o (some ⟨g, 0, none⟩) l cap n W c hlc (by unfold maxLen; omega) (by omega))
  have GS := Lib.hid (fun W (hW : W.heap[g]? = some (.cells cur 5 (0, 0))) => Tryd.bytes_growSlice_row g l cap n cur W hW hcs hlc (by omega) (by omega) (by omega) (by rw [htk]; exact oneInts bs))
  have HL := Lib.hid hl
  have HG := Lib.hid hg
  have HT := Lib.hid htk
  have EN := eqlNil
  have i0 : (0 : Int) < (n : Int) := by omega
  have i1 : (l : Int) + (n : Int) ≤ 1099511627776 := by omega
  have i2 : (0 : Int) < (l : Int) := by omega
  have i3 : (l : Int) ≤ (cap : Int) := by omega
  have i4 : (cap : Int) < (l : Int) + (n : Int) := by omega
  have e0 : ((l : Int) == 0) = false := by simp; omega
  have hwn : IntKind.i64.wrap (n : Int) = n := IntWalk.i64_in _ (by omega)
  have e1 : ((l : Int) + (n : Int)).toNat = l + n := by omega
  have hlt := h.lt
  clear h hl hg htk hn hm hlc
  go_enter Tryd.func82, Tryd.ntmps82
  go_wp2_with fail
  refine (Tryd.Buffer_Len_at T R 0 b o _ _ IS.out).mono ?_
  rintro e W0 ⟨rfl, k, hW⟩
  rw [List.length_map, HL.out]
  have d0 : W0.cell? ⟨b, o, none⟩ = some (.slice (some ⟨g, 0, none⟩) l cap) := by rw [hW]; exact c0
  have d1 : W0.cell? ⟨b, o + 1, none⟩ = some (.int .i64 0) := by rw [hW]; exact c1
  have g0 : W0.frozen? ⟨b, o, none⟩ = false := by rw [hW]; exact f0
  have g1 : W0.frozen? ⟨b, o + 1, none⟩ = false := by rw [hW]; exact f1
  have hlt0 : b < W0.heap.size := by rw [hW]; exact hlt
  have HG0 := Lib.hid (show W0.heap[g]? = some (.cells cur 5 (0, 0)) from by rw [hW]; exact HG.out)
  have HW := Lib.hid hW
  clear hW c0 c1 f0 f1 hlt
  go_wp2_with fail
  refine (TG.out _ d0).mono ?_
  rintro e W1 ⟨rfl, rfl⟩
  go_wp2_with fail
  go_region_with (
      go_at_call 86
      refine (GS.out _ ?_).mono ?_
      exact HG0.out
      rintro e w2 ⟨cap2, cells, rfl, hN, hcsz, htk2, hcap2, hcm2, hbel⟩
      have x0 : w2.frozen? ⟨b, o, none⟩ = false := (hbel.frozen (p := ⟨b, o, none⟩) (by exact hlt0)).trans g0
      have x1 : w2.frozen? ⟨b, o + 1, none⟩ = false := (hbel.frozen (p := ⟨b, o + 1, none⟩) (by exact hlt0)).trans g1
      have x2 : w2.cell? ⟨b, o, none⟩ = some (.slice (some ⟨g, 0, none⟩) l cap) := (hbel.cell (p := ⟨b, o, none⟩) (by exact hlt0)).trans d0
      have x3 : w2.cell? ⟨b, o + 1, none⟩ = some (.int .i64 0) := (hbel.cell (p := ⟨b, o + 1, none⟩) (by exact hlt0)).trans d1
      have HN := Lib.hid hN
      have HC := Lib.hid hcsz
      have HT2 := Lib.hid htk2
      have HB := Lib.hid hbel
      clear hN hcsz htk2 hbel)
  all_goals (
    clear d0 d1 g0 g1
    go_wp2_with fail
    go_ret)
  all_goals exact grew_end (l := l) (m := l + n) (bs := bs) (n := n) HL.out rfl rfl HW.out H3.out HN.out HC.out (HT2.out.trans HT.out) hcap2 hcm2 (show Kp W1 w2 from ⟨HB.out.os, HB.out.tape, HB.out.output, HB.out.size, HB.out.block⟩)
end Go.Proofs.YtacmnibhdmeidaaDoor
