/-
  impl.got and impl.SessionGet at a number that is torn.
-/
import Derived.Test.YtgjfejalinkohaaDoorSes29
namespace Go.Proofs.YtgjfejalinkohaaDoor
open Go Go.RowKit

set_option maxRecDepth 100000 in
set_option maxHeartbeats 16000000 in
theorem got_torn (g : Nat) (p : Option Addr) (n c : Nat) (xs : List Int) (big : Bool) (i kd sz : Nat) (bg cm : Bool) (w : World) (tp : TypeId) (a : Addr) (h : RS w g p n c xs big i) (he : EndAt w tp a) (hk : kd = 4 ∨ kd = 5) (ht : TornI sz cm (xs.drop i)) :
    Calls Tryd.prog 35 #[.pointer (some ⟨g, 0, none⟩), .agg #[.int .i64 (kd : Int), .int .i64 (sz : Int), .bool bg, .bool cm]] w fun e w' => ∃ j, e = .returned (.agg #[.bool false, .slice none 0 0, .slice none 0 0, .int .i64 0, .string { data := #[] }]) ∧ RS w' g p n c xs big j ∧ w.grownBy w' (some g) := by
  have hlt := h.blk.lt
  have H := Lib.hid h
  have HT := Lib.hid ht
  have HE0' := Lib.hid he
  have i0 : (0 : Int) ≤ (sz : Int) := by omega
  clear h ht he
  go_enter Tryd.func35, Tryd.ntmps35
  go_upto_block 0 with (fail)
  generalize hW : ((w.alloc (.cells #[.int .i64 (kd : Int), .int .i64 (sz : Int), .bool bg, .bool cm] 33)).alloc (.cells #[.bool false, .slice none 0 0, .slice none 0 0, .int .i64 0, .string { data := #[] }] 39)).alloc (.cells #[.bool false, .slice none 0 0, .slice none 0 0, .int .i64 0, .string { data := #[] }] 39) = W
  obtain ⟨G, hG⟩ : ∃ G, G = w.heap.size + 1 + 1 := ⟨_, rfl⟩
  obtain ⟨Rb, hRb⟩ : ∃ Rb, Rb = w.heap.size + 1 := ⟨_, rfl⟩
  obtain ⟨Sb, hSb⟩ : ∃ Sb, Sb = w.heap.size := ⟨_, rfl⟩
  have HX := Lib.hid (show Blk W Sb 33 #[.int .i64 (kd : Int), .int .i64 (sz : Int), .bool bg, .bool cm] from by rw [hSb, ← hW]; exact ((Blk.new w _ _).alloc _).alloc _)
  have HPre := Lib.hid (show Pre w W g G Rb from ⟨hlt, by omega, by omega, by omega,
    by rw [hG, ← hW]; have := Blk.new2 (w.alloc (.cells #[.int .i64 (kd : Int), .int .i64 (sz : Int), .bool bg, .bool cm] 33)) (.cells #[.bool false, .slice none 0 0, .slice none 0 0, .int .i64 0, .string { data := #[] }] 39) 39 #[.bool false, .slice none 0 0, .slice none 0 0, .int .i64 0, .string { data := #[] }]; rw [World.size_alloc] at this; exact this,
    by rw [hRb, ← hW]; exact (Blk.new2 w _ _ _).alloc _,
    by rw [← hW]; exact (((Kp.refl w).alloc _).alloc _).alloc _⟩)
  have HRS := Lib.hid (H.out.kp HPre.out.kp)
  have HE := Lib.hid (HE0'.out.kp HPre.out.kp)
  have hSG : Sb ≠ g := by omega
  have HSG := Lib.hid hSG
  rw [← hG, ← hRb, ← hSb]
  clear hW hG hRb hSb hSG
  have x1 : W.cell? ⟨Sb, 1, none⟩ = some (.int .i64 (sz : Int)) := HX.out.cell 1
  have x2 : W.cell? ⟨Sb, 2, none⟩ = some (.bool bg) := HX.out.cell 2
  have x3 : W.cell? ⟨Sb, 3, none⟩ = some (.bool cm) := HX.out.cell 3
  cases cm
  · have j0 : (0 : Int) < (sz : Int) := by have := HT.out.1; omega
    have j1 : (sz : Int) ≤ 8 := by have := HT.out.2.1; omega
    rcases hk with hk | hk
    · have e : (kd : Int) = 4 := by omega
      clear hk
      have x0 : W.cell? ⟨Sb, 0, none⟩ = some (.int .i64 (kd : Int)) := HX.out.cell 0
      go_wp2_with fail
      refine (getInt64_torn g p n c xs big false bg i sz W tp a HRS.out HE.out HT.out).mono ?_
      rintro e w1 ⟨j, rfl, hR, hg1⟩
      have HR := Lib.hid hR
      have HG1 := Lib.hid (hg1)
      have y3 : w1.cell? ⟨G, 3, none⟩ = some (.int .i64 0) := (HPre.out.on HG1.out).1.cell 3
      have f3 : w1.frozen? ⟨G, 3, none⟩ = false := (HPre.out.on HG1.out).1.frozen 3
      have r0 : w1.cell? ⟨Rb, 0, none⟩ = some (.bool false) := (HPre.out.on HG1.out).2.1.cell 0
      have fr0 : w1.frozen? ⟨Rb, 0, none⟩ = false := (HPre.out.on HG1.out).2.1.frozen 0
      have r1 : w1.cell? ⟨Rb, 1, none⟩ = some (.slice none 0 0) := (HPre.out.on HG1.out).2.1.cell 1
      have fr1 : w1.frozen? ⟨Rb, 1, none⟩ = false := (HPre.out.on HG1.out).2.1.frozen 1
      have r2 : w1.cell? ⟨Rb, 2, none⟩ = some (.slice none 0 0) := (HPre.out.on HG1.out).2.1.cell 2
      have fr2 : w1.frozen? ⟨Rb, 2, none⟩ = false := (HPre.out.on HG1.out).2.1.frozen 2
      have r3 : w1.cell? ⟨Rb, 3, none⟩ = some (.int .i64 0) := (HPre.out.on HG1.out).2.1.cell 3
      have fr3 : w1.frozen? ⟨Rb, 3, none⟩ = false := (HPre.out.on HG1.out).2.1.frozen 3
      have r4 : w1.cell? ⟨Rb, 4, none⟩ = some (.string { data := #[] }) := (HPre.out.on HG1.out).2.1.cell 4
      have fr4 : w1.frozen? ⟨Rb, 4, none⟩ = false := (HPre.out.on HG1.out).2.1.frozen 4
      have ne1 : Rb ≠ G := HPre.out.ne
      have ne2 : G ≠ Rb := fun e => HPre.out.ne e.symm
      clear hR hg1 x0 x1 x2 x3
      have HBZ := Lib.hid (show Blk ((((((w1.setCell ⟨G, 3, none⟩ (.int .i64 0)).setCell ⟨Rb, 0, none⟩ (.bool false)).setCell ⟨Rb, 1, none⟩ (.slice none 0 0)).setCell ⟨Rb, 2, none⟩ (.slice none 0 0)).setCell ⟨Rb, 3, none⟩ (.int .i64 0)).setCell ⟨Rb, 4, none⟩ (.string { data := #[] })) Rb 39 #[.bool false, .slice none 0 0, .slice none 0 0, .int .i64 0, .string { data := #[] }] from by
        have b1 : Blk (w1.setCell ⟨G, 3, none⟩ (.int .i64 0)) Rb 39 #[.bool false, .slice none 0 0, .slice none 0 0, .int .i64 0, .string { data := #[] }] := (Below.heap_setCell _ ⟨G, 3, none⟩ _ _ HPre.out.ne).trans (HPre.out.on HG1.out).2.1
        have := ((((b1.set_ 0 (.bool false)).set_ 1 (.slice none 0 0)).set_ 2 (.slice none 0 0)).set_ 3 (.int .i64 0)).set_ 4 (.string { data := #[] })
        simpa using this)
      have HRZ := Lib.hid (show RS ((((((w1.setCell ⟨G, 3, none⟩ (.int .i64 0)).setCell ⟨Rb, 0, none⟩ (.bool false)).setCell ⟨Rb, 1, none⟩ (.slice none 0 0)).setCell ⟨Rb, 2, none⟩ (.slice none 0 0)).setCell ⟨Rb, 3, none⟩ (.int .i64 0)).setCell ⟨Rb, 4, none⟩ (.string { data := #[] })) g p n c xs big j from (((((HR.out.grown (Lib.grownBy_setCell _ G 3 _) (by have := HPre.out.gw; have := HPre.out.hG; omega)).grown (Lib.grownBy_setCell _ Rb 0 _) (by have := HPre.out.gw; have := HPre.out.hR; omega)).grown (Lib.grownBy_setCell _ Rb 1 _) (by have := HPre.out.gw; have := HPre.out.hR; omega)).grown (Lib.grownBy_setCell _ Rb 2 _) (by have := HPre.out.gw; have := HPre.out.hR; omega)).grown (Lib.grownBy_setCell _ Rb 3 _) (by have := HPre.out.gw; have := HPre.out.hR; omega)).grown (Lib.grownBy_setCell _ Rb 4 _) (by have := HPre.out.gw; have := HPre.out.hR; omega))
      have HGZ := Lib.hid (show w.grownBy ((((((w1.setCell ⟨G, 3, none⟩ (.int .i64 0)).setCell ⟨Rb, 0, none⟩ (.bool false)).setCell ⟨Rb, 1, none⟩ (.slice none 0 0)).setCell ⟨Rb, 2, none⟩ (.slice none 0 0)).setCell ⟨Rb, 3, none⟩ (.int .i64 0)).setCell ⟨Rb, 4, none⟩ (.string { data := #[] })) (some g) from grown_set (grown_set (grown_set (grown_set (grown_set (grown_set (HPre.out.on HG1.out).2.2 (by exact HPre.out.hG) _) (by exact HPre.out.hR) _) (by exact HPre.out.hR) _) (by exact HPre.out.hR) _) (by exact HPre.out.hR) _) (by exact HPre.out.hR) _)
      go_wp2_with fail
      generalize (((((w1.setCell ⟨G, 3, none⟩ (.int .i64 0)).setCell ⟨Rb, 0, none⟩ (.bool false)).setCell ⟨Rb, 1, none⟩ (.slice none 0 0)).setCell ⟨Rb, 2, none⟩ (.slice none 0 0)).setCell ⟨Rb, 3, none⟩ (.int .i64 0)).setCell ⟨Rb, 4, none⟩ (.string { data := #[] }) = Z at HBZ HRZ HGZ ⊢
      have s0 : Z.cell? ⟨Rb, 0, none⟩ = some (.bool false) := HBZ.out.cell 0
      have s1 : Z.cell? ⟨Rb, 1, none⟩ = some (.slice none 0 0) := HBZ.out.cell 1
      have s2 : Z.cell? ⟨Rb, 2, none⟩ = some (.slice none 0 0) := HBZ.out.cell 2
      have s3 : Z.cell? ⟨Rb, 3, none⟩ = some (.int .i64 0) := HBZ.out.cell 3
      have s4 : Z.cell? ⟨Rb, 4, none⟩ = some (.string { data := #[] }) := HBZ.out.cell 4
      exact bodyPost_ret (v := .agg #[.bool false, .slice none 0 0, .slice none 0 0, .int .i64 0, .string { data := #[] }]) (by simp [results, Tryd.results35, go_sem, s0, s1, s2, s3, s4]) rfl ⟨j, rfl, HRZ.out, HGZ.out⟩
    · have e : (kd : Int) = 5 := by omega
      clear hk
      have x0 : W.cell? ⟨Sb, 0, none⟩ = some (.int .i64 (kd : Int)) := HX.out.cell 0
      go_wp2_with fail
      refine (getInt_torn g p n c xs big false bg i sz W tp a HRS.out HE.out HT.out).mono ?_
      rintro e w1 ⟨j, rfl, hR, hg1⟩
      have HR := Lib.hid hR
      have HG1 := Lib.hid (hg1)
      have y3 : w1.cell? ⟨G, 3, none⟩ = some (.int .i64 0) := (HPre.out.on HG1.out).1.cell 3
      have f3 : w1.frozen? ⟨G, 3, none⟩ = false := (HPre.out.on HG1.out).1.frozen 3
      have r0 : w1.cell? ⟨Rb, 0, none⟩ = some (.bool false) := (HPre.out.on HG1.out).2.1.cell 0
      have fr0 : w1.frozen? ⟨Rb, 0, none⟩ = false := (HPre.out.on HG1.out).2.1.frozen 0
      have r1 : w1.cell? ⟨Rb, 1, none⟩ = some (.slice none 0 0) := (HPre.out.on HG1.out).2.1.cell 1
      have fr1 : w1.frozen? ⟨Rb, 1, none⟩ = false := (HPre.out.on HG1.out).2.1.frozen 1
      have r2 : w1.cell? ⟨Rb, 2, none⟩ = some (.slice none 0 0) := (HPre.out.on HG1.out).2.1.cell 2
      have fr2 : w1.frozen? ⟨Rb, 2, none⟩ = false := (HPre.out.on HG1.out).2.1.frozen 2
      have r3 : w1.cell? ⟨Rb, 3, none⟩ = some (.int .i64 0) := (HPre.out.on HG1.out).2.1.cell 3
      have fr3 : w1.frozen? ⟨Rb, 3, none⟩ = false := (HPre.out.on HG1.out).2.1.frozen 3
      have r4 : w1.cell? ⟨Rb, 4, none⟩ = some (.string { data := #[] }) := (HPre.out.on HG1.out).2.1.cell 4
      have fr4 : w1.frozen? ⟨Rb, 4, none⟩ = false := (HPre.out.on HG1.out).2.1.frozen 4
      have ne1 : Rb ≠ G := HPre.out.ne
      have ne2 : G ≠ Rb := fun e => HPre.out.ne e.symm
      clear hR hg1 x0 x1 x2 x3
      have HBZ := Lib.hid (show Blk ((((((w1.setCell ⟨G, 3, none⟩ (.int .i64 0)).setCell ⟨Rb, 0, none⟩ (.bool false)).setCell ⟨Rb, 1, none⟩ (.slice none 0 0)).setCell ⟨Rb, 2, none⟩ (.slice none 0 0)).setCell ⟨Rb, 3, none⟩ (.int .i64 0)).setCell ⟨Rb, 4, none⟩ (.string { data := #[] })) Rb 39 #[.bool false, .slice none 0 0, .slice none 0 0, .int .i64 0, .string { data := #[] }] from by
        have b1 : Blk (w1.setCell ⟨G, 3, none⟩ (.int .i64 0)) Rb 39 #[.bool false, .slice none 0 0, .slice none 0 0, .int .i64 0, .string { data := #[] }] := (Below.heap_setCell _ ⟨G, 3, none⟩ _ _ HPre.out.ne).trans (HPre.out.on HG1.out).2.1
        have := ((((b1.set_ 0 (.bool false)).set_ 1 (.slice none 0 0)).set_ 2 (.slice none 0 0)).set_ 3 (.int .i64 0)).set_ 4 (.string { data := #[] })
        simpa using this)
      have HRZ := Lib.hid (show RS ((((((w1.setCell ⟨G, 3, none⟩ (.int .i64 0)).setCell ⟨Rb, 0, none⟩ (.bool false)).setCell ⟨Rb, 1, none⟩ (.slice none 0 0)).setCell ⟨Rb, 2, none⟩ (.slice none 0 0)).setCell ⟨Rb, 3, none⟩ (.int .i64 0)).setCell ⟨Rb, 4, none⟩ (.string { data := #[] })) g p n c xs big j from (((((HR.out.grown (Lib.grownBy_setCell _ G 3 _) (by have := HPre.out.gw; have := HPre.out.hG; omega)).grown (Lib.grownBy_setCell _ Rb 0 _) (by have := HPre.out.gw; have := HPre.out.hR; omega)).grown (Lib.grownBy_setCell _ Rb 1 _) (by have := HPre.out.gw; have := HPre.out.hR; omega)).grown (Lib.grownBy_setCell _ Rb 2 _) (by have := HPre.out.gw; have := HPre.out.hR; omega)).grown (Lib.grownBy_setCell _ Rb 3 _) (by have := HPre.out.gw; have := HPre.out.hR; omega)).grown (Lib.grownBy_setCell _ Rb 4 _) (by have := HPre.out.gw; have := HPre.out.hR; omega))
      have HGZ := Lib.hid (show w.grownBy ((((((w1.setCell ⟨G, 3, none⟩ (.int .i64 0)).setCell ⟨Rb, 0, none⟩ (.bool false)).setCell ⟨Rb, 1, none⟩ (.slice none 0 0)).setCell ⟨Rb, 2, none⟩ (.slice none 0 0)).setCell ⟨Rb, 3, none⟩ (.int .i64 0)).setCell ⟨Rb, 4, none⟩ (.string { data := #[] })) (some g) from grown_set (grown_set (grown_set (grown_set (grown_set (grown_set (HPre.out.on HG1.out).2.2 (by exact HPre.out.hG) _) (by exact HPre.out.hR) _) (by exact HPre.out.hR) _) (by exact HPre.out.hR) _) (by exact HPre.out.hR) _) (by exact HPre.out.hR) _)
      go_wp2_with fail
      generalize (((((w1.setCell ⟨G, 3, none⟩ (.int .i64 0)).setCell ⟨Rb, 0, none⟩ (.bool false)).setCell ⟨Rb, 1, none⟩ (.slice none 0 0)).setCell ⟨Rb, 2, none⟩ (.slice none 0 0)).setCell ⟨Rb, 3, none⟩ (.int .i64 0)).setCell ⟨Rb, 4, none⟩ (.string { data := #[] }) = Z at HBZ HRZ HGZ ⊢
      have s0 : Z.cell? ⟨Rb, 0, none⟩ = some (.bool false) := HBZ.out.cell 0
      have s1 : Z.cell? ⟨Rb, 1, none⟩ = some (.slice none 0 0) := HBZ.out.cell 1
      have s2 : Z.cell? ⟨Rb, 2, none⟩ = some (.slice none 0 0) := HBZ.out.cell 2
      have s3 : Z.cell? ⟨Rb, 3, none⟩ = some (.int .i64 0) := HBZ.out.cell 3
      have s4 : Z.cell? ⟨Rb, 4, none⟩ = some (.string { data := #[] }) := HBZ.out.cell 4
      exact bodyPost_ret (v := .agg #[.bool false, .slice none 0 0, .slice none 0 0, .int .i64 0, .string { data := #[] }]) (by simp [results, Tryd.results35, go_sem, s0, s1, s2, s3, s4]) rfl ⟨j, rfl, HRZ.out, HGZ.out⟩
  · obtain ⟨b, t, hbt, hb8, _⟩ := HT.out
    have HBT := Lib.hid hbt
    have HB8 := Lib.hid hb8
    clear hbt hb8
    rcases hk with hk | hk
    · have e : (kd : Int) = 4 := by omega
      clear hk
      go_wp2_with fail
      refine (long_no g p n c xs big i b t W HRS.out HBT.out HB8.out).mono ?_
      rintro e w0 ⟨rfl, hR0, hg0⟩
      have HR0 := Lib.hid hR0
      have HG0 := Lib.hid hg0
      have HE0 := Lib.hid (HE.out.grown HRS.out hg0)
      have HXX := Lib.hid (HX.out.grown hg0 (fun e => HSG.out (by injection e)))
      have x0 : w0.cell? ⟨Sb, 0, none⟩ = some (.int .i64 (kd : Int)) := HXX.out.cell 0
      have x1 : w0.cell? ⟨Sb, 1, none⟩ = some (.int .i64 (sz : Int)) := HXX.out.cell 1
      have x2 : w0.cell? ⟨Sb, 2, none⟩ = some (.bool bg) := HXX.out.cell 2
      have x3 : w0.cell? ⟨Sb, 3, none⟩ = some (.bool true) := HXX.out.cell 3
      clear hR0 hg0
      go_wp2_with fail
      refine (getInt64_torn g p n c xs big true bg i sz w0 tp a HR0.out HE0.out HT.out).mono ?_
      rintro e w1 ⟨j, rfl, hR, hg1⟩
      have HR := Lib.hid hR
      have HG1 := Lib.hid (grown_trans HG0.out hg1)
      have y3 : w1.cell? ⟨G, 3, none⟩ = some (.int .i64 0) := (HPre.out.on HG1.out).1.cell 3
      have f3 : w1.frozen? ⟨G, 3, none⟩ = false := (HPre.out.on HG1.out).1.frozen 3
      have r0 : w1.cell? ⟨Rb, 0, none⟩ = some (.bool false) := (HPre.out.on HG1.out).2.1.cell 0
      have fr0 : w1.frozen? ⟨Rb, 0, none⟩ = false := (HPre.out.on HG1.out).2.1.frozen 0
      have r1 : w1.cell? ⟨Rb, 1, none⟩ = some (.slice none 0 0) := (HPre.out.on HG1.out).2.1.cell 1
      have fr1 : w1.frozen? ⟨Rb, 1, none⟩ = false := (HPre.out.on HG1.out).2.1.frozen 1
      have r2 : w1.cell? ⟨Rb, 2, none⟩ = some (.slice none 0 0) := (HPre.out.on HG1.out).2.1.cell 2
      have fr2 : w1.frozen? ⟨Rb, 2, none⟩ = false := (HPre.out.on HG1.out).2.1.frozen 2
      have r3 : w1.cell? ⟨Rb, 3, none⟩ = some (.int .i64 0) := (HPre.out.on HG1.out).2.1.cell 3
      have fr3 : w1.frozen? ⟨Rb, 3, none⟩ = false := (HPre.out.on HG1.out).2.1.frozen 3
      have r4 : w1.cell? ⟨Rb, 4, none⟩ = some (.string { data := #[] }) := (HPre.out.on HG1.out).2.1.cell 4
      have fr4 : w1.frozen? ⟨Rb, 4, none⟩ = false := (HPre.out.on HG1.out).2.1.frozen 4
      have ne1 : Rb ≠ G := HPre.out.ne
      have ne2 : G ≠ Rb := fun e => HPre.out.ne e.symm
      clear hR hg1 x0 x1 x2 x3
      have HBZ := Lib.hid (show Blk ((((((w1.setCell ⟨G, 3, none⟩ (.int .i64 0)).setCell ⟨Rb, 0, none⟩ (.bool false)).setCell ⟨Rb, 1, none⟩ (.slice none 0 0)).setCell ⟨Rb, 2, none⟩ (.slice none 0 0)).setCell ⟨Rb, 3, none⟩ (.int .i64 0)).setCell ⟨Rb, 4, none⟩ (.string { data := #[] })) Rb 39 #[.bool false, .slice none 0 0, .slice none 0 0, .int .i64 0, .string { data := #[] }] from by
        have b1 : Blk (w1.setCell ⟨G, 3, none⟩ (.int .i64 0)) Rb 39 #[.bool false, .slice none 0 0, .slice none 0 0, .int .i64 0, .string { data := #[] }] := (Below.heap_setCell _ ⟨G, 3, none⟩ _ _ HPre.out.ne).trans (HPre.out.on HG1.out).2.1
        have := ((((b1.set_ 0 (.bool false)).set_ 1 (.slice none 0 0)).set_ 2 (.slice none 0 0)).set_ 3 (.int .i64 0)).set_ 4 (.string { data := #[] })
        simpa using this)
      have HRZ := Lib.hid (show RS ((((((w1.setCell ⟨G, 3, none⟩ (.int .i64 0)).setCell ⟨Rb, 0, none⟩ (.bool false)).setCell ⟨Rb, 1, none⟩ (.slice none 0 0)).setCell ⟨Rb, 2, none⟩ (.slice none 0 0)).setCell ⟨Rb, 3, none⟩ (.int .i64 0)).setCell ⟨Rb, 4, none⟩ (.string { data := #[] })) g p n c xs big j from (((((HR.out.grown (Lib.grownBy_setCell _ G 3 _) (by have := HPre.out.gw; have := HPre.out.hG; omega)).grown (Lib.grownBy_setCell _ Rb 0 _) (by have := HPre.out.gw; have := HPre.out.hR; omega)).grown (Lib.grownBy_setCell _ Rb 1 _) (by have := HPre.out.gw; have := HPre.out.hR; omega)).grown (Lib.grownBy_setCell _ Rb 2 _) (by have := HPre.out.gw; have := HPre.out.hR; omega)).grown (Lib.grownBy_setCell _ Rb 3 _) (by have := HPre.out.gw; have := HPre.out.hR; omega)).grown (Lib.grownBy_setCell _ Rb 4 _) (by have := HPre.out.gw; have := HPre.out.hR; omega))
      have HGZ := Lib.hid (show w.grownBy ((((((w1.setCell ⟨G, 3, none⟩ (.int .i64 0)).setCell ⟨Rb, 0, none⟩ (.bool false)).setCell ⟨Rb, 1, none⟩ (.slice none 0 0)).setCell ⟨Rb, 2, none⟩ (.slice none 0 0)).setCell ⟨Rb, 3, none⟩ (.int .i64 0)).setCell ⟨Rb, 4, none⟩ (.string { data := #[] })) (some g) from grown_set (grown_set (grown_set (grown_set (grown_set (grown_set (HPre.out.on HG1.out).2.2 (by exact HPre.out.hG) _) (by exact HPre.out.hR) _) (by exact HPre.out.hR) _) (by exact HPre.out.hR) _) (by exact HPre.out.hR) _) (by exact HPre.out.hR) _)
      go_wp2_with fail
      generalize (((((w1.setCell ⟨G, 3, none⟩ (.int .i64 0)).setCell ⟨Rb, 0, none⟩ (.bool false)).setCell ⟨Rb, 1, none⟩ (.slice none 0 0)).setCell ⟨Rb, 2, none⟩ (.slice none 0 0)).setCell ⟨Rb, 3, none⟩ (.int .i64 0)).setCell ⟨Rb, 4, none⟩ (.string { data := #[] }) = Z at HBZ HRZ HGZ ⊢
      have s0 : Z.cell? ⟨Rb, 0, none⟩ = some (.bool false) := HBZ.out.cell 0
      have s1 : Z.cell? ⟨Rb, 1, none⟩ = some (.slice none 0 0) := HBZ.out.cell 1
      have s2 : Z.cell? ⟨Rb, 2, none⟩ = some (.slice none 0 0) := HBZ.out.cell 2
      have s3 : Z.cell? ⟨Rb, 3, none⟩ = some (.int .i64 0) := HBZ.out.cell 3
      have s4 : Z.cell? ⟨Rb, 4, none⟩ = some (.string { data := #[] }) := HBZ.out.cell 4
      exact bodyPost_ret (v := .agg #[.bool false, .slice none 0 0, .slice none 0 0, .int .i64 0, .string { data := #[] }]) (by simp [results, Tryd.results35, go_sem, s0, s1, s2, s3, s4]) rfl ⟨j, rfl, HRZ.out, HGZ.out⟩
    · have e : (kd : Int) = 5 := by omega
      clear hk
      go_wp2_with fail
      refine (long_no g p n c xs big i b t W HRS.out HBT.out HB8.out).mono ?_
      rintro e w0 ⟨rfl, hR0, hg0⟩
      have HR0 := Lib.hid hR0
      have HG0 := Lib.hid hg0
      have HE0 := Lib.hid (HE.out.grown HRS.out hg0)
      have HXX := Lib.hid (HX.out.grown hg0 (fun e => HSG.out (by injection e)))
      have x0 : w0.cell? ⟨Sb, 0, none⟩ = some (.int .i64 (kd : Int)) := HXX.out.cell 0
      have x1 : w0.cell? ⟨Sb, 1, none⟩ = some (.int .i64 (sz : Int)) := HXX.out.cell 1
      have x2 : w0.cell? ⟨Sb, 2, none⟩ = some (.bool bg) := HXX.out.cell 2
      have x3 : w0.cell? ⟨Sb, 3, none⟩ = some (.bool true) := HXX.out.cell 3
      clear hR0 hg0
      go_wp2_with fail
      refine (getInt_torn g p n c xs big true bg i sz w0 tp a HR0.out HE0.out HT.out).mono ?_
      rintro e w1 ⟨j, rfl, hR, hg1⟩
      have HR := Lib.hid hR
      have HG1 := Lib.hid (grown_trans HG0.out hg1)
      have y3 : w1.cell? ⟨G, 3, none⟩ = some (.int .i64 0) := (HPre.out.on HG1.out).1.cell 3
      have f3 : w1.frozen? ⟨G, 3, none⟩ = false := (HPre.out.on HG1.out).1.frozen 3
      have r0 : w1.cell? ⟨Rb, 0, none⟩ = some (.bool false) := (HPre.out.on HG1.out).2.1.cell 0
      have fr0 : w1.frozen? ⟨Rb, 0, none⟩ = false := (HPre.out.on HG1.out).2.1.frozen 0
      have r1 : w1.cell? ⟨Rb, 1, none⟩ = some (.slice none 0 0) := (HPre.out.on HG1.out).2.1.cell 1
      have fr1 : w1.frozen? ⟨Rb, 1, none⟩ = false := (HPre.out.on HG1.out).2.1.frozen 1
      have r2 : w1.cell? ⟨Rb, 2, none⟩ = some (.slice none 0 0) := (HPre.out.on HG1.out).2.1.cell 2
      have fr2 : w1.frozen? ⟨Rb, 2, none⟩ = false := (HPre.out.on HG1.out).2.1.frozen 2
      have r3 : w1.cell? ⟨Rb, 3, none⟩ = some (.int .i64 0) := (HPre.out.on HG1.out).2.1.cell 3
      have fr3 : w1.frozen? ⟨Rb, 3, none⟩ = false := (HPre.out.on HG1.out).2.1.frozen 3
      have r4 : w1.cell? ⟨Rb, 4, none⟩ = some (.string { data := #[] }) := (HPre.out.on HG1.out).2.1.cell 4
      have fr4 : w1.frozen? ⟨Rb, 4, none⟩ = false := (HPre.out.on HG1.out).2.1.frozen 4
      have ne1 : Rb ≠ G := HPre.out.ne
      have ne2 : G ≠ Rb := fun e => HPre.out.ne e.symm
      clear hR hg1 x0 x1 x2 x3
      have HBZ := Lib.hid (show Blk ((((((w1.setCell ⟨G, 3, none⟩ (.int .i64 0)).setCell ⟨Rb, 0, none⟩ (.bool false)).setCell ⟨Rb, 1, none⟩ (.slice none 0 0)).setCell ⟨Rb, 2, none⟩ (.slice none 0 0)).setCell ⟨Rb, 3, none⟩ (.int .i64 0)).setCell ⟨Rb, 4, none⟩ (.string { data := #[] })) Rb 39 #[.bool false, .slice none 0 0, .slice none 0 0, .int .i64 0, .string { data := #[] }] from by
        have b1 : Blk (w1.setCell ⟨G, 3, none⟩ (.int .i64 0)) Rb 39 #[.bool false, .slice none 0 0, .slice none 0 0, .int .i64 0, .string { data := #[] }] := (Below.heap_setCell _ ⟨G, 3, none⟩ _ _ HPre.out.ne).trans (HPre.out.on HG1.out).2.1
        have := ((((b1.set_ 0 (.bool false)).set_ 1 (.slice none 0 0)).set_ 2 (.slice none 0 0)).set_ 3 (.int .i64 0)).set_ 4 (.string { data := #[] })
        simpa using this)
      have HRZ := Lib.hid (show RS ((((((w1.setCell ⟨G, 3, none⟩ (.int .i64 0)).setCell ⟨Rb, 0, none⟩ (.bool false)).setCell ⟨Rb, 1, none⟩ (.slice none 0 0)).setCell ⟨Rb, 2, none⟩ (.slice none 0 0)).setCell ⟨Rb, 3, none⟩ (.int .i64 0)).setCell ⟨Rb, 4, none⟩ (.string { data := #[] })) g p n c xs big j from (((((HR.out.grown (Lib.grownBy_setCell _ G 3 _) (by have := HPre.out.gw; have := HPre.out.hG; omega)).grown (Lib.grownBy_setCell _ Rb 0 _) (by have := HPre.out.gw; have := HPre.out.hR; omega)).grown (Lib.grownBy_setCell _ Rb 1 _) (by have := HPre.out.gw; have := HPre.out.hR; omega)).grown (Lib.grownBy_setCell _ Rb 2 _) (by have := HPre.out.gw; have := HPre.out.hR; omega)).grown (Lib.grownBy_setCell _ Rb 3 _) (by have := HPre.out.gw; have := HPre.out.hR; omega)).grown (Lib.grownBy_setCell _ Rb 4 _) (by have := HPre.out.gw; have := HPre.out.hR; omega))
      have HGZ := Lib.hid (show w.grownBy ((((((w1.setCell ⟨G, 3, none⟩ (.int .i64 0)).setCell ⟨Rb, 0, none⟩ (.bool false)).setCell ⟨Rb, 1, none⟩ (.slice none 0 0)).setCell ⟨Rb, 2, none⟩ (.slice none 0 0)).setCell ⟨Rb, 3, none⟩ (.int .i64 0)).setCell ⟨Rb, 4, none⟩ (.string { data := #[] })) (some g) from grown_set (grown_set (grown_set (grown_set (grown_set (grown_set (HPre.out.on HG1.out).2.2 (by exact HPre.out.hG) _) (by exact HPre.out.hR) _) (by exact HPre.out.hR) _) (by exact HPre.out.hR) _) (by exact HPre.out.hR) _) (by exact HPre.out.hR) _)
      go_wp2_with fail
      generalize (((((w1.setCell ⟨G, 3, none⟩ (.int .i64 0)).setCell ⟨Rb, 0, none⟩ (.bool false)).setCell ⟨Rb, 1, none⟩ (.slice none 0 0)).setCell ⟨Rb, 2, none⟩ (.slice none 0 0)).setCell ⟨Rb, 3, none⟩ (.int .i64 0)).setCell ⟨Rb, 4, none⟩ (.string { data := #[] }) = Z at HBZ HRZ HGZ ⊢
      have s0 : Z.cell? ⟨Rb, 0, none⟩ = some (.bool false) := HBZ.out.cell 0
      have s1 : Z.cell? ⟨Rb, 1, none⟩ = some (.slice none 0 0) := HBZ.out.cell 1
      have s2 : Z.cell? ⟨Rb, 2, none⟩ = some (.slice none 0 0) := HBZ.out.cell 2
      have s3 : Z.cell? ⟨Rb, 3, none⟩ = some (.int .i64 0) := HBZ.out.cell 3
      have s4 : Z.cell? ⟨Rb, 4, none⟩ = some (.string { data := #[] }) := HBZ.out.cell 4
      exact bodyPost_ret (v := .agg #[.bool false, .slice none 0 0, .slice none 0 0, .int .i64 0, .string { data := #[] }]) (by simp [results, Tryd.results35, go_sem, s0, s1, s2, s3, s4]) rfl ⟨j, rfl, HRZ.out, HGZ.out⟩
end Go.Proofs.YtgjfejalinkohaaDoor
