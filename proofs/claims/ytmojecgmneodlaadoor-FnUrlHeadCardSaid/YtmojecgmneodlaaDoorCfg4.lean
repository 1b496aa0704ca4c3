/-
  ServersEqual.
-/
import Derived.Test.YtmojecgmneodlaaDoorCfg3
import Derived.Deep.DeepCutAuto
namespace Go.Proofs.YtmojecgmneodlaaDoor
open Go Go.RowKit

theorem three {w : World} {B : Nat} {T : TypeId} {y0 y1 y2 : Value} (h : Blk w B T #[y0, y1, y2]) (x0 x1 x2 : Value) :
    Blk (((w.setCell ⟨B, 0, none⟩ x0).setCell ⟨B, 1, none⟩ x1).setCell ⟨B, 2, none⟩ x2) B T #[x0, x1, x2] ∧ w.grownBy (((w.setCell ⟨B, 0, none⟩ x0).setCell ⟨B, 1, none⟩ x1).setCell ⟨B, 2, none⟩ x2) (some B) := by
  refine ⟨?_, ?_⟩
  · have b9 := ((h.set_ 0 x0).set_ 1 x1).set_ 2 x2
    simpa using b9
  · exact World.grownBy.trans (World.grownBy.trans (Lib.grownBy_setCell _ _ _ _) (Lib.grownBy_setCell _ _ _ _)) (Lib.grownBy_setCell _ _ _ _)
theorem sc_other {w : World} {B i : Nat} {x : Value} {tb j : Nat} {v : Value} (hne : tb ≠ B) (h : w.cell? ⟨tb, j, none⟩ = some v) : (w.setCell ⟨B, i, none⟩ x).cell? ⟨tb, j, none⟩ = some v := by
  rw [World.cell?_setCell_other _ _ _ _ (fun e => hne (by injection e with e1; exact e1.symm))]; exact h
theorem set3 {w : World} {b1 b2 B : Nat} {v0 v1 v2 v3 v4 v5 x0 x1 x2 : Value} (hf : b1 ≠ B ∧ b2 ≠ B) (h : w.cell? ⟨b1, 0, none⟩ = some v0 ∧ w.cell? ⟨b1, 1, none⟩ = some v1 ∧ w.cell? ⟨b1, 2, none⟩ = some v2 ∧ w.cell? ⟨b2, 0, none⟩ = some v3 ∧ w.cell? ⟨b2, 1, none⟩ = some v4 ∧ w.cell? ⟨b2, 2, none⟩ = some v5) :
    let w' := ((w.setCell ⟨B, 0, none⟩ x0).setCell ⟨B, 1, none⟩ x1).setCell ⟨B, 2, none⟩ x2
    w'.cell? ⟨b1, 0, none⟩ = some v0 ∧ w'.cell? ⟨b1, 1, none⟩ = some v1 ∧ w'.cell? ⟨b1, 2, none⟩ = some v2 ∧ w'.cell? ⟨b2, 0, none⟩ = some v3 ∧ w'.cell? ⟨b2, 1, none⟩ = some v4 ∧ w'.cell? ⟨b2, 2, none⟩ = some v5 :=
  ⟨sc_other hf.1 (sc_other hf.1 (sc_other hf.1 h.1)), sc_other hf.1 (sc_other hf.1 (sc_other hf.1 h.2.1)), sc_other hf.1 (sc_other hf.1 (sc_other hf.1 h.2.2.1)), sc_other hf.2 (sc_other hf.2 (sc_other hf.2 h.2.2.2.1)), sc_other hf.2 (sc_other hf.2 (sc_other hf.2 h.2.2.2.2.1)), sc_other hf.2 (sc_other hf.2 (sc_other hf.2 h.2.2.2.2.2))⟩

set_option maxRecDepth 100000 in
set_option maxHeartbeats 16000000 in
theorem serversEqual_any (pra a prb b : ByteArray) (pa pb : Int) (w : World) (ha : a.size ≤ 300) (hb : b.size ≤ 300) (la : plainL a.data.toList = true) (lb : plainL b.data.toList = true) :
    Calls Tryd.prog 25 #[.agg #[.string pra, .string a, .int .i64 pa], .agg #[.string prb, .string b, .int .i64 pb]] w fun e w' => e = .returned (.bool (hostEq a.data.toList b.data.toList && (pa == pb))) ∧ Kp w w' := by
  have HIE := Lib.hid (fun w1 B5 B6 (h5 : Blk w1 B5 75 #[.string pra, .string a, .int .i64 pa]) (h6 : Blk w1 B6 75 #[.string prb, .string b, .int .i64 pb]) => (show Calls Tryd.prog 52 #[.pointer (some ⟨B5, 0, none⟩), .pointer (some ⟨B6, 0, none⟩)] w1 fun e w' => e = .returned (.bool (hostEq a.data.toList b.data.toList && (pa == pb))) ∧ Kp w1 w' from by
    cases he : hostEq a.data.toList b.data.toList
    · exact isEqual_no B5 B6 pra prb a b pa pb w1 h5 h6 ha hb la lb he
    · exact isEqual_yes B5 B6 pra prb a b pa pb w1 h5 h6 ha hb la lb he))
  generalize hr : (hostEq a.data.toList b.data.toList && (pa == pb)) = res at HIE ⊢
  clear ha hb la lb hr
  go_enter Tryd.func25, Tryd.ntmps25
  go_wp2_with fail
  generalize hX : (w.alloc (.cells #[.string pra, .string a, .int .i64 pa] 27)).alloc (.cells #[.string prb, .string b, .int .i64 pb] 27) = X
  obtain ⟨b1, hb1⟩ : ∃ b1, b1 = w.heap.size := ⟨_, rfl⟩
  obtain ⟨b2, hb2⟩ : ∃ b2, b2 = w.heap.size + 1 := ⟨_, rfl⟩
  have HB1 := Lib.hid (show Blk X b1 27 #[.string pra, .string a, .int .i64 pa] from by rw [hb1, ← hX]; exact (Blk.new w _ _).alloc _)
  have HB2 := Lib.hid (show Blk X b2 27 #[.string prb, .string b, .int .i64 pb] from by rw [hb2, ← hX]; exact Blk.new2 w _ _ _)
  have HKX := Lib.hid (show Kp w X from hX ▸ ((Kp.refl w).alloc _).alloc _)
  rw [← hb2, ← hb1]
  clear hX hb1 hb2
  have x0 : X.cell? ⟨b1, 0, none⟩ = some (.string pra) := HB1.out.cell 0
  have x1 : X.cell? ⟨b1, 1, none⟩ = some (.string a) := HB1.out.cell 1
  have x2 : X.cell? ⟨b1, 2, none⟩ = some (.int .i64 pa) := HB1.out.cell 2
  have x3 : X.cell? ⟨b2, 0, none⟩ = some (.string prb) := HB2.out.cell 0
  have x4 : X.cell? ⟨b2, 1, none⟩ = some (.string b) := HB2.out.cell 1
  have x5 : X.cell? ⟨b2, 2, none⟩ = some (.int .i64 pb) := HB2.out.cell 2
  clear HB1 HB2
  go_cut [5, 6] (fun s5 s6 wx => ∃ B5 B6, s5 = .pointer (some ⟨B5, 0, none⟩) ∧ s6 = .pointer (some ⟨B6, 0, none⟩) ∧ Blk wx B5 75 #[.string pra, .string a, .int .i64 pa] ∧ Blk wx B6 75 #[.string prb, .string b, .int .i64 pb] ∧ Kp X wx)
  case first =>
    refine wp_region_noPanic ?_
    refine wp_region_held_drew (S := fun w' => w'.cell? ⟨b1, 0, none⟩ = some (.string pra) ∧ w'.cell? ⟨b1, 1, none⟩ = some (.string a) ∧ w'.cell? ⟨b1, 2, none⟩ = some (.int .i64 pa) ∧ w'.cell? ⟨b2, 0, none⟩ = some (.string prb) ∧ w'.cell? ⟨b2, 1, none⟩ = some (.string b) ∧ w'.cell? ⟨b2, 2, none⟩ = some (.int .i64 pb)) (by kernel_rfl) ⟨x0, x1, x2, x3, x4, x5⟩ (fun hHeld => ?_)
    have v0x0 : X.drew.cell? ⟨b1, 0, none⟩ = some (.string pra) := x0
    have v0x1 : X.drew.cell? ⟨b1, 1, none⟩ = some (.string a) := x1
    have v0x2 : X.drew.cell? ⟨b1, 2, none⟩ = some (.int .i64 pa) := x2
    have v0x3 : X.drew.cell? ⟨b2, 0, none⟩ = some (.string prb) := x3
    have v0x4 : X.drew.cell? ⟨b2, 1, none⟩ = some (.string b) := x4
    have v0x5 : X.drew.cell? ⟨b2, 2, none⟩ = some (.int .i64 pb) := x5
    have Kv0 := Lib.hid (show Kp X X.drew from (Kp.refl X).drew)
    generalize hV0 : X.drew = v0 at *
    clear hV0 x0 x1 x2 x3 x4 x5
    refine wpAnyH_take (i := 0) (v := ?_) (by simp only [List.getElem?_toArray, List.getElem?_cons_zero] <;> rfl) (by kernel_rfl) (by kernel_rfl) (by kernel_rfl) (fun _ _ _ h => h) (.inl ⟨by rfl, ?_⟩) (by assumption) ?_
    rotate_left 1
    · intro wz hSw; (try dsimp only at hSw); go_simp; (try with_reducible rfl)
    try simp only [Act.put, List.setIfInBounds_toArray, List.set_cons_zero, List.set_cons_succ]
    refine wpAnyH_take (i := 2) (v := ?_) (by simp only [List.getElem?_toArray, List.getElem?_cons_zero, List.getElem?_cons_succ] <;> rfl) (by kernel_rfl) (by kernel_rfl) (by kernel_rfl) (fun _ _ _ h => h) (.inl ⟨by rfl, ?_⟩) (by assumption) ?_
    rotate_left 1
    · intro wz hSw; (try dsimp only at hSw); go_simp; (try with_reducible rfl)
    try simp only [Act.put, List.setIfInBounds_toArray, List.set_cons_zero, List.set_cons_succ]
    refine wpAnyH_ready (rs := [1, 4, 5]) (by kernel_rfl) (by simp) ?_
    refine AllReadyH.cons (by simp only [List.getElem?_toArray, List.getElem?_cons_zero, List.getElem?_cons_succ] <;> rfl) (fun K hK => ?_) (AllReadyH.cons (by simp only [List.getElem?_toArray, List.getElem?_cons_zero, List.getElem?_cons_succ] <;> rfl) (fun K hK => ?_) (AllReadyH.cons (by simp only [List.getElem?_toArray, List.getElem?_cons_zero, List.getElem?_cons_succ] <;> rfl) (fun K hK => ?_) AllReadyH.nil))
    · go_simp
      refine (serverOf_any pra a pa _).mono ?_
      rintro e v1 ⟨rfl, hk⟩
      have Qv1 : Kp v0 v1 := hk
      have Kv1 := Lib.hid (Kv0.out.trans Qv1)
      have v1x0 := below_some Qv1 v0x0
      have v1x1 := below_some Qv1 v0x1
      have v1x2 := below_some Qv1 v0x2
      have v1x3 := below_some Qv1 v0x3
      have v1x4 := below_some Qv1 v0x4
      have v1x5 := below_some Qv1 v0x5
      clear hk Qv1
      go_wp2_with fail
      refine hK.out _ _ ⟨v1x0, v1x1, v1x2, v1x3, v1x4, v1x5⟩ (fun hHeld => ?_)
      clear hK K
      try simp only [Act.put, List.setIfInBounds_toArray, List.set_cons_zero, List.set_cons_succ]
      refine wpAnyH_ready (rs := [3, 4, 5]) (by kernel_rfl) (by simp) ?_
      refine AllReadyH.cons (by simp only [List.getElem?_toArray, List.getElem?_cons_zero, List.getElem?_cons_succ] <;> rfl) (fun K hK => ?_) (AllReadyH.cons (by simp only [List.getElem?_toArray, List.getElem?_cons_zero, List.getElem?_cons_succ] <;> rfl) (fun K hK => ?_) (AllReadyH.cons (by simp only [List.getElem?_toArray, List.getElem?_cons_zero, List.getElem?_cons_succ] <;> rfl) (fun K hK => ?_) AllReadyH.nil))
      · go_simp
        refine (serverOf_any prb b pb _).mono ?_
        rintro e v2 ⟨rfl, hk⟩
        have Qv2 : Kp v1 v2 := hk
        have Kv2 := Lib.hid (Kv1.out.trans Qv2)
        have v2x0 := below_some Qv2 v1x0
        have v2x1 := below_some Qv2 v1x1
        have v2x2 := below_some Qv2 v1x2
        have v2x3 := below_some Qv2 v1x3
        have v2x4 := below_some Qv2 v1x4
        have v2x5 := below_some Qv2 v1x5
        clear hk Qv2
        go_wp2_with fail
        refine hK.out _ _ ⟨v2x0, v2x1, v2x2, v2x3, v2x4, v2x5⟩ (fun hHeld => ?_)
        clear hK K
        try simp only [Act.put, List.setIfInBounds_toArray, List.set_cons_zero, List.set_cons_succ]
        refine wpAnyH_ready (rs := [4, 5]) (by kernel_rfl) (by simp) ?_
        refine AllReadyH.cons (by simp only [List.getElem?_toArray, List.getElem?_cons_zero, List.getElem?_cons_succ] <;> rfl) (fun K hK => ?_) (AllReadyH.cons (by simp only [List.getElem?_toArray, List.getElem?_cons_zero, List.getElem?_cons_succ] <;> rfl) (fun K hK => ?_) AllReadyH.nil)
        · go_simp
          have Qv3 : Kp v2 (v2.alloc (.cells #[.string { data := #[] }, .string { data := #[] }, .int .i64 0] 75)) := (Kp.refl v2).alloc _
          have v3x0 := below_some Qv3 v2x0
          have v3x1 := below_some Qv3 v2x1
          have v3x2 := below_some Qv3 v2x2
          have v3x3 := below_some Qv3 v2x3
          have v3x4 := below_some Qv3 v2x4
          have v3x5 := below_some Qv3 v2x5
          refine hK.out _ _ ⟨v3x0, v3x1, v3x2, v3x3, v3x4, v3x5⟩ (fun hHeld => ?_)
          clear hK K
          try simp only [Act.put, List.setIfInBounds_toArray, List.set_cons_zero, List.set_cons_succ]
          have H5v3 := Lib.hid (Blk.new v2 75 #[.string { data := #[] }, .string { data := #[] }, .int .i64 0])
          have HF5 := Lib.hid (show b1 ≠ v2.heap.size ∧ b2 ≠ v2.heap.size from ⟨Nat.ne_of_lt (heap_lt_of_cell v2x0), Nat.ne_of_lt (heap_lt_of_cell v2x3)⟩)
          have HG5 := Lib.hid (show X.heap.size ≤ v2.heap.size from Kv2.out.size)
          have Kv3 := Lib.hid (Kv2.out.trans Qv3)
          clear Qv3
          generalize hW : v2.alloc (.cells #[.string { data := #[] }, .string { data := #[] }, .int .i64 0] 75) = v3 at *
          generalize hB : v2.heap.size = B5 at H5v3 HF5 HG5 ⊢
          clear hW hB
          refine wpAnyH_ready (rs := [5]) (by kernel_rfl) (by simp) ?_
          refine AllReadyH.cons (by simp only [List.getElem?_toArray, List.getElem?_cons_zero, List.getElem?_cons_succ] <;> rfl) (fun K hK => ?_) AllReadyH.nil
          · go_simp
            have Qv4 : Kp v3 (v3.alloc (.cells #[.string { data := #[] }, .string { data := #[] }, .int .i64 0] 75)) := (Kp.refl v3).alloc _
            have v4x0 := below_some Qv4 v3x0
            have v4x1 := below_some Qv4 v3x1
            have v4x2 := below_some Qv4 v3x2
            have v4x3 := below_some Qv4 v3x3
            have v4x4 := below_some Qv4 v3x4
            have v4x5 := below_some Qv4 v3x5
            refine hK.out _ _ ⟨v4x0, v4x1, v4x2, v4x3, v4x4, v4x5⟩ (fun hHeld => ?_)
            clear hK K
            try simp only [Act.put, List.setIfInBounds_toArray, List.set_cons_zero, List.set_cons_succ]
            have H6v4 := Lib.hid (Blk.new v3 75 #[.string { data := #[] }, .string { data := #[] }, .int .i64 0])
            have H5v4 := Lib.hid (H5v3.out.kp Qv4)
            have HNE := Lib.hid (show B5 ≠ v3.heap.size from Nat.ne_of_lt H5v3.out.lt)
            have HF6 := Lib.hid (show b1 ≠ v3.heap.size ∧ b2 ≠ v3.heap.size from ⟨Nat.ne_of_lt (heap_lt_of_cell v3x0), Nat.ne_of_lt (heap_lt_of_cell v3x3)⟩)
            have HG6 := Lib.hid (show X.heap.size ≤ v3.heap.size from Kv3.out.size)
            have Kv4 := Lib.hid (Kv3.out.trans Qv4)
            clear Qv4
            generalize hW : v3.alloc (.cells #[.string { data := #[] }, .string { data := #[] }, .int .i64 0] 75) = v4 at *
            generalize hB : v3.heap.size = B6 at H6v4 HF6 HG6 HNE ⊢
            clear hW hB
            have hne : B5 ≠ B6 := HNE.out
            have hne' : B6 ≠ B5 := fun e => HNE.out e.symm
            have p0 : v4.cell? ⟨B5, 0, none⟩ = some (.string { data := #[] }) := H5v4.out.cell 0
            have pf0 : v4.frozen? ⟨B5, 0, none⟩ = false := H5v4.out.frozen 0
            have p1 : v4.cell? ⟨B5, 1, none⟩ = some (.string { data := #[] }) := H5v4.out.cell 1
            have pf1 : v4.frozen? ⟨B5, 1, none⟩ = false := H5v4.out.frozen 1
            have p2 : v4.cell? ⟨B5, 2, none⟩ = some (.int .i64 0) := H5v4.out.cell 2
            have pf2 : v4.frozen? ⟨B5, 2, none⟩ = false := H5v4.out.frozen 2
            have r0 : v4.cell? ⟨B6, 0, none⟩ = some (.string { data := #[] }) := H6v4.out.cell 0
            have rf0 : v4.frozen? ⟨B6, 0, none⟩ = false := H6v4.out.frozen 0
            have r1 : v4.cell? ⟨B6, 1, none⟩ = some (.string { data := #[] }) := H6v4.out.cell 1
            have rf1 : v4.frozen? ⟨B6, 1, none⟩ = false := H6v4.out.frozen 1
            have r2 : v4.cell? ⟨B6, 2, none⟩ = some (.int .i64 0) := H6v4.out.cell 2
            have rf2 : v4.frozen? ⟨B6, 2, none⟩ = false := H6v4.out.frozen 2
            refine wpAnyH_ready (rs := [6]) (by kernel_rfl) (by simp) ?_
            refine AllReadyH.cons (by simp only [List.getElem?_toArray, List.getElem?_cons_zero, List.getElem?_cons_succ] <;> rfl) (fun K hK => ?_) AllReadyH.nil
            go_simp
            refine hK.out _ _ (set3 HF5.out ⟨v4x0, v4x1, v4x2, v4x3, v4x4, v4x5⟩) (fun hHeld => ?_)
            clear hK K
            try simp only [Act.put, List.setIfInBounds_toArray, List.set_cons_zero, List.set_cons_succ]
            have H5s := Lib.hid (three H5v4.out (.string pra) (.string a) (.int .i64 pa))
            have H6s := Lib.hid (H6v4.out.grown H5s.out.2 (fun e => HNE.out (by injection e with e; exact e.symm)))
            generalize hWs : (((v4.setCell ⟨B5, 0, none⟩ (.string pra)).setCell ⟨B5, 1, none⟩ (.string a)).setCell ⟨B5, 2, none⟩ (.int .i64 pa)) = ws at H5s H6s hHeld ⊢
            have HGs := Lib.hid (show v4.grownBy ws (some B5) from H5s.out.2)
            have H5t := Lib.hid H5s.out.1
            clear H5s hWs p0 pf0 r0 rf0 p1 pf1 r1 rf1 p2 pf2 r2 rf2
            have r0 : ws.cell? ⟨B6, 0, none⟩ = some (.string { data := #[] }) := H6s.out.cell 0
            have rf0 : ws.frozen? ⟨B6, 0, none⟩ = false := H6s.out.frozen 0
            have r1 : ws.cell? ⟨B6, 1, none⟩ = some (.string { data := #[] }) := H6s.out.cell 1
            have rf1 : ws.frozen? ⟨B6, 1, none⟩ = false := H6s.out.frozen 1
            have r2 : ws.cell? ⟨B6, 2, none⟩ = some (.int .i64 0) := H6s.out.cell 2
            have rf2 : ws.frozen? ⟨B6, 2, none⟩ = false := H6s.out.frozen 2
            refine wpAnyH_ready (rs := [7]) (by kernel_rfl) (by simp) ?_
            refine AllReadyH.cons (by simp only [List.getElem?_toArray, List.getElem?_cons_zero, List.getElem?_cons_succ] <;> rfl) (fun K hK => ?_) AllReadyH.nil
            go_simp
            refine hK.out _ _ (set3 HF6.out hHeld) (fun hHeld2 => ?_)
            clear hK K
            try simp only [Act.put, List.setIfInBounds_toArray, List.set_cons_zero, List.set_cons_succ]
            have H6u := Lib.hid (three H6s.out (.string prb) (.string b) (.int .i64 pb))
            have H5u := Lib.hid (H5t.out.grown H6u.out.2 (fun e => HNE.out (by injection e)))
            generalize hWu : (((ws.setCell ⟨B6, 0, none⟩ (.string prb)).setCell ⟨B6, 1, none⟩ (.string b)).setCell ⟨B6, 2, none⟩ (.int .i64 pb)) = wu at H6u H5u hHeld2 ⊢
            have HKu := Lib.hid (show Kp X wu from ((Kv4.out.grown HGs.out (fun k hk => by injection hk with hk; exact hk ▸ HG5.out)).grown H6u.out.2 (fun k hk => by injection hk with hk; exact hk ▸ HG6.out)))
            refine wpAnyH_done (by kernel_rfl) ?_ _
            refine NoPanic.normal ?_
            go_wp2_with fail
            go_meet
            exact ⟨B5, B6, rfl, rfl, H5u.out, H6u.out.1, HKu.out⟩
        · go_simp
          have Qv3 : Kp v2 (v2.alloc (.cells #[.string { data := #[] }, .string { data := #[] }, .int .i64 0] 75)) := (Kp.refl v2).alloc _
          have v3x0 := below_some Qv3 v2x0
          have v3x1 := below_some Qv3 v2x1
          have v3x2 := below_some Qv3 v2x2
          have v3x3 := below_some Qv3 v2x3
          have v3x4 := below_some Qv3 v2x4
          have v3x5 := below_some Qv3 v2x5
          refine hK.out _ _ ⟨v3x0, v3x1, v3x2, v3x3, v3x4, v3x5⟩ (fun hHeld => ?_)
          clear hK K
          try simp only [Act.put, List.setIfInBounds_toArray, List.set_cons_zero, List.set_cons_succ]
          have H6v3 := Lib.hid (Blk.new v2 75 #[.string { data := #[] }, .string { data := #[] }, .int .i64 0])
          have HF6 := Lib.hid (show b1 ≠ v2.heap.size ∧ b2 ≠ v2.heap.size from ⟨Nat.ne_of_lt (heap_lt_of_cell v2x0), Nat.ne_of_lt (heap_lt_of_cell v2x3)⟩)
          have HG6 := Lib.hid (show X.heap.size ≤ v2.heap.size from Kv2.out.size)
          have Kv3 := Lib.hid (Kv2.out.trans Qv3)
          clear Qv3
          generalize hW : v2.alloc (.cells #[.string { data := #[] }, .string { data := #[] }, .int .i64 0] 75) = v3 at *
          generalize hB : v2.heap.size = B6 at H6v3 HF6 HG6 ⊢
          clear hW hB
          refine wpAnyH_ready (rs := [4]) (by kernel_rfl) (by simp) ?_
          refine AllReadyH.cons (by simp only [List.getElem?_toArray, List.getElem?_cons_zero, List.getElem?_cons_succ] <;> rfl) (fun K hK => ?_) AllReadyH.nil
          · go_simp
            have Qv4 : Kp v3 (v3.alloc (.cells #[.string { data := #[] }, .string { data := #[] }, .int .i64 0] 75)) := (Kp.refl v3).alloc _
            have v4x0 := below_some Qv4 v3x0
            have v4x1 := below_some Qv4 v3x1
            have v4x2 := below_some Qv4 v3x2
            have v4x3 := below_some Qv4 v3x3
            have v4x4 := below_some Qv4 v3x4
            have v4x5 := below_some Qv4 v3x5
            refine hK.out _ _ ⟨v4x0, v4x1, v4x2, v4x3, v4x4, v4x5⟩ (fun hHeld => ?_)
            clear hK K
            try simp only [Act.put, List.setIfInBounds_toArray, List.set_cons_zero, List.set_cons_succ]
            have H5v4 := Lib.hid (Blk.new v3 75 #[.string { data := #[] }, .string { data := #[] }, .int .i64 0])
            have H6v4 := Lib.hid (H6v3.out.kp Qv4)
            have HNE := Lib.hid (show v3.heap.size ≠ B6 from Nat.ne_of_gt H6v3.out.lt)
            have HF5 := Lib.hid (show b1 ≠ v3.heap.size ∧ b2 ≠ v3.heap.size from ⟨Nat.ne_of_lt (heap_lt_of_cell v3x0), Nat.ne_of_lt (heap_lt_of_cell v3x3)⟩)
            have HG5 := Lib.hid (show X.heap.size ≤ v3.heap.size from Kv3.out.size)
            have Kv4 := Lib.hid (Kv3.out.trans Qv4)
            clear Qv4
            generalize hW : v3.alloc (.cells #[.string { data := #[] }, .string { data := #[] }, .int .i64 0] 75) = v4 at *
            generalize hB : v3.heap.size = B5 at H5v4 HF5 HG5 HNE ⊢
            clear hW hB
            have hne : B5 ≠ B6 := HNE.out
            have hne' : B6 ≠ B5 := fun e => HNE.out e.symm
            have p0 : v4.cell? ⟨B5, 0, none⟩ = some (.string { data := #[] }) := H5v4.out.cell 0
            have pf0 : v4.frozen? ⟨B5, 0, none⟩ = false := H5v4.out.frozen 0
            have p1 : v4.cell? ⟨B5, 1, none⟩ = some (.string { data := #[] }) := H5v4.out.cell 1
            have pf1 : v4.frozen? ⟨B5, 1, none⟩ = false := H5v4.out.frozen 1
            have p2 : v4.cell? ⟨B5, 2, none⟩ = some (.int .i64 0) := H5v4.out.cell 2
            have pf2 : v4.frozen? ⟨B5, 2, none⟩ = false := H5v4.out.frozen 2
            have r0 : v4.cell? ⟨B6, 0, none⟩ = some (.string { data := #[] }) := H6v4.out.cell 0
            have rf0 : v4.frozen? ⟨B6, 0, none⟩ = false := H6v4.out.frozen 0
            have r1 : v4.cell? ⟨B6, 1, none⟩ = some (.string { data := #[] }) := H6v4.out.cell 1
            have rf1 : v4.frozen? ⟨B6, 1, none⟩ = false := H6v4.out.frozen 1
            have r2 : v4.cell? ⟨B6, 2, none⟩ = some (.int .i64 0) := H6v4.out.cell 2
            have rf2 : v4.frozen? ⟨B6, 2, none⟩ = false := H6v4.out.frozen 2
            refine wpAnyH_ready (rs := [6]) (by kernel_rfl) (by simp) ?_
            refine AllReadyH.cons (by simp only [List.getElem?_toArray, List.getElem?_cons_zero, List.getElem?_cons_succ] <;> rfl) (fun K hK => ?_) AllReadyH.nil
            go_simp
            refine hK.out _ _ (set3 HF5.out ⟨v4x0, v4x1, v4x2, v4x3, v4x4, v4x5⟩) (fun hHeld => ?_)
            clear hK K
            try simp only [Act.put, List.setIfInBounds_toArray, List.set_cons_zero, List.set_cons_succ]
            have H5s := Lib.hid (three H5v4.out (.string pra) (.string a) (.int .i64 pa))
            have H6s := Lib.hid (H6v4.out.grown H5s.out.2 (fun e => HNE.out (by injection e with e; exact e.symm)))
            generalize hWs : (((v4.setCell ⟨B5, 0, none⟩ (.string pra)).setCell ⟨B5, 1, none⟩ (.string a)).setCell ⟨B5, 2, none⟩ (.int .i64 pa)) = ws at H5s H6s hHeld ⊢
            have HGs := Lib.hid (show v4.grownBy ws (some B5) from H5s.out.2)
            have H5t := Lib.hid H5s.out.1
            clear H5s hWs p0 pf0 r0 rf0 p1 pf1 r1 rf1 p2 pf2 r2 rf2
            have r0 : ws.cell? ⟨B6, 0, none⟩ = some (.string { data := #[] }) := H6s.out.cell 0
            have rf0 : ws.frozen? ⟨B6, 0, none⟩ = false := H6s.out.frozen 0
            have r1 : ws.cell? ⟨B6, 1, none⟩ = some (.string { data := #[] }) := H6s.out.cell 1
            have rf1 : ws.frozen? ⟨B6, 1, none⟩ = false := H6s.out.frozen 1
            have r2 : ws.cell? ⟨B6, 2, none⟩ = some (.int .i64 0) := H6s.out.cell 2
            have rf2 : ws.frozen? ⟨B6, 2, none⟩ = false := H6s.out.frozen 2
            refine wpAnyH_ready (rs := [7]) (by kernel_rfl) (by simp) ?_
            refine AllReadyH.cons (by simp only [List.getElem?_toArray, List.getElem?_cons_zero, List.getElem?_cons_succ] <;> rfl) (fun K hK => ?_) AllReadyH.nil
            go_simp
            refine hK.out _ _ (set3 HF6.out hHeld) (fun hHeld2 => ?_)
            clear hK K
            try simp only [Act.put, List.setIfInBounds_toArray, List.set_cons_zero, List.set_cons_succ]
            have H6u := Lib.hid (three H6s.out (.string prb) (.string b) (.int .i64 pb))
            have H5u := Lib.hid (H5t.out.grown H6u.out.2 (fun e => HNE.out (by injection e)))
            generalize hWu : (((ws.setCell ⟨B6, 0, none⟩ (.string prb)).setCell ⟨B6, 1, none⟩ (.string b)).setCell ⟨B6, 2, none⟩ (.int .i64 pb)) = wu at H6u H5u hHeld2 ⊢
            have HKu := Lib.hid (show Kp X wu from ((Kv4.out.grown HGs.out (fun k hk => by injection hk with hk; exact hk ▸ HG5.out)).grown H6u.out.2 (fun k hk => by injection hk with hk; exact hk ▸ HG6.out)))
            refine wpAnyH_done (by kernel_rfl) ?_ _
            refine NoPanic.normal ?_
            go_wp2_with fail
            go_meet
            exact ⟨B5, B6, rfl, rfl, H5u.out, H6u.out.1, HKu.out⟩
      · go_simp
        have Qv2 : Kp v1 (v1.alloc (.cells #[.string { data := #[] }, .string { data := #[] }, .int .i64 0] 75)) := (Kp.refl v1).alloc _
        have v2x0 := below_some Qv2 v1x0
        have v2x1 := below_some Qv2 v1x1
        have v2x2 := below_some Qv2 v1x2
        have v2x3 := below_some Qv2 v1x3
        have v2x4 := below_some Qv2 v1x4
        have v2x5 := below_some Qv2 v1x5
        refine hK.out _ _ ⟨v2x0, v2x1, v2x2, v2x3, v2x4, v2x5⟩ (fun hHeld => ?_)
        clear hK K
        try simp only [Act.put, List.setIfInBounds_toArray, List.set_cons_zero, List.set_cons_succ]
        have H5v2 := Lib.hid (Blk.new v1 75 #[.string { data := #[] }, .string { data := #[] }, .int .i64 0])
        have HF5 := Lib.hid (show b1 ≠ v1.heap.size ∧ b2 ≠ v1.heap.size from ⟨Nat.ne_of_lt (heap_lt_of_cell v1x0), Nat.ne_of_lt (heap_lt_of_cell v1x3)⟩)
        have HG5 := Lib.hid (show X.heap.size ≤ v1.heap.size from Kv1.out.size)
        have Kv2 := Lib.hid (Kv1.out.trans Qv2)
        clear Qv2
        generalize hW : v1.alloc (.cells #[.string { data := #[] }, .string { data := #[] }, .int .i64 0] 75) = v2 at *
        generalize hB : v1.heap.size = B5 at H5v2 HF5 HG5 ⊢
        clear hW hB
        refine wpAnyH_ready (rs := [3, 5]) (by kernel_rfl) (by simp) ?_
        refine AllReadyH.cons (by simp only [List.getElem?_toArray, List.getElem?_cons_zero, List.getElem?_cons_succ] <;> rfl) (fun K hK => ?_) (AllReadyH.cons (by simp only [List.getElem?_toArray, List.getElem?_cons_zero, List.getElem?_cons_succ] <;> rfl) (fun K hK => ?_) AllReadyH.nil)
        · go_simp
          refine (serverOf_any prb b pb _).mono ?_
          rintro e v3 ⟨rfl, hk⟩
          have Qv3 : Kp v2 v3 := hk
          have Kv3 := Lib.hid (Kv2.out.trans Qv3)
          have v3x0 := below_some Qv3 v2x0
          have v3x1 := below_some Qv3 v2x1
          have v3x2 := below_some Qv3 v2x2
          have v3x3 := below_some Qv3 v2x3
          have v3x4 := below_some Qv3 v2x4
          have v3x5 := below_some Qv3 v2x5
          have H5v3 := Lib.hid (H5v2.out.kp Qv3)
          clear hk Qv3
          go_wp2_with fail
          refine hK.out _ _ ⟨v3x0, v3x1, v3x2, v3x3, v3x4, v3x5⟩ (fun hHeld => ?_)
          clear hK K
          try simp only [Act.put, List.setIfInBounds_toArray, List.set_cons_zero, List.set_cons_succ]
          refine wpAnyH_ready (rs := [5]) (by kernel_rfl) (by simp) ?_
          refine AllReadyH.cons (by simp only [List.getElem?_toArray, List.getElem?_cons_zero, List.getElem?_cons_succ] <;> rfl) (fun K hK => ?_) AllReadyH.nil
          · go_simp
            have Qv4 : Kp v3 (v3.alloc (.cells #[.string { data := #[] }, .string { data := #[] }, .int .i64 0] 75)) := (Kp.refl v3).alloc _
            have v4x0 := below_some Qv4 v3x0
            have v4x1 := below_some Qv4 v3x1
            have v4x2 := below_some Qv4 v3x2
            have v4x3 := below_some Qv4 v3x3
            have v4x4 := below_some Qv4 v3x4
            have v4x5 := below_some Qv4 v3x5
            refine hK.out _ _ ⟨v4x0, v4x1, v4x2, v4x3, v4x4, v4x5⟩ (fun hHeld => ?_)
            clear hK K
            try simp only [Act.put, List.setIfInBounds_toArray, List.set_cons_zero, List.set_cons_succ]
            have H6v4 := Lib.hid (Blk.new v3 75 #[.string { data := #[] }, .string { data := #[] }, .int .i64 0])
            have H5v4 := Lib.hid (H5v3.out.kp Qv4)
            have HNE := Lib.hid (show B5 ≠ v3.heap.size from Nat.ne_of_lt H5v3.out.lt)
            have HF6 := Lib.hid (show b1 ≠ v3.heap.size ∧ b2 ≠ v3.heap.size from ⟨Nat.ne_of_lt (heap_lt_of_cell v3x0), Nat.ne_of_lt (heap_lt_of_cell v3x3)⟩)
            have HG6 := Lib.hid (show X.heap.size ≤ v3.heap.size from Kv3.out.size)
            have Kv4 := Lib.hid (Kv3.out.trans Qv4)
            clear Qv4
            generalize hW : v3.alloc (.cells #[.string { data := #[] }, .string { data := #[] }, .int .i64 0] 75) = v4 at *
            generalize hB : v3.heap.size = B6 at H6v4 HF6 HG6 HNE ⊢
            clear hW hB
            have hne : B5 ≠ B6 := HNE.out
            have hne' : B6 ≠ B5 := fun e => HNE.out e.symm
            have p0 : v4.cell? ⟨B5, 0, none⟩ = some (.string { data := #[] }) := H5v4.out.cell 0
            have pf0 : v4.frozen? ⟨B5, 0, none⟩ = false := H5v4.out.frozen 0
            have p1 : v4.cell? ⟨B5, 1, none⟩ = some (.string { data := #[] }) := H5v4.out.cell 1
            have pf1 : v4.frozen? ⟨B5, 1, none⟩ = false := H5v4.out.frozen 1
            have p2 : v4.cell? ⟨B5, 2, none⟩ = some (.int .i64 0) := H5v4.out.cell 2
            have pf2 : v4.frozen? ⟨B5, 2, none⟩ = false := H5v4.out.frozen 2
            have r0 : v4.cell? ⟨B6, 0, none⟩ = some (.string { data := #[] }) := H6v4.out.cell 0
            have rf0 : v4.frozen? ⟨B6, 0, none⟩ = false := H6v4.out.frozen 0
            have r1 : v4.cell? ⟨B6, 1, none⟩ = some (.string { data := #[] }) := H6v4.out.cell 1
            have rf1 : v4.frozen? ⟨B6, 1, none⟩ = false := H6v4.out.frozen 1
            have r2 : v4.cell? ⟨B6, 2, none⟩ = some (.int .i64 0) := H6v4.out.cell 2
            have rf2 : v4.frozen? ⟨B6, 2, none⟩ = false := H6v4.out.frozen 2
            refine wpAnyH_ready (rs := [6]) (by kernel_rfl) (by simp) ?_
            refine AllReadyH.cons (by simp only [List.getElem?_toArray, List.getElem?_cons_zero, List.getElem?_cons_succ] <;> rfl) (fun K hK => ?_) AllReadyH.nil
            go_simp
            refine hK.out _ _ (set3 HF5.out ⟨v4x0, v4x1, v4x2, v4x3, v4x4, v4x5⟩) (fun hHeld => ?_)
            clear hK K
            try simp only [Act.put, List.setIfInBounds_toArray, List.set_cons_zero, List.set_cons_succ]
            have H5s := Lib.hid (three H5v4.out (.string pra) (.string a) (.int .i64 pa))
            have H6s := Lib.hid (H6v4.out.grown H5s.out.2 (fun e => HNE.out (by injection e with e; exact e.symm)))
            generalize hWs : (((v4.setCell ⟨B5, 0, none⟩ (.string pra)).setCell ⟨B5, 1, none⟩ (.string a)).setCell ⟨B5, 2, none⟩ (.int .i64 pa)) = ws at H5s H6s hHeld ⊢
            have HGs := Lib.hid (show v4.grownBy ws (some B5) from H5s.out.2)
            have H5t := Lib.hid H5s.out.1
            clear H5s hWs p0 pf0 r0 rf0 p1 pf1 r1 rf1 p2 pf2 r2 rf2
            have r0 : ws.cell? ⟨B6, 0, none⟩ = some (.string { data := #[] }) := H6s.out.cell 0
            have rf0 : ws.frozen? ⟨B6, 0, none⟩ = false := H6s.out.frozen 0
            have r1 : ws.cell? ⟨B6, 1, none⟩ = some (.string { data := #[] }) := H6s.out.cell 1
            have rf1 : ws.frozen? ⟨B6, 1, none⟩ = false := H6s.out.frozen 1
            have r2 : ws.cell? ⟨B6, 2, none⟩ = some (.int .i64 0) := H6s.out.cell 2
            have rf2 : ws.frozen? ⟨B6, 2, none⟩ = false := H6s.out.frozen 2
            refine wpAnyH_ready (rs := [7]) (by kernel_rfl) (by simp) ?_
            refine AllReadyH.cons (by simp only [List.getElem?_toArray, List.getElem?_cons_zero, List.getElem?_cons_succ] <;> rfl) (fun K hK => ?_) AllReadyH.nil
            go_simp
            refine hK.out _ _ (set3 HF6.out hHeld) (fun hHeld2 => ?_)
            clear hK K
            try simp only [Act.put, List.setIfInBounds_toArray, List.set_cons_zero, List.set_cons_succ]
            have H6u := Lib.hid (three H6s.out (.string prb) (.string b) (.int .i64 pb))
            have H5u := Lib.hid (H5t.out.grown H6u.out.2 (fun e => HNE.out (by injection e)))
            generalize hWu : (((ws.setCell ⟨B6, 0, none⟩ (.string prb)).setCell ⟨B6, 1, none⟩ (.string b)).setCell ⟨B6, 2, none⟩ (.int .i64 pb)) = wu at H6u H5u hHeld2 ⊢
            have HKu := Lib.hid (show Kp X wu from ((Kv4.out.grown HGs.out (fun k hk => by injection hk with hk; exact hk ▸ HG5.out)).grown H6u.out.2 (fun k hk => by injection hk with hk; exact hk ▸ HG6.out)))
            refine wpAnyH_done (by kernel_rfl) ?_ _
            refine NoPanic.normal ?_
            go_wp2_with fail
            go_meet
            exact ⟨B5, B6, rfl, rfl, H5u.out, H6u.out.1, HKu.out⟩
        · go_simp
          have Qv3 : Kp v2 (v2.alloc (.cells #[.string { data := #[] }, .string { data := #[] }, .int .i64 0] 75)) := (Kp.refl v2).alloc _
          have v3x0 := below_some Qv3 v2x0
          have v3x1 := below_some Qv3 v2x1
          have v3x2 := below_some Qv3 v2x2
          have v3x3 := below_some Qv3 v2x3
          have v3x4 := below_some Qv3 v2x4
          have v3x5 := below_some Qv3 v2x5
          refine hK.out _ _ ⟨v3x0, v3x1, v3x2, v3x3, v3x4, v3x5⟩ (fun hHeld => ?_)
          clear hK K
          try simp only [Act.put, List.setIfInBounds_toArray, List.set_cons_zero, List.set_cons_succ]
          have H6v3 := Lib.hid (Blk.new v2 75 #[.string { data := #[] }, .string { data := #[] }, .int .i64 0])
          have H5v3 := Lib.hid (H5v2.out.kp Qv3)
          have HNE := Lib.hid (show B5 ≠ v2.heap.size from Nat.ne_of_lt H5v2.out.lt)
          have HF6 := Lib.hid (show b1 ≠ v2.heap.size ∧ b2 ≠ v2.heap.size from ⟨Nat.ne_of_lt (heap_lt_of_cell v2x0), Nat.ne_of_lt (heap_lt_of_cell v2x3)⟩)
          have HG6 := Lib.hid (show X.heap.size ≤ v2.heap.size from Kv2.out.size)
          have Kv3 := Lib.hid (Kv2.out.trans Qv3)
          clear Qv3
          generalize hW : v2.alloc (.cells #[.string { data := #[] }, .string { data := #[] }, .int .i64 0] 75) = v3 at *
          generalize hB : v2.heap.size = B6 at H6v3 HF6 HG6 HNE ⊢
          clear hW hB
          refine wpAnyH_ready (rs := [3]) (by kernel_rfl) (by simp) ?_
          refine AllReadyH.cons (by simp only [List.getElem?_toArray, List.getElem?_cons_zero, List.getElem?_cons_succ] <;> rfl) (fun K hK => ?_) AllReadyH.nil
          · go_simp
            refine (serverOf_any prb b pb _).mono ?_
            rintro e v4 ⟨rfl, hk⟩
            have Qv4 : Kp v3 v4 := hk
            have Kv4 := Lib.hid (Kv3.out.trans Qv4)
            have v4x0 := below_some Qv4 v3x0
            have v4x1 := below_some Qv4 v3x1
            have v4x2 := below_some Qv4 v3x2
            have v4x3 := below_some Qv4 v3x3
            have v4x4 := below_some Qv4 v3x4
            have v4x5 := below_some Qv4 v3x5
            have H5v4 := Lib.hid (H5v3.out.kp Qv4)
            have H6v4 := Lib.hid (H6v3.out.kp Qv4)
            clear hk Qv4
            go_wp2_with fail
            refine hK.out _ _ ⟨v4x0, v4x1, v4x2, v4x3, v4x4, v4x5⟩ (fun hHeld => ?_)
            clear hK K
            try simp only [Act.put, List.setIfInBounds_toArray, List.set_cons_zero, List.set_cons_succ]
            have hne : B5 ≠ B6 := HNE.out
            have hne' : B6 ≠ B5 := fun e => HNE.out e.symm
            have p0 : v4.cell? ⟨B5, 0, none⟩ = some (.string { data := #[] }) := H5v4.out.cell 0
            have pf0 : v4.frozen? ⟨B5, 0, none⟩ = false := H5v4.out.frozen 0
            have p1 : v4.cell? ⟨B5, 1, none⟩ = some (.string { data := #[] }) := H5v4.out.cell 1
            have pf1 : v4.frozen? ⟨B5, 1, none⟩ = false := H5v4.out.frozen 1
            have p2 : v4.cell? ⟨B5, 2, none⟩ = some (.int .i64 0) := H5v4.out.cell 2
            have pf2 : v4.frozen? ⟨B5, 2, none⟩ = false := H5v4.out.frozen 2
            have r0 : v4.cell? ⟨B6, 0, none⟩ = some (.string { data := #[] }) := H6v4.out.cell 0
            have rf0 : v4.frozen? ⟨B6, 0, none⟩ = false := H6v4.out.frozen 0
            have r1 : v4.cell? ⟨B6, 1, none⟩ = some (.string { data := #[] }) := H6v4.out.cell 1
            have rf1 : v4.frozen? ⟨B6, 1, none⟩ = false := H6v4.out.frozen 1
            have r2 : v4.cell? ⟨B6, 2, none⟩ = some (.int .i64 0) := H6v4.out.cell 2
            have rf2 : v4.frozen? ⟨B6, 2, none⟩ = false := H6v4.out.frozen 2
            refine wpAnyH_ready (rs := [6]) (by kernel_rfl) (by simp) ?_
            refine AllReadyH.cons (by simp only [List.getElem?_toArray, List.getElem?_cons_zero, List.getElem?_cons_succ] <;> rfl) (fun K hK => ?_) AllReadyH.nil
            go_simp
            refine hK.out _ _ (set3 HF5.out ⟨v4x0, v4x1, v4x2, v4x3, v4x4, v4x5⟩) (fun hHeld => ?_)
            clear hK K
            try simp only [Act.put, List.setIfInBounds_toArray, List.set_cons_zero, List.set_cons_succ]
            have H5s := Lib.hid (three H5v4.out (.string pra) (.string a) (.int .i64 pa))
            have H6s := Lib.hid (H6v4.out.grown H5s.out.2 (fun e => HNE.out (by injection e with e; exact e.symm)))
            generalize hWs : (((v4.setCell ⟨B5, 0, none⟩ (.string pra)).setCell ⟨B5, 1, none⟩ (.string a)).setCell ⟨B5, 2, none⟩ (.int .i64 pa)) = ws at H5s H6s hHeld ⊢
            have HGs := Lib.hid (show v4.grownBy ws (some B5) from H5s.out.2)
            have H5t := Lib.hid H5s.out.1
            clear H5s hWs p0 pf0 r0 rf0 p1 pf1 r1 rf1 p2 pf2 r2 rf2
            have r0 : ws.cell? ⟨B6, 0, none⟩ = some (.string { data := #[] }) := H6s.out.cell 0
            have rf0 : ws.frozen? ⟨B6, 0, none⟩ = false := H6s.out.frozen 0
            have r1 : ws.cell? ⟨B6, 1, none⟩ = some (.string { data := #[] }) := H6s.out.cell 1
            have rf1 : ws.frozen? ⟨B6, 1, none⟩ = false := H6s.out.frozen 1
            have r2 : ws.cell? ⟨B6, 2, none⟩ = some (.int .i64 0) := H6s.out.cell 2
            have rf2 : ws.frozen? ⟨B6, 2, none⟩ = false := H6s.out.frozen 2
            refine wpAnyH_ready (rs := [7]) (by kernel_rfl) (by simp) ?_
            refine AllReadyH.cons (by simp only [List.getElem?_toArray, List.getElem?_cons_zero, List.getElem?_cons_succ] <;> rfl) (fun K hK => ?_) AllReadyH.nil
            go_simp
            refine hK.out _ _ (set3 HF6.out hHeld) (fun hHeld2 => ?_)
            clear hK K
            try simp only [Act.put, List.setIfInBounds_toArray, List.set_cons_zero, List.set_cons_succ]
            have H6u := Lib.hid (three H6s.out (.string prb) (.string b) (.int .i64 pb))
            have H5u := Lib.hid (H5t.out.grown H6u.out.2 (fun e => HNE.out (by injection e)))
            generalize hWu : (((ws.setCell ⟨B6, 0, none⟩ (.string prb)).setCell ⟨B6, 1, none⟩ (.string b)).setCell ⟨B6, 2, none⟩ (.int .i64 pb)) = wu at H6u H5u hHeld2 ⊢
            have HKu := Lib.hid (show Kp X wu from ((Kv4.out.grown HGs.out (fun k hk => by injection hk with hk; exact hk ▸ HG5.out)).grown H6u.out.2 (fun k hk => by injection hk with hk; exact hk ▸ HG6.out)))
            refine wpAnyH_done (by kernel_rfl) ?_ _
            refine NoPanic.normal ?_
            go_wp2_with fail
            go_meet
            exact ⟨B5, B6, rfl, rfl, H5u.out, H6u.out.1, HKu.out⟩
      · go_simp
        have Qv2 : Kp v1 (v1.alloc (.cells #[.string { data := #[] }, .string { data := #[] }, .int .i64 0] 75)) := (Kp.refl v1).alloc _
        have v2x0 := below_some Qv2 v1x0
        have v2x1 := below_some Qv2 v1x1
        have v2x2 := below_some Qv2 v1x2
        have v2x3 := below_some Qv2 v1x3
        have v2x4 := below_some Qv2 v1x4
        have v2x5 := below_some Qv2 v1x5
        refine hK.out _ _ ⟨v2x0, v2x1, v2x2, v2x3, v2x4, v2x5⟩ (fun hHeld => ?_)
        clear hK K
        try simp only [Act.put, List.setIfInBounds_toArray, List.set_cons_zero, List.set_cons_succ]
        have H6v2 := Lib.hid (Blk.new v1 75 #[.string { data := #[] }, .string { data := #[] }, .int .i64 0])
        have HF6 := Lib.hid (show b1 ≠ v1.heap.size ∧ b2 ≠ v1.heap.size from ⟨Nat.ne_of_lt (heap_lt_of_cell v1x0), Nat.ne_of_lt (heap_lt_of_cell v1x3)⟩)
        have HG6 := Lib.hid (show X.heap.size ≤ v1.heap.size from Kv1.out.size)
        have Kv2 := Lib.hid (Kv1.out.trans Qv2)
        clear Qv2
        generalize hW : v1.alloc (.cells #[.string { data := #[] }, .string { data := #[] }, .int .i64 0] 75) = v2 at *
        generalize hB : v1.heap.size = B6 at H6v2 HF6 HG6 ⊢
        clear hW hB
        refine wpAnyH_ready (rs := [3, 4]) (by kernel_rfl) (by simp) ?_
        refine AllReadyH.cons (by simp only [List.getElem?_toArray, List.getElem?_cons_zero, List.getElem?_cons_succ] <;> rfl) (fun K hK => ?_) (AllReadyH.cons (by simp only [List.getElem?_toArray, List.getElem?_cons_zero, List.getElem?_cons_succ] <;> rfl) (fun K hK => ?_) AllReadyH.nil)
        · go_simp
          refine (serverOf_any prb b pb _).mono ?_
          rintro e v3 ⟨rfl, hk⟩
          have Qv3 : Kp v2 v3 := hk
          have Kv3 := Lib.hid (Kv2.out.trans Qv3)
          have v3x0 := below_some Qv3 v2x0
          have v3x1 := below_some Qv3 v2x1
          have v3x2 := below_some Qv3 v2x2
          have v3x3 := below_some Qv3 v2x3
          have v3x4 := below_some Qv3 v2x4
          have v3x5 := below_some Qv3 v2x5
          have H6v3 := Lib.hid (H6v2.out.kp Qv3)
          clear hk Qv3
          go_wp2_with fail
          refine hK.out _ _ ⟨v3x0, v3x1, v3x2, v3x3, v3x4, v3x5⟩ (fun hHeld => ?_)
          clear hK K
          try simp only [Act.put, List.setIfInBounds_toArray, List.set_cons_zero, List.set_cons_succ]
          refine wpAnyH_ready (rs := [4]) (by kernel_rfl) (by simp) ?_
          refine AllReadyH.cons (by simp only [List.getElem?_toArray, List.getElem?_cons_zero, List.getElem?_cons_succ] <;> rfl) (fun K hK => ?_) AllReadyH.nil
          · go_simp
            have Qv4 : Kp v3 (v3.alloc (.cells #[.string { data := #[] }, .string { data := #[] }, .int .i64 0] 75)) := (Kp.refl v3).alloc _
            have v4x0 := below_some Qv4 v3x0
            have v4x1 := below_some Qv4 v3x1
            have v4x2 := below_some Qv4 v3x2
            have v4x3 := below_some Qv4 v3x3
            have v4x4 := below_some Qv4 v3x4
            have v4x5 := below_some Qv4 v3x5
            refine hK.out _ _ ⟨v4x0, v4x1, v4x2, v4x3, v4x4, v4x5⟩ (fun hHeld => ?_)
            clear hK K
            try simp only [Act.put, List.setIfInBounds_toArray, List.set_cons_zero, List.set_cons_succ]
            have H5v4 := Lib.hid (Blk.new v3 75 #[.string { data := #[] }, .string { data := #[] }, .int .i64 0])
            have H6v4 := Lib.hid (H6v3.out.kp Qv4)
            have HNE := Lib.hid (show v3.heap.size ≠ B6 from Nat.ne_of_gt H6v3.out.lt)
            have HF5 := Lib.hid (show b1 ≠ v3.heap.size ∧ b2 ≠ v3.heap.size from ⟨Nat.ne_of_lt (heap_lt_of_cell v3x0), Nat.ne_of_lt (heap_lt_of_cell v3x3)⟩)
            have HG5 := Lib.hid (show X.heap.size ≤ v3.heap.size from Kv3.out.size)
            have Kv4 := Lib.hid (Kv3.out.trans Qv4)
            clear Qv4
            generalize hW : v3.alloc (.cells #[.string { data := #[] }, .string { data := #[] }, .int .i64 0] 75) = v4 at *
            generalize hB : v3.heap.size = B5 at H5v4 HF5 HG5 HNE ⊢
            clear hW hB
            have hne : B5 ≠ B6 := HNE.out
            have hne' : B6 ≠ B5 := fun e => HNE.out e.symm
            have p0 : v4.cell? ⟨B5, 0, none⟩ = some (.string { data := #[] }) := H5v4.out.cell 0
            have pf0 : v4.frozen? ⟨B5, 0, none⟩ = false := H5v4.out.frozen 0
            have p1 : v4.cell? ⟨B5, 1, none⟩ = some (.string { data := #[] }) := H5v4.out.cell 1
            have pf1 : v4.frozen? ⟨B5, 1, none⟩ = false := H5v4.out.frozen 1
            have p2 : v4.cell? ⟨B5, 2, none⟩ = some (.int .i64 0) := H5v4.out.cell 2
            have pf2 : v4.frozen? ⟨B5, 2, none⟩ = false := H5v4.out.frozen 2
            have r0 : v4.cell? ⟨B6, 0, none⟩ = some (.string { data := #[] }) := H6v4.out.cell 0
            have rf0 : v4.frozen? ⟨B6, 0, none⟩ = false := H6v4.out.frozen 0
            have r1 : v4.cell? ⟨B6, 1, none⟩ = some (.string { data := #[] }) := H6v4.out.cell 1
            have rf1 : v4.frozen? ⟨B6, 1, none⟩ = false := H6v4.out.frozen 1
            have r2 : v4.cell? ⟨B6, 2, none⟩ = some (.int .i64 0) := H6v4.out.cell 2
            have rf2 : v4.frozen? ⟨B6, 2, none⟩ = false := H6v4.out.frozen 2
            refine wpAnyH_ready (rs := [6]) (by kernel_rfl) (by simp) ?_
            refine AllReadyH.cons (by simp only [List.getElem?_toArray, List.getElem?_cons_zero, List.getElem?_cons_succ] <;> rfl) (fun K hK => ?_) AllReadyH.nil
            go_simp
            refine hK.out _ _ (set3 HF5.out ⟨v4x0, v4x1, v4x2, v4x3, v4x4, v4x5⟩) (fun hHeld => ?_)
            clear hK K
            try simp only [Act.put, List.setIfInBounds_toArray, List.set_cons_zero, List.set_cons_succ]
            have H5s := Lib.hid (three H5v4.out (.string pra) (.string a) (.int .i64 pa))
            have H6s := Lib.hid (H6v4.out.grown H5s.out.2 (fun e => HNE.out (by injection e with e; exact e.symm)))
            generalize hWs : (((v4.setCell ⟨B5, 0, none⟩ (.string pra)).setCell ⟨B5, 1, none⟩ (.string a)).setCell ⟨B5, 2, none⟩ (.int .i64 pa)) = ws at H5s H6s hHeld ⊢
            have HGs := Lib.hid (show v4.grownBy ws (some B5) from H5s.out.2)
            have H5t := Lib.hid H5s.out.1
            clear H5s hWs p0 pf0 r0 rf0 p1 pf1 r1 rf1 p2 pf2 r2 rf2
            have r0 : ws.cell? ⟨B6, 0, none⟩ = some (.string { data := #[] }) := H6s.out.cell 0
            have rf0 : ws.frozen? ⟨B6, 0, none⟩ = false := H6s.out.frozen 0
            have r1 : ws.cell? ⟨B6, 1, none⟩ = some (.string { data := #[] }) := H6s.out.cell 1
            have rf1 : ws.frozen? ⟨B6, 1, none⟩ = false := H6s.out.frozen 1
            have r2 : ws.cell? ⟨B6, 2, none⟩ = some (.int .i64 0) := H6s.out.cell 2
            have rf2 : ws.frozen? ⟨B6, 2, none⟩ = false := H6s.out.frozen 2
            refine wpAnyH_ready (rs := [7]) (by kernel_rfl) (by simp) ?_
            refine AllReadyH.cons (by simp only [List.getElem?_toArray, List.getElem?_cons_zero, List.getElem?_cons_succ] <;> rfl) (fun K hK => ?_) AllReadyH.nil
            go_simp
            refine hK.out _ _ (set3 HF6.out hHeld) (fun hHeld2 => ?_)
            clear hK K
            try simp only [Act.put, List.setIfInBounds_toArray, List.set_cons_zero, List.set_cons_succ]
            have H6u := Lib.hid (three H6s.out (.string prb) (.string b) (.int .i64 pb))
            have H5u := Lib.hid (H5t.out.grown H6u.out.2 (fun e => HNE.out (by injection e)))
            generalize hWu : (((ws.setCell ⟨B6, 0, none⟩ (.string prb)).setCell ⟨B6, 1, none⟩ (.string b)).setCell ⟨B6, 2, none⟩ (.int .i64 pb)) = wu at H6u H5u hHeld2 ⊢
            have HKu := Lib.hid (show Kp X wu from ((Kv4.out.grown HGs.out (fun k hk => by injection hk with hk; exact hk ▸ HG5.out)).grown H6u.out.2 (fun k hk => by injection hk with hk; exact hk ▸ HG6.out)))
            refine wpAnyH_done (by kernel_rfl) ?_ _
            refine NoPanic.normal ?_
            go_wp2_with fail
            go_meet
            exact ⟨B5, B6, rfl, rfl, H5u.out, H6u.out.1, HKu.out⟩
        · go_simp
          have Qv3 : Kp v2 (v2.alloc (.cells #[.string { data := #[] }, .string { data := #[] }, .int .i64 0] 75)) := (Kp.refl v2).alloc _
          have v3x0 := below_some Qv3 v2x0
          have v3x1 := below_some Qv3 v2x1
          have v3x2 := below_some Qv3 v2x2
          have v3x3 := below_some Qv3 v2x3
          have v3x4 := below_some Qv3 v2x4
          have v3x5 := below_some Qv3 v2x5
          refine hK.out _ _ ⟨v3x0, v3x1, v3x2, v3x3, v3x4, v3x5⟩ (fun hHeld => ?_)
          clear hK K
          try simp only [Act.put, List.setIfInBounds_toArray, List.set_cons_zero, List.set_cons_succ]
          have H5v3 := Lib.hid (Blk.new v2 75 #[.string { data := #[] }, .string { data := #[] }, .int .i64 0])
          have H6v3 := Lib.hid (H6v2.out.kp Qv3)
          have HNE := Lib.hid (show v2.heap.size ≠ B6 from Nat.ne_of_gt H6v2.out.lt)
          have HF5 := Lib.hid (show b1 ≠ v2.heap.size ∧ b2 ≠ v2.heap.size from ⟨Nat.ne_of_lt (heap_lt_of_cell v2x0), Nat.ne_of_lt (heap_lt_of_cell v2x3)⟩)
          have HG5 := Lib.hid (show X.heap.size ≤ v2.heap.size from Kv2.out.size)
          have Kv3 := Lib.hid (Kv2.out.trans Qv3)
          clear Qv3
          generalize hW : v2.alloc (.cells #[.string { data := #[] }, .string { data := #[] }, .int .i64 0] 75) = v3 at *
          generalize hB : v2.heap.size = B5 at H5v3 HF5 HG5 HNE ⊢
          clear hW hB
          refine wpAnyH_ready (rs := [3]) (by kernel_rfl) (by simp) ?_
          refine AllReadyH.cons (by simp only [List.getElem?_toArray, List.getElem?_cons_zero, List.getElem?_cons_succ] <;> rfl) (fun K hK => ?_) AllReadyH.nil
          · go_simp
            refine (serverOf_any prb b pb _).mono ?_
            rintro e v4 ⟨rfl, hk⟩
            have Qv4 : Kp v3 v4 := hk
            have Kv4 := Lib.hid (Kv3.out.trans Qv4)
            have v4x0 := below_some Qv4 v3x0
            have v4x1 := below_some Qv4 v3x1
            have v4x2 := below_some Qv4 v3x2
            have v4x3 := below_some Qv4 v3x3
            have v4x4 := below_some Qv4 v3x4
            have v4x5 := below_some Qv4 v3x5
            have H5v4 := Lib.hid (H5v3.out.kp Qv4)
            have H6v4 := Lib.hid (H6v3.out.kp Qv4)
            clear hk Qv4
            go_wp2_with fail
            refine hK.out _ _ ⟨v4x0, v4x1, v4x2, v4x3, v4x4, v4x5⟩ (fun hHeld => ?_)
            clear hK K
            try simp only [Act.put, List.setIfInBounds_toArray, List.set_cons_zero, List.set_cons_succ]
            have hne : B5 ≠ B6 := HNE.out
            have hne' : B6 ≠ B5 := fun e => HNE.out e.symm
            have p0 : v4.cell? ⟨B5, 0, none⟩ = some (.string { data := #[] }) := H5v4.out.cell 0
            have pf0 : v4.frozen? ⟨B5, 0, none⟩ = false := H5v4.out.frozen 0
            have p1 : v4.cell? ⟨B5, 1, none⟩ = some (.string { data := #[] }) := H5v4.out.cell 1
            have pf1 : v4.frozen? ⟨B5, 1, none⟩ = false := H5v4.out.frozen 1
            have p2 : v4.cell? ⟨B5, 2, none⟩ = some (.int .i64 0) := H5v4.out.cell 2
            have pf2 : v4.frozen? ⟨B5, 2, none⟩ = false := H5v4.out.frozen 2
            have r0 : v4.cell? ⟨B6, 0, none⟩ = some (.string { data := #[] }) := H6v4.out.cell 0
            have rf0 : v4.frozen? ⟨B6, 0, none⟩ = false := H6v4.out.frozen 0
            have r1 : v4.cell? ⟨B6, 1, none⟩ = some (.string { data := #[] }) := H6v4.out.cell 1
            have rf1 : v4.frozen? ⟨B6, 1, none⟩ = false := H6v4.out.frozen 1
            have r2 : v4.cell? ⟨B6, 2, none⟩ = some (.int .i64 0) := H6v4.out.cell 2
            have rf2 : v4.frozen? ⟨B6, 2, none⟩ = false := H6v4.out.frozen 2
            refine wpAnyH_ready (rs := [6]) (by kernel_rfl) (by simp) ?_
            refine AllReadyH.cons (by simp only [List.getElem?_toArray, List.getElem?_cons_zero, List.getElem?_cons_succ] <;> rfl) (fun K hK => ?_) AllReadyH.nil
            go_simp
            refine hK.out _ _ (set3 HF5.out ⟨v4x0, v4x1, v4x2, v4x3, v4x4, v4x5⟩) (fun hHeld => ?_)
            clear hK K
            try simp only [Act.put, List.setIfInBounds_toArray, List.set_cons_zero, List.set_cons_succ]
            have H5s := Lib.hid (three H5v4.out (.string pra) (.string a) (.int .i64 pa))
            have H6s := Lib.hid (H6v4.out.grown H5s.out.2 (fun e => HNE.out (by injection e with e; exact e.symm)))
            generalize hWs : (((v4.setCell ⟨B5, 0, none⟩ (.string pra)).setCell ⟨B5, 1, none⟩ (.string a)).setCell ⟨B5, 2, none⟩ (.int .i64 pa)) = ws at H5s H6s hHeld ⊢
            have HGs := Lib.hid (show v4.grownBy ws (some B5) from H5s.out.2)
            have H5t := Lib.hid H5s.out.1
            clear H5s hWs p0 pf0 r0 rf0 p1 pf1 r1 rf1 p2 pf2 r2 rf2
            have r0 : ws.cell? ⟨B6, 0, none⟩ = some (.string { data := #[] }) := H6s.out.cell 0
            have rf0 : ws.frozen? ⟨B6, 0, none⟩ = false := H6s.out.frozen 0
            have r1 : ws.cell? ⟨B6, 1, none⟩ = some (.string { data := #[] }) := H6s.out.cell 1
            have rf1 : ws.frozen? ⟨B6, 1, none⟩ = false := H6s.out.frozen 1
            have r2 : ws.cell? ⟨B6, 2, none⟩ = some (.int .i64 0) := H6s.out.cell 2
            have rf2 : ws.frozen? ⟨B6, 2, none⟩ = false := H6s.out.frozen 2
            refine wpAnyH_ready (rs := [7]) (by kernel_rfl) (by simp) ?_
            refine AllReadyH.cons (by simp only [List.getElem?_toArray, List.getElem?_cons_zero, List.getElem?_cons_succ] <;> rfl) (fun K hK => ?_) AllReadyH.nil
            go_simp
            refine hK.out _ _ (set3 HF6.out hHeld) (fun hHeld2 => ?_)
            clear hK K
            try simp only [Act.put, List.setIfInBounds_toArray, List.set_cons_zero, List.set_cons_succ]
            have H6u := Lib.hid (three H6s.out (.string prb) (.string b) (.int .i64 pb))
            have H5u := Lib.hid (H5t.out.grown H6u.out.2 (fun e => HNE.out (by injection e)))
            generalize hWu : (((ws.setCell ⟨B6, 0, none⟩ (.string prb)).setCell ⟨B6, 1, none⟩ (.string b)).setCell ⟨B6, 2, none⟩ (.int .i64 pb)) = wu at H6u H5u hHeld2 ⊢
            have HKu := Lib.hid (show Kp X wu from ((Kv4.out.grown HGs.out (fun k hk => by injection hk with hk; exact hk ▸ HG5.out)).grown H6u.out.2 (fun k hk => by injection hk with hk; exact hk ▸ HG6.out)))
            refine wpAnyH_done (by kernel_rfl) ?_ _
            refine NoPanic.normal ?_
            go_wp2_with fail
            go_meet
            exact ⟨B5, B6, rfl, rfl, H5u.out, H6u.out.1, HKu.out⟩
    · go_simp
      have Qv1 : Kp v0 (v0.alloc (.cells #[.string { data := #[] }, .string { data := #[] }, .int .i64 0] 75)) := (Kp.refl v0).alloc _
      have v1x0 := below_some Qv1 v0x0
      have v1x1 := below_some Qv1 v0x1
      have v1x2 := below_some Qv1 v0x2
      have v1x3 := below_some Qv1 v0x3
      have v1x4 := below_some Qv1 v0x4
      have v1x5 := below_some Qv1 v0x5
      refine hK.out _ _ ⟨v1x0, v1x1, v1x2, v1x3, v1x4, v1x5⟩ (fun hHeld => ?_)
      clear hK K
      try simp only [Act.put, List.setIfInBounds_toArray, List.set_cons_zero, List.set_cons_succ]
      have H5v1 := Lib.hid (Blk.new v0 75 #[.string { data := #[] }, .string { data := #[] }, .int .i64 0])
      have HF5 := Lib.hid (show b1 ≠ v0.heap.size ∧ b2 ≠ v0.heap.size from ⟨Nat.ne_of_lt (heap_lt_of_cell v0x0), Nat.ne_of_lt (heap_lt_of_cell v0x3)⟩)
      have HG5 := Lib.hid (show X.heap.size ≤ v0.heap.size from Kv0.out.size)
      have Kv1 := Lib.hid (Kv0.out.trans Qv1)
      clear Qv1
      generalize hW : v0.alloc (.cells #[.string { data := #[] }, .string { data := #[] }, .int .i64 0] 75) = v1 at *
      generalize hB : v0.heap.size = B5 at H5v1 HF5 HG5 ⊢
      clear hW hB
      refine wpAnyH_ready (rs := [1, 5]) (by kernel_rfl) (by simp) ?_
      refine AllReadyH.cons (by simp only [List.getElem?_toArray, List.getElem?_cons_zero, List.getElem?_cons_succ] <;> rfl) (fun K hK => ?_) (AllReadyH.cons (by simp only [List.getElem?_toArray, List.getElem?_cons_zero, List.getElem?_cons_succ] <;> rfl) (fun K hK => ?_) AllReadyH.nil)
      · go_simp
        refine (serverOf_any pra a pa _).mono ?_
        rintro e v2 ⟨rfl, hk⟩
        have Qv2 : Kp v1 v2 := hk
        have Kv2 := Lib.hid (Kv1.out.trans Qv2)
        have v2x0 := below_some Qv2 v1x0
        have v2x1 := below_some Qv2 v1x1
        have v2x2 := below_some Qv2 v1x2
        have v2x3 := below_some Qv2 v1x3
        have v2x4 := below_some Qv2 v1x4
        have v2x5 := below_some Qv2 v1x5
        have H5v2 := Lib.hid (H5v1.out.kp Qv2)
        clear hk Qv2
        go_wp2_with fail
        refine hK.out _ _ ⟨v2x0, v2x1, v2x2, v2x3, v2x4, v2x5⟩ (fun hHeld => ?_)
        clear hK K
        try simp only [Act.put, List.setIfInBounds_toArray, List.set_cons_zero, List.set_cons_succ]
        refine wpAnyH_ready (rs := [3, 5]) (by kernel_rfl) (by simp) ?_
        refine AllReadyH.cons (by simp only [List.getElem?_toArray, List.getElem?_cons_zero, List.getElem?_cons_succ] <;> rfl) (fun K hK => ?_) (AllReadyH.cons (by simp only [List.getElem?_toArray, List.getElem?_cons_zero, List.getElem?_cons_succ] <;> rfl) (fun K hK => ?_) AllReadyH.nil)
        · go_simp
          refine (serverOf_any prb b pb _).mono ?_
          rintro e v3 ⟨rfl, hk⟩
          have Qv3 : Kp v2 v3 := hk
          have Kv3 := Lib.hid (Kv2.out.trans Qv3)
          have v3x0 := below_some Qv3 v2x0
          have v3x1 := below_some Qv3 v2x1
          have v3x2 := below_some Qv3 v2x2
          have v3x3 := below_some Qv3 v2x3
          have v3x4 := below_some Qv3 v2x4
          have v3x5 := below_some Qv3 v2x5
          have H5v3 := Lib.hid (H5v2.out.kp Qv3)
          clear hk Qv3
          go_wp2_with fail
          refine hK.out _ _ ⟨v3x0, v3x1, v3x2, v3x3, v3x4, v3x5⟩ (fun hHeld => ?_)
          clear hK K
          try simp only [Act.put, List.setIfInBounds_toArray, List.set_cons_zero, List.set_cons_succ]
          refine wpAnyH_ready (rs := [5]) (by kernel_rfl) (by simp) ?_
          refine AllReadyH.cons (by simp only [List.getElem?_toArray, List.getElem?_cons_zero, List.getElem?_cons_succ] <;> rfl) (fun K hK => ?_) AllReadyH.nil
          · go_simp
            have Qv4 : Kp v3 (v3.alloc (.cells #[.string { data := #[] }, .string { data := #[] }, .int .i64 0] 75)) := (Kp.refl v3).alloc _
            have v4x0 := below_some Qv4 v3x0
            have v4x1 := below_some Qv4 v3x1
            have v4x2 := below_some Qv4 v3x2
            have v4x3 := below_some Qv4 v3x3
            have v4x4 := below_some Qv4 v3x4
            have v4x5 := below_some Qv4 v3x5
            refine hK.out _ _ ⟨v4x0, v4x1, v4x2, v4x3, v4x4, v4x5⟩ (fun hHeld => ?_)
            clear hK K
            try simp only [Act.put, List.setIfInBounds_toArray, List.set_cons_zero, List.set_cons_succ]
            have H6v4 := Lib.hid (Blk.new v3 75 #[.string { data := #[] }, .string { data := #[] }, .int .i64 0])
            have H5v4 := Lib.hid (H5v3.out.kp Qv4)
            have HNE := Lib.hid (show B5 ≠ v3.heap.size from Nat.ne_of_lt H5v3.out.lt)
            have HF6 := Lib.hid (show b1 ≠ v3.heap.size ∧ b2 ≠ v3.heap.size from ⟨Nat.ne_of_lt (heap_lt_of_cell v3x0), Nat.ne_of_lt (heap_lt_of_cell v3x3)⟩)
            have HG6 := Lib.hid (show X.heap.size ≤ v3.heap.size from Kv3.out.size)
            have Kv4 := Lib.hid (Kv3.out.trans Qv4)
            clear Qv4
            generalize hW : v3.alloc (.cells #[.string { data := #[] }, .string { data := #[] }, .int .i64 0] 75) = v4 at *
            generalize hB : v3.heap.size = B6 at H6v4 HF6 HG6 HNE ⊢
            clear hW hB
            have hne : B5 ≠ B6 := HNE.out
            have hne' : B6 ≠ B5 := fun e => HNE.out e.symm
            have p0 : v4.cell? ⟨B5, 0, none⟩ = some (.string { data := #[] }) := H5v4.out.cell 0
            have pf0 : v4.frozen? ⟨B5, 0, none⟩ = false := H5v4.out.frozen 0
            have p1 : v4.cell? ⟨B5, 1, none⟩ = some (.string { data := #[] }) := H5v4.out.cell 1
            have pf1 : v4.frozen? ⟨B5, 1, none⟩ = false := H5v4.out.frozen 1
            have p2 : v4.cell? ⟨B5, 2, none⟩ = some (.int .i64 0) := H5v4.out.cell 2
            have pf2 : v4.frozen? ⟨B5, 2, none⟩ = false := H5v4.out.frozen 2
            have r0 : v4.cell? ⟨B6, 0, none⟩ = some (.string { data := #[] }) := H6v4.out.cell 0
            have rf0 : v4.frozen? ⟨B6, 0, none⟩ = false := H6v4.out.frozen 0
            have r1 : v4.cell? ⟨B6, 1, none⟩ = some (.string { data := #[] }) := H6v4.out.cell 1
            have rf1 : v4.frozen? ⟨B6, 1, none⟩ = false := H6v4.out.frozen 1
            have r2 : v4.cell? ⟨B6, 2, none⟩ = some (.int .i64 0) := H6v4.out.cell 2
            have rf2 : v4.frozen? ⟨B6, 2, none⟩ = false := H6v4.out.frozen 2
            refine wpAnyH_ready (rs := [6]) (by kernel_rfl) (by simp) ?_
            refine AllReadyH.cons (by simp only [List.getElem?_toArray, List.getElem?_cons_zero, List.getElem?_cons_succ] <;> rfl) (fun K hK => ?_) AllReadyH.nil
            go_simp
            refine hK.out _ _ (set3 HF5.out ⟨v4x0, v4x1, v4x2, v4x3, v4x4, v4x5⟩) (fun hHeld => ?_)
            clear hK K
            try simp only [Act.put, List.setIfInBounds_toArray, List.set_cons_zero, List.set_cons_succ]
            have H5s := Lib.hid (three H5v4.out (.string pra) (.string a) (.int .i64 pa))
            have H6s := Lib.hid (H6v4.out.grown H5s.out.2 (fun e => HNE.out (by injection e with e; exact e.symm)))
            generalize hWs : (((v4.setCell ⟨B5, 0, none⟩ (.string pra)).setCell ⟨B5, 1, none⟩ (.string a)).setCell ⟨B5, 2, none⟩ (.int .i64 pa)) = ws at H5s H6s hHeld ⊢
            have HGs := Lib.hid (show v4.grownBy ws (some B5) from H5s.out.2)
            have H5t := Lib.hid H5s.out.1
            clear H5s hWs p0 pf0 r0 rf0 p1 pf1 r1 rf1 p2 pf2 r2 rf2
            have r0 : ws.cell? ⟨B6, 0, none⟩ = some (.string { data := #[] }) := H6s.out.cell 0
            have rf0 : ws.frozen? ⟨B6, 0, none⟩ = false := H6s.out.frozen 0
            have r1 : ws.cell? ⟨B6, 1, none⟩ = some (.string { data := #[] }) := H6s.out.cell 1
            have rf1 : ws.frozen? ⟨B6, 1, none⟩ = false := H6s.out.frozen 1
            have r2 : ws.cell? ⟨B6, 2, none⟩ = some (.int .i64 0) := H6s.out.cell 2
            have rf2 : ws.frozen? ⟨B6, 2, none⟩ = false := H6s.out.frozen 2
            refine wpAnyH_ready (rs := [7]) (by kernel_rfl) (by simp) ?_
            refine AllReadyH.cons (by simp only [List.getElem?_toArray, List.getElem?_cons_zero, List.getElem?_cons_succ] <;> rfl) (fun K hK => ?_) AllReadyH.nil
            go_simp
            refine hK.out _ _ (set3 HF6.out hHeld) (fun hHeld2 => ?_)
            clear hK K
            try simp only [Act.put, List.setIfInBounds_toArray, List.set_cons_zero, List.set_cons_succ]
            have H6u := Lib.hid (three H6s.out (.string prb) (.string b) (.int .i64 pb))
            have H5u := Lib.hid (H5t.out.grown H6u.out.2 (fun e => HNE.out (by injection e)))
            generalize hWu : (((ws.setCell ⟨B6, 0, none⟩ (.string prb)).setCell ⟨B6, 1, none⟩ (.string b)).setCell ⟨B6, 2, none⟩ (.int .i64 pb)) = wu at H6u H5u hHeld2 ⊢
            have HKu := Lib.hid (show Kp X wu from ((Kv4.out.grown HGs.out (fun k hk => by injection hk with hk; exact hk ▸ HG5.out)).grown H6u.out.2 (fun k hk => by injection hk with hk; exact hk ▸ HG6.out)))
            refine wpAnyH_done (by kernel_rfl) ?_ _
            refine NoPanic.normal ?_
            go_wp2_with fail
            go_meet
            exact ⟨B5, B6, rfl, rfl, H5u.out, H6u.out.1, HKu.out⟩
        · go_simp
          have Qv3 : Kp v2 (v2.alloc (.cells #[.string { data := #[] }, .string { data := #[] }, .int .i64 0] 75)) := (Kp.refl v2).alloc _
          have v3x0 := below_some Qv3 v2x0
          have v3x1 := below_some Qv3 v2x1
          have v3x2 := below_some Qv3 v2x2
          have v3x3 := below_some Qv3 v2x3
          have v3x4 := below_some Qv3 v2x4
          have v3x5 := below_some Qv3 v2x5
          refine hK.out _ _ ⟨v3x0, v3x1, v3x2, v3x3, v3x4, v3x5⟩ (fun hHeld => ?_)
          clear hK K
          try simp only [Act.put, List.setIfInBounds_toArray, List.set_cons_zero, List.set_cons_succ]
          have H6v3 := Lib.hid (Blk.new v2 75 #[.string { data := #[] }, .string { data := #[] }, .int .i64 0])
          have H5v3 := Lib.hid (H5v2.out.kp Qv3)
          have HNE := Lib.hid (show B5 ≠ v2.heap.size from Nat.ne_of_lt H5v2.out.lt)
          have HF6 := Lib.hid (show b1 ≠ v2.heap.size ∧ b2 ≠ v2.heap.size from ⟨Nat.ne_of_lt (heap_lt_of_cell v2x0), Nat.ne_of_lt (heap_lt_of_cell v2x3)⟩)
          have HG6 := Lib.hid (show X.heap.size ≤ v2.heap.size from Kv2.out.size)
          have Kv3 := Lib.hid (Kv2.out.trans Qv3)
          clear Qv3
          generalize hW : v2.alloc (.cells #[.string { data := #[] }, .string { data := #[] }, .int .i64 0] 75) = v3 at *
          generalize hB : v2.heap.size = B6 at H6v3 HF6 HG6 HNE ⊢
          clear hW hB
          refine wpAnyH_ready (rs := [3]) (by kernel_rfl) (by simp) ?_
          refine AllReadyH.cons (by simp only [List.getElem?_toArray, List.getElem?_cons_zero, List.getElem?_cons_succ] <;> rfl) (fun K hK => ?_) AllReadyH.nil
          · go_simp
            refine (serverOf_any prb b pb _).mono ?_
            rintro e v4 ⟨rfl, hk⟩
            have Qv4 : Kp v3 v4 := hk
            have Kv4 := Lib.hid (Kv3.out.trans Qv4)
            have v4x0 := below_some Qv4 v3x0
            have v4x1 := below_some Qv4 v3x1
            have v4x2 := below_some Qv4 v3x2
            have v4x3 := below_some Qv4 v3x3
            have v4x4 := below_some Qv4 v3x4
            have v4x5 := below_some Qv4 v3x5
            have H5v4 := Lib.hid (H5v3.out.kp Qv4)
            have H6v4 := Lib.hid (H6v3.out.kp Qv4)
            clear hk Qv4
            go_wp2_with fail
            refine hK.out _ _ ⟨v4x0, v4x1, v4x2, v4x3, v4x4, v4x5⟩ (fun hHeld => ?_)
            clear hK K
            try simp only [Act.put, List.setIfInBounds_toArray, List.set_cons_zero, List.set_cons_succ]
            have hne : B5 ≠ B6 := HNE.out
            have hne' : B6 ≠ B5 := fun e => HNE.out e.symm
            have p0 : v4.cell? ⟨B5, 0, none⟩ = some (.string { data := #[] }) := H5v4.out.cell 0
            have pf0 : v4.frozen? ⟨B5, 0, none⟩ = false := H5v4.out.frozen 0
            have p1 : v4.cell? ⟨B5, 1, none⟩ = some (.string { data := #[] }) := H5v4.out.cell 1
            have pf1 : v4.frozen? ⟨B5, 1, none⟩ = false := H5v4.out.frozen 1
            have p2 : v4.cell? ⟨B5, 2, none⟩ = some (.int .i64 0) := H5v4.out.cell 2
            have pf2 : v4.frozen? ⟨B5, 2, none⟩ = false := H5v4.out.frozen 2
            have r0 : v4.cell? ⟨B6, 0, none⟩ = some (.string { data := #[] }) := H6v4.out.cell 0
            have rf0 : v4.frozen? ⟨B6, 0, none⟩ = false := H6v4.out.frozen 0
            have r1 : v4.cell? ⟨B6, 1, none⟩ = some (.string { data := #[] }) := H6v4.out.cell 1
            have rf1 : v4.frozen? ⟨B6, 1, none⟩ = false := H6v4.out.frozen 1
            have r2 : v4.cell? ⟨B6, 2, none⟩ = some (.int .i64 0) := H6v4.out.cell 2
            have rf2 : v4.frozen? ⟨B6, 2, none⟩ = false := H6v4.out.frozen 2
            refine wpAnyH_ready (rs := [6]) (by kernel_rfl) (by simp) ?_
            refine AllReadyH.cons (by simp only [List.getElem?_toArray, List.getElem?_cons_zero, List.getElem?_cons_succ] <;> rfl) (fun K hK => ?_) AllReadyH.nil
            go_simp
            refine hK.out _ _ (set3 HF5.out ⟨v4x0, v4x1, v4x2, v4x3, v4x4, v4x5⟩) (fun hHeld => ?_)
            clear hK K
            try simp only [Act.put, List.setIfInBounds_toArray, List.set_cons_zero, List.set_cons_succ]
            have H5s := Lib.hid (three H5v4.out (.string pra) (.string a) (.int .i64 pa))
            have H6s := Lib.hid (H6v4.out.grown H5s.out.2 (fun e => HNE.out (by injection e with e; exact e.symm)))
            generalize hWs : (((v4.setCell ⟨B5, 0, none⟩ (.string pra)).setCell ⟨B5, 1, none⟩ (.string a)).setCell ⟨B5, 2, none⟩ (.int .i64 pa)) = ws at H5s H6s hHeld ⊢
            have HGs := Lib.hid (show v4.grownBy ws (some B5) from H5s.out.2)
            have H5t := Lib.hid H5s.out.1
            clear H5s hWs p0 pf0 r0 rf0 p1 pf1 r1 rf1 p2 pf2 r2 rf2
            have r0 : ws.cell? ⟨B6, 0, none⟩ = some (.string { data := #[] }) := H6s.out.cell 0
            have rf0 : ws.frozen? ⟨B6, 0, none⟩ = false := H6s.out.frozen 0
            have r1 : ws.cell? ⟨B6, 1, none⟩ = some (.string { data := #[] }) := H6s.out.cell 1
            have rf1 : ws.frozen? ⟨B6, 1, none⟩ = false := H6s.out.frozen 1
            have r2 : ws.cell? ⟨B6, 2, none⟩ = some (.int .i64 0) := H6s.out.cell 2
            have rf2 : ws.frozen? ⟨B6, 2, none⟩ = false := H6s.out.frozen 2
            refine wpAnyH_ready (rs := [7]) (by kernel_rfl) (by simp) ?_
            refine AllReadyH.cons (by simp only [List.getElem?_toArray, List.getElem?_cons_zero, List.getElem?_cons_succ] <;> rfl) (fun K hK => ?_) AllReadyH.nil
            go_simp
            refine hK.out _ _ (set3 HF6.out hHeld) (fun hHeld2 => ?_)
            clear hK K
            try simp only [Act.put, List.setIfInBounds_toArray, List.set_cons_zero, List.set_cons_succ]
            have H6u := Lib.hid (three H6s.out (.string prb) (.string b) (.int .i64 pb))
            have H5u := Lib.hid (H5t.out.grown H6u.out.2 (fun e => HNE.out (by injection e)))
            generalize hWu : (((ws.setCell ⟨B6, 0, none⟩ (.string prb)).setCell ⟨B6, 1, none⟩ (.string b)).setCell ⟨B6, 2, none⟩ (.int .i64 pb)) = wu at H6u H5u hHeld2 ⊢
            have HKu := Lib.hid (show Kp X wu from ((Kv4.out.grown HGs.out (fun k hk => by injection hk with hk; exact hk ▸ HG5.out)).grown H6u.out.2 (fun k hk => by injection hk with hk; exact hk ▸ HG6.out)))
            refine wpAnyH_done (by kernel_rfl) ?_ _
            refine NoPanic.normal ?_
            go_wp2_with fail
            go_meet
            exact ⟨B5, B6, rfl, rfl, H5u.out, H6u.out.1, HKu.out⟩
      · go_simp
        have Qv2 : Kp v1 (v1.alloc (.cells #[.string { data := #[] }, .string { data := #[] }, .int .i64 0] 75)) := (Kp.refl v1).alloc _
        have v2x0 := below_some Qv2 v1x0
        have v2x1 := below_some Qv2 v1x1
        have v2x2 := below_some Qv2 v1x2
        have v2x3 := below_some Qv2 v1x3
        have v2x4 := below_some Qv2 v1x4
        have v2x5 := below_some Qv2 v1x5
        refine hK.out _ _ ⟨v2x0, v2x1, v2x2, v2x3, v2x4, v2x5⟩ (fun hHeld => ?_)
        clear hK K
        try simp only [Act.put, List.setIfInBounds_toArray, List.set_cons_zero, List.set_cons_succ]
        have H6v2 := Lib.hid (Blk.new v1 75 #[.string { data := #[] }, .string { data := #[] }, .int .i64 0])
        have H5v2 := Lib.hid (H5v1.out.kp Qv2)
        have HNE := Lib.hid (show B5 ≠ v1.heap.size from Nat.ne_of_lt H5v1.out.lt)
        have HF6 := Lib.hid (show b1 ≠ v1.heap.size ∧ b2 ≠ v1.heap.size from ⟨Nat.ne_of_lt (heap_lt_of_cell v1x0), Nat.ne_of_lt (heap_lt_of_cell v1x3)⟩)
        have HG6 := Lib.hid (show X.heap.size ≤ v1.heap.size from Kv1.out.size)
        have Kv2 := Lib.hid (Kv1.out.trans Qv2)
        clear Qv2
        generalize hW : v1.alloc (.cells #[.string { data := #[] }, .string { data := #[] }, .int .i64 0] 75) = v2 at *
        generalize hB : v1.heap.size = B6 at H6v2 HF6 HG6 HNE ⊢
        clear hW hB
        refine wpAnyH_ready (rs := [1]) (by kernel_rfl) (by simp) ?_
        refine AllReadyH.cons (by simp only [List.getElem?_toArray, List.getElem?_cons_zero, List.getElem?_cons_succ] <;> rfl) (fun K hK => ?_) AllReadyH.nil
        · go_simp
          refine (serverOf_any pra a pa _).mono ?_
          rintro e v3 ⟨rfl, hk⟩
          have Qv3 : Kp v2 v3 := hk
          have Kv3 := Lib.hid (Kv2.out.trans Qv3)
          have v3x0 := below_some Qv3 v2x0
          have v3x1 := below_some Qv3 v2x1
          have v3x2 := below_some Qv3 v2x2
          have v3x3 := below_some Qv3 v2x3
          have v3x4 := below_some Qv3 v2x4
          have v3x5 := below_some Qv3 v2x5
          have H5v3 := Lib.hid (H5v2.out.kp Qv3)
          have H6v3 := Lib.hid (H6v2.out.kp Qv3)
          clear hk Qv3
          go_wp2_with fail
          refine hK.out _ _ ⟨v3x0, v3x1, v3x2, v3x3, v3x4, v3x5⟩ (fun hHeld => ?_)
          clear hK K
          try simp only [Act.put, List.setIfInBounds_toArray, List.set_cons_zero, List.set_cons_succ]
          refine wpAnyH_ready (rs := [3]) (by kernel_rfl) (by simp) ?_
          refine AllReadyH.cons (by simp only [List.getElem?_toArray, List.getElem?_cons_zero, List.getElem?_cons_succ] <;> rfl) (fun K hK => ?_) AllReadyH.nil
          · go_simp
            refine (serverOf_any prb b pb _).mono ?_
            rintro e v4 ⟨rfl, hk⟩
            have Qv4 : Kp v3 v4 := hk
            have Kv4 := Lib.hid (Kv3.out.trans Qv4)
            have v4x0 := below_some Qv4 v3x0
            have v4x1 := below_some Qv4 v3x1
            have v4x2 := below_some Qv4 v3x2
            have v4x3 := below_some Qv4 v3x3
            have v4x4 := below_some Qv4 v3x4
            have v4x5 := below_some Qv4 v3x5
            have H5v4 := Lib.hid (H5v3.out.kp Qv4)
            have H6v4 := Lib.hid (H6v3.out.kp Qv4)
            clear hk Qv4
            go_wp2_with fail
            refine hK.out _ _ ⟨v4x0, v4x1, v4x2, v4x3, v4x4, v4x5⟩ (fun hHeld => ?_)
            clear hK K
            try simp only [Act.put, List.setIfInBounds_toArray, List.set_cons_zero, List.set_cons_succ]
            have hne : B5 ≠ B6 := HNE.out
            have hne' : B6 ≠ B5 := fun e => HNE.out e.symm
            have p0 : v4.cell? ⟨B5, 0, none⟩ = some (.string { data := #[] }) := H5v4.out.cell 0
            have pf0 : v4.frozen? ⟨B5, 0, none⟩ = false := H5v4.out.frozen 0
            have p1 : v4.cell? ⟨B5, 1, none⟩ = some (.string { data := #[] }) := H5v4.out.cell 1
            have pf1 : v4.frozen? ⟨B5, 1, none⟩ = false := H5v4.out.frozen 1
            have p2 : v4.cell? ⟨B5, 2, none⟩ = some (.int .i64 0) := H5v4.out.cell 2
            have pf2 : v4.frozen? ⟨B5, 2, none⟩ = false := H5v4.out.frozen 2
            have r0 : v4.cell? ⟨B6, 0, none⟩ = some (.string { data := #[] }) := H6v4.out.cell 0
            have rf0 : v4.frozen? ⟨B6, 0, none⟩ = false := H6v4.out.frozen 0
            have r1 : v4.cell? ⟨B6, 1, none⟩ = some (.string { data := #[] }) := H6v4.out.cell 1
            have rf1 : v4.frozen? ⟨B6, 1, none⟩ = false := H6v4.out.frozen 1
            have r2 : v4.cell? ⟨B6, 2, none⟩ = some (.int .i64 0) := H6v4.out.cell 2
            have rf2 : v4.frozen? ⟨B6, 2, none⟩ = false := H6v4.out.frozen 2
            refine wpAnyH_ready (rs := [6]) (by kernel_rfl) (by simp) ?_
            refine AllReadyH.cons (by simp only [List.getElem?_toArray, List.getElem?_cons_zero, List.getElem?_cons_succ] <;> rfl) (fun K hK => ?_) AllReadyH.nil
            go_simp
            refine hK.out _ _ (set3 HF5.out ⟨v4x0, v4x1, v4x2, v4x3, v4x4, v4x5⟩) (fun hHeld => ?_)
            clear hK K
            try simp only [Act.put, List.setIfInBounds_toArray, List.set_cons_zero, List.set_cons_succ]
            have H5s := Lib.hid (three H5v4.out (.string pra) (.string a) (.int .i64 pa))
            have H6s := Lib.hid (H6v4.out.grown H5s.out.2 (fun e => HNE.out (by injection e with e; exact e.symm)))
            generalize hWs : (((v4.setCell ⟨B5, 0, none⟩ (.string pra)).setCell ⟨B5, 1, none⟩ (.string a)).setCell ⟨B5, 2, none⟩ (.int .i64 pa)) = ws at H5s H6s hHeld ⊢
            have HGs := Lib.hid (show v4.grownBy ws (some B5) from H5s.out.2)
            have H5t := Lib.hid H5s.out.1
            clear H5s hWs p0 pf0 r0 rf0 p1 pf1 r1 rf1 p2 pf2 r2 rf2
            have r0 : ws.cell? ⟨B6, 0, none⟩ = some (.string { data := #[] }) := H6s.out.cell 0
            have rf0 : ws.frozen? ⟨B6, 0, none⟩ = false := H6s.out.frozen 0
            have r1 : ws.cell? ⟨B6, 1, none⟩ = some (.string { data := #[] }) := H6s.out.cell 1
            have rf1 : ws.frozen? ⟨B6, 1, none⟩ = false := H6s.out.frozen 1
            have r2 : ws.cell? ⟨B6, 2, none⟩ = some (.int .i64 0) := H6s.out.cell 2
            have rf2 : ws.frozen? ⟨B6, 2, none⟩ = false := H6s.out.frozen 2
            refine wpAnyH_ready (rs := [7]) (by kernel_rfl) (by simp) ?_
            refine AllReadyH.cons (by simp only [List.getElem?_toArray, List.getElem?_cons_zero, List.getElem?_cons_succ] <;> rfl) (fun K hK => ?_) AllReadyH.nil
            go_simp
            refine hK.out _ _ (set3 HF6.out hHeld) (fun hHeld2 => ?_)
            clear hK K
            try simp only [Act.put, List.setIfInBounds_toArray, List.set_cons_zero, List.set_cons_succ]
            have H6u := Lib.hid (three H6s.out (.string prb) (.string b) (.int .i64 pb))
            have H5u := Lib.hid (H5t.out.grown H6u.out.2 (fun e => HNE.out (by injection e)))
            generalize hWu : (((ws.setCell ⟨B6, 0, none⟩ (.string prb)).setCell ⟨B6, 1, none⟩ (.string b)).setCell ⟨B6, 2, none⟩ (.int .i64 pb)) = wu at H6u H5u hHeld2 ⊢
            have HKu := Lib.hid (show Kp X wu from ((Kv4.out.grown HGs.out (fun k hk => by injection hk with hk; exact hk ▸ HG5.out)).grown H6u.out.2 (fun k hk => by injection hk with hk; exact hk ▸ HG6.out)))
            refine wpAnyH_done (by kernel_rfl) ?_ _
            refine NoPanic.normal ?_
            go_wp2_with fail
            go_meet
            exact ⟨B5, B6, rfl, rfl, H5u.out, H6u.out.1, HKu.out⟩
    · go_simp
      have Qv1 : Kp v0 (v0.alloc (.cells #[.string { data := #[] }, .string { data := #[] }, .int .i64 0] 75)) := (Kp.refl v0).alloc _
      have v1x0 := below_some Qv1 v0x0
      have v1x1 := below_some Qv1 v0x1
      have v1x2 := below_some Qv1 v0x2
      have v1x3 := below_some Qv1 v0x3
      have v1x4 := below_some Qv1 v0x4
      have v1x5 := below_some Qv1 v0x5
      refine hK.out _ _ ⟨v1x0, v1x1, v1x2, v1x3, v1x4, v1x5⟩ (fun hHeld => ?_)
      clear hK K
      try simp only [Act.put, List.setIfInBounds_toArray, List.set_cons_zero, List.set_cons_succ]
      have H6v1 := Lib.hid (Blk.new v0 75 #[.string { data := #[] }, .string { data := #[] }, .int .i64 0])
      have HF6 := Lib.hid (show b1 ≠ v0.heap.size ∧ b2 ≠ v0.heap.size from ⟨Nat.ne_of_lt (heap_lt_of_cell v0x0), Nat.ne_of_lt (heap_lt_of_cell v0x3)⟩)
      have HG6 := Lib.hid (show X.heap.size ≤ v0.heap.size from Kv0.out.size)
      have Kv1 := Lib.hid (Kv0.out.trans Qv1)
      clear Qv1
      generalize hW : v0.alloc (.cells #[.string { data := #[] }, .string { data := #[] }, .int .i64 0] 75) = v1 at *
      generalize hB : v0.heap.size = B6 at H6v1 HF6 HG6 ⊢
      clear hW hB
      refine wpAnyH_ready (rs := [1, 4]) (by kernel_rfl) (by simp) ?_
      refine AllReadyH.cons (by simp only [List.getElem?_toArray, List.getElem?_cons_zero, List.getElem?_cons_succ] <;> rfl) (fun K hK => ?_) (AllReadyH.cons (by simp only [List.getElem?_toArray, List.getElem?_cons_zero, List.getElem?_cons_succ] <;> rfl) (fun K hK => ?_) AllReadyH.nil)
      · go_simp
        refine (serverOf_any pra a pa _).mono ?_
        rintro e v2 ⟨rfl, hk⟩
        have Qv2 : Kp v1 v2 := hk
        have Kv2 := Lib.hid (Kv1.out.trans Qv2)
        have v2x0 := below_some Qv2 v1x0
        have v2x1 := below_some Qv2 v1x1
        have v2x2 := below_some Qv2 v1x2
        have v2x3 := below_some Qv2 v1x3
        have v2x4 := below_some Qv2 v1x4
        have v2x5 := below_some Qv2 v1x5
        have H6v2 := Lib.hid (H6v1.out.kp Qv2)
        clear hk Qv2
        go_wp2_with fail
        refine hK.out _ _ ⟨v2x0, v2x1, v2x2, v2x3, v2x4, v2x5⟩ (fun hHeld => ?_)
        clear hK K
        try simp only [Act.put, List.setIfInBounds_toArray, List.set_cons_zero, List.set_cons_succ]
        refine wpAnyH_ready (rs := [3, 4]) (by kernel_rfl) (by simp) ?_
        refine AllReadyH.cons (by simp only [List.getElem?_toArray, List.getElem?_cons_zero, List.getElem?_cons_succ] <;> rfl) (fun K hK => ?_) (AllReadyH.cons (by simp only [List.getElem?_toArray, List.getElem?_cons_zero, List.getElem?_cons_succ] <;> rfl) (fun K hK => ?_) AllReadyH.nil)
        · go_simp
          refine (serverOf_any prb b pb _).mono ?_
          rintro e v3 ⟨rfl, hk⟩
          have Qv3 : Kp v2 v3 := hk
          have Kv3 := Lib.hid (Kv2.out.trans Qv3)
          have v3x0 := below_some Qv3 v2x0
          have v3x1 := below_some Qv3 v2x1
          have v3x2 := below_some Qv3 v2x2
          have v3x3 := below_some Qv3 v2x3
          have v3x4 := below_some Qv3 v2x4
          have v3x5 := below_some Qv3 v2x5
          have H6v3 := Lib.hid (H6v2.out.kp Qv3)
          clear hk Qv3
          go_wp2_with fail
          refine hK.out _ _ ⟨v3x0, v3x1, v3x2, v3x3, v3x4, v3x5⟩ (fun hHeld => ?_)
          clear hK K
          try simp only [Act.put, List.setIfInBounds_toArray, List.set_cons_zero, List.set_cons_succ]
          refine wpAnyH_ready (rs := [4]) (by kernel_rfl) (by simp) ?_
          refine AllReadyH.cons (by simp only [List.getElem?_toArray, List.getElem?_cons_zero, List.getElem?_cons_succ] <;> rfl) (fun K hK => ?_) AllReadyH.nil
          · go_simp
            have Qv4 : Kp v3 (v3.alloc (.cells #[.string { data := #[] }, .string { data := #[] }, .int .i64 0] 75)) := (Kp.refl v3).alloc _
            have v4x0 := below_some Qv4 v3x0
            have v4x1 := below_some Qv4 v3x1
            have v4x2 := below_some Qv4 v3x2
            have v4x3 := below_some Qv4 v3x3
            have v4x4 := below_some Qv4 v3x4
            have v4x5 := below_some Qv4 v3x5
            refine hK.out _ _ ⟨v4x0, v4x1, v4x2, v4x3, v4x4, v4x5⟩ (fun hHeld => ?_)
            clear hK K
            try simp only [Act.put, List.setIfInBounds_toArray, List.set_cons_zero, List.set_cons_succ]
            have H5v4 := Lib.hid (Blk.new v3 75 #[.string { data := #[] }, .string { data := #[] }, .int .i64 0])
            have H6v4 := Lib.hid (H6v3.out.kp Qv4)
            have HNE := Lib.hid (show v3.heap.size ≠ B6 from Nat.ne_of_gt H6v3.out.lt)
            have HF5 := Lib.hid (show b1 ≠ v3.heap.size ∧ b2 ≠ v3.heap.size from ⟨Nat.ne_of_lt (heap_lt_of_cell v3x0), Nat.ne_of_lt (heap_lt_of_cell v3x3)⟩)
            have HG5 := Lib.hid (show X.heap.size ≤ v3.heap.size from Kv3.out.size)
            have Kv4 := Lib.hid (Kv3.out.trans Qv4)
            clear Qv4
            generalize hW : v3.alloc (.cells #[.string { data := #[] }, .string { data := #[] }, .int .i64 0] 75) = v4 at *
            generalize hB : v3.heap.size = B5 at H5v4 HF5 HG5 HNE ⊢
            clear hW hB
            have hne : B5 ≠ B6 := HNE.out
            have hne' : B6 ≠ B5 := fun e => HNE.out e.symm
            have p0 : v4.cell? ⟨B5, 0, none⟩ = some (.string { data := #[] }) := H5v4.out.cell 0
            have pf0 : v4.frozen? ⟨B5, 0, none⟩ = false := H5v4.out.frozen 0
            have p1 : v4.cell? ⟨B5, 1, none⟩ = some (.string { data := #[] }) := H5v4.out.cell 1
            have pf1 : v4.frozen? ⟨B5, 1, none⟩ = false := H5v4.out.frozen 1
            have p2 : v4.cell? ⟨B5, 2, none⟩ = some (.int .i64 0) := H5v4.out.cell 2
            have pf2 : v4.frozen? ⟨B5, 2, none⟩ = false := H5v4.out.frozen 2
            have r0 : v4.cell? ⟨B6, 0, none⟩ = some (.string { data := #[] }) := H6v4.out.cell 0
            have rf0 : v4.frozen? ⟨B6, 0, none⟩ = false := H6v4.out.frozen 0
            have r1 : v4.cell? ⟨B6, 1, none⟩ = some (.string { data := #[] }) := H6v4.out.cell 1
            have rf1 : v4.frozen? ⟨B6, 1, none⟩ = false := H6v4.out.frozen 1
            have r2 : v4.cell? ⟨B6, 2, none⟩ = some (.int .i64 0) := H6v4.out.cell 2
            have rf2 : v4.frozen? ⟨B6, 2, none⟩ = false := H6v4.out.frozen 2
            refine wpAnyH_ready (rs := [6]) (by kernel_rfl) (by simp) ?_
            refine AllReadyH.cons (by simp only [List.getElem?_toArray, List.getElem?_cons_zero, List.getElem?_cons_succ] <;> rfl) (fun K hK => ?_) AllReadyH.nil
            go_simp
            refine hK.out _ _ (set3 HF5.out ⟨v4x0, v4x1, v4x2, v4x3, v4x4, v4x5⟩) (fun hHeld => ?_)
            clear hK K
            try simp only [Act.put, List.setIfInBounds_toArray, List.set_cons_zero, List.set_cons_succ]
            have H5s := Lib.hid (three H5v4.out (.string pra) (.string a) (.int .i64 pa))
            have H6s := Lib.hid (H6v4.out.grown H5s.out.2 (fun e => HNE.out (by injection e with e; exact e.symm)))
            generalize hWs : (((v4.setCell ⟨B5, 0, none⟩ (.string pra)).setCell ⟨B5, 1, none⟩ (.string a)).setCell ⟨B5, 2, none⟩ (.int .i64 pa)) = ws at H5s H6s hHeld ⊢
            have HGs := Lib.hid (show v4.grownBy ws (some B5) from H5s.out.2)
            have H5t := Lib.hid H5s.out.1
            clear H5s hWs p0 pf0 r0 rf0 p1 pf1 r1 rf1 p2 pf2 r2 rf2
            have r0 : ws.cell? ⟨B6, 0, none⟩ = some (.string { data := #[] }) := H6s.out.cell 0
            have rf0 : ws.frozen? ⟨B6, 0, none⟩ = false := H6s.out.frozen 0
            have r1 : ws.cell? ⟨B6, 1, none⟩ = some (.string { data := #[] }) := H6s.out.cell 1
            have rf1 : ws.frozen? ⟨B6, 1, none⟩ = false := H6s.out.frozen 1
            have r2 : ws.cell? ⟨B6, 2, none⟩ = some (.int .i64 0) := H6s.out.cell 2
            have rf2 : ws.frozen? ⟨B6, 2, none⟩ = false := H6s.out.frozen 2
            refine wpAnyH_ready (rs := [7]) (by kernel_rfl) (by simp) ?_
            refine AllReadyH.cons (by simp only [List.getElem?_toArray, List.getElem?_cons_zero, List.getElem?_cons_succ] <;> rfl) (fun K hK => ?_) AllReadyH.nil
            go_simp
            refine hK.out _ _ (set3 HF6.out hHeld) (fun hHeld2 => ?_)
            clear hK K
            try simp only [Act.put, List.setIfInBounds_toArray, List.set_cons_zero, List.set_cons_succ]
            have H6u := Lib.hid (three H6s.out (.string prb) (.string b) (.int .i64 pb))
            have H5u := Lib.hid (H5t.out.grown H6u.out.2 (fun e => HNE.out (by injection e)))
            generalize hWu : (((ws.setCell ⟨B6, 0, none⟩ (.string prb)).setCell ⟨B6, 1, none⟩ (.string b)).setCell ⟨B6, 2, none⟩ (.int .i64 pb)) = wu at H6u H5u hHeld2 ⊢
            have HKu := Lib.hid (show Kp X wu from ((Kv4.out.grown HGs.out (fun k hk => by injection hk with hk; exact hk ▸ HG5.out)).grown H6u.out.2 (fun k hk => by injection hk with hk; exact hk ▸ HG6.out)))
            refine wpAnyH_done (by kernel_rfl) ?_ _
            refine NoPanic.normal ?_
            go_wp2_with fail
            go_meet
            exact ⟨B5, B6, rfl, rfl, H5u.out, H6u.out.1, HKu.out⟩
        · go_simp
          have Qv3 : Kp v2 (v2.alloc (.cells #[.string { data := #[] }, .string { data := #[] }, .int .i64 0] 75)) := (Kp.refl v2).alloc _
          have v3x0 := below_some Qv3 v2x0
          have v3x1 := below_some Qv3 v2x1
          have v3x2 := below_some Qv3 v2x2
          have v3x3 := below_some Qv3 v2x3
          have v3x4 := below_some Qv3 v2x4
          have v3x5 := below_some Qv3 v2x5
          refine hK.out _ _ ⟨v3x0, v3x1, v3x2, v3x3, v3x4, v3x5⟩ (fun hHeld => ?_)
          clear hK K
          try simp only [Act.put, List.setIfInBounds_toArray, List.set_cons_zero, List.set_cons_succ]
          have H5v3 := Lib.hid (Blk.new v2 75 #[.string { data := #[] }, .string { data := #[] }, .int .i64 0])
          have H6v3 := Lib.hid (H6v2.out.kp Qv3)
          have HNE := Lib.hid (show v2.heap.size ≠ B6 from Nat.ne_of_gt H6v2.out.lt)
          have HF5 := Lib.hid (show b1 ≠ v2.heap.size ∧ b2 ≠ v2.heap.size from ⟨Nat.ne_of_lt (heap_lt_of_cell v2x0), Nat.ne_of_lt (heap_lt_of_cell v2x3)⟩)
          have HG5 := Lib.hid (show X.heap.size ≤ v2.heap.size from Kv2.out.size)
          have Kv3 := Lib.hid (Kv2.out.trans Qv3)
          clear Qv3
          generalize hW : v2.alloc (.cells #[.string { data := #[] }, .string { data := #[] }, .int .i64 0] 75) = v3 at *
          generalize hB : v2.heap.size = B5 at H5v3 HF5 HG5 HNE ⊢
          clear hW hB
          refine wpAnyH_ready (rs := [3]) (by kernel_rfl) (by simp) ?_
          refine AllReadyH.cons (by simp only [List.getElem?_toArray, List.getElem?_cons_zero, List.getElem?_cons_succ] <;> rfl) (fun K hK => ?_) AllReadyH.nil
          · go_simp
            refine (serverOf_any prb b pb _).mono ?_
            rintro e v4 ⟨rfl, hk⟩
            have Qv4 : Kp v3 v4 := hk
            have Kv4 := Lib.hid (Kv3.out.trans Qv4)
            have v4x0 := below_some Qv4 v3x0
            have v4x1 := below_some Qv4 v3x1
            have v4x2 := below_some Qv4 v3x2
            have v4x3 := below_some Qv4 v3x3
            have v4x4 := below_some Qv4 v3x4
            have v4x5 := below_some Qv4 v3x5
            have H5v4 := Lib.hid (H5v3.out.kp Qv4)
            have H6v4 := Lib.hid (H6v3.out.kp Qv4)
            clear hk Qv4
            go_wp2_with fail
            refine hK.out _ _ ⟨v4x0, v4x1, v4x2, v4x3, v4x4, v4x5⟩ (fun hHeld => ?_)
            clear hK K
            try simp only [Act.put, List.setIfInBounds_toArray, List.set_cons_zero, List.set_cons_succ]
            have hne : B5 ≠ B6 := HNE.out
            have hne' : B6 ≠ B5 := fun e => HNE.out e.symm
            have p0 : v4.cell? ⟨B5, 0, none⟩ = some (.string { data := #[] }) := H5v4.out.cell 0
            have pf0 : v4.frozen? ⟨B5, 0, none⟩ = false := H5v4.out.frozen 0
            have p1 : v4.cell? ⟨B5, 1, none⟩ = some (.string { data := #[] }) := H5v4.out.cell 1
            have pf1 : v4.frozen? ⟨B5, 1, none⟩ = false := H5v4.out.frozen 1
            have p2 : v4.cell? ⟨B5, 2, none⟩ = some (.int .i64 0) := H5v4.out.cell 2
            have pf2 : v4.frozen? ⟨B5, 2, none⟩ = false := H5v4.out.frozen 2
            have r0 : v4.cell? ⟨B6, 0, none⟩ = some (.string { data := #[] }) := H6v4.out.cell 0
            have rf0 : v4.frozen? ⟨B6, 0, none⟩ = false := H6v4.out.frozen 0
            have r1 : v4.cell? ⟨B6, 1, none⟩ = some (.string { data := #[] }) := H6v4.out.cell 1
            have rf1 : v4.frozen? ⟨B6, 1, none⟩ = false := H6v4.out.frozen 1
            have r2 : v4.cell? ⟨B6, 2, none⟩ = some (.int .i64 0) := H6v4.out.cell 2
            have rf2 : v4.frozen? ⟨B6, 2, none⟩ = false := H6v4.out.frozen 2
            refine wpAnyH_ready (rs := [6]) (by kernel_rfl) (by simp) ?_
            refine AllReadyH.cons (by simp only [List.getElem?_toArray, List.getElem?_cons_zero, List.getElem?_cons_succ] <;> rfl) (fun K hK => ?_) AllReadyH.nil
            go_simp
            refine hK.out _ _ (set3 HF5.out ⟨v4x0, v4x1, v4x2, v4x3, v4x4, v4x5⟩) (fun hHeld => ?_)
            clear hK K
            try simp only [Act.put, List.setIfInBounds_toArray, List.set_cons_zero, List.set_cons_succ]
            have H5s := Lib.hid (three H5v4.out (.string pra) (.string a) (.int .i64 pa))
            have H6s := Lib.hid (H6v4.out.grown H5s.out.2 (fun e => HNE.out (by injection e with e; exact e.symm)))
            generalize hWs : (((v4.setCell ⟨B5, 0, none⟩ (.string pra)).setCell ⟨B5, 1, none⟩ (.string a)).setCell ⟨B5, 2, none⟩ (.int .i64 pa)) = ws at H5s H6s hHeld ⊢
            have HGs := Lib.hid (show v4.grownBy ws (some B5) from H5s.out.2)
            have H5t := Lib.hid H5s.out.1
            clear H5s hWs p0 pf0 r0 rf0 p1 pf1 r1 rf1 p2 pf2 r2 rf2
            have r0 : ws.cell? ⟨B6, 0, none⟩ = some (.string { data := #[] }) := H6s.out.cell 0
            have rf0 : ws.frozen? ⟨B6, 0, none⟩ = false := H6s.out.frozen 0
            have r1 : ws.cell? ⟨B6, 1, none⟩ = some (.string { data := #[] }) := H6s.out.cell 1
            have rf1 : ws.frozen? ⟨B6, 1, none⟩ = false := H6s.out.frozen 1
            have r2 : ws.cell? ⟨B6, 2, none⟩ = some (.int .i64 0) := H6s.out.cell 2
            have rf2 : ws.frozen? ⟨B6, 2, none⟩ = false := H6s.out.frozen 2
            refine wpAnyH_ready (rs := [7]) (by kernel_rfl) (by simp) ?_
            refine AllReadyH.cons (by simp only [List.getElem?_toArray, List.getElem?_cons_zero, List.getElem?_cons_succ] <;> rfl) (fun K hK => ?_) AllReadyH.nil
            go_simp
            refine hK.out _ _ (set3 HF6.out hHeld) (fun hHeld2 => ?_)
            clear hK K
            try simp only [Act.put, List.setIfInBounds_toArray, List.set_cons_zero, List.set_cons_succ]
            have H6u := Lib.hid (three H6s.out (.string prb) (.string b) (.int .i64 pb))
            have H5u := Lib.hid (H5t.out.grown H6u.out.2 (fun e => HNE.out (by injection e)))
            generalize hWu : (((ws.setCell ⟨B6, 0, none⟩ (.string prb)).setCell ⟨B6, 1, none⟩ (.string b)).setCell ⟨B6, 2, none⟩ (.int .i64 pb)) = wu at H6u H5u hHeld2 ⊢
            have HKu := Lib.hid (show Kp X wu from ((Kv4.out.grown HGs.out (fun k hk => by injection hk with hk; exact hk ▸ HG5.out)).grown H6u.out.2 (fun k hk => by injection hk with hk; exact hk ▸ HG6.out)))
            refine wpAnyH_done (by kernel_rfl) ?_ _
            refine NoPanic.normal ?_
            go_wp2_with fail
            go_meet
            exact ⟨B5, B6, rfl, rfl, H5u.out, H6u.out.1, HKu.out⟩
      · go_simp
        have Qv2 : Kp v1 (v1.alloc (.cells #[.string { data := #[] }, .string { data := #[] }, .int .i64 0] 75)) := (Kp.refl v1).alloc _
        have v2x0 := below_some Qv2 v1x0
        have v2x1 := below_some Qv2 v1x1
        have v2x2 := below_some Qv2 v1x2
        have v2x3 := below_some Qv2 v1x3
        have v2x4 := below_some Qv2 v1x4
        have v2x5 := below_some Qv2 v1x5
        refine hK.out _ _ ⟨v2x0, v2x1, v2x2, v2x3, v2x4, v2x5⟩ (fun hHeld => ?_)
        clear hK K
        try simp only [Act.put, List.setIfInBounds_toArray, List.set_cons_zero, List.set_cons_succ]
        have H5v2 := Lib.hid (Blk.new v1 75 #[.string { data := #[] }, .string { data := #[] }, .int .i64 0])
        have H6v2 := Lib.hid (H6v1.out.kp Qv2)
        have HNE := Lib.hid (show v1.heap.size ≠ B6 from Nat.ne_of_gt H6v1.out.lt)
        have HF5 := Lib.hid (show b1 ≠ v1.heap.size ∧ b2 ≠ v1.heap.size from ⟨Nat.ne_of_lt (heap_lt_of_cell v1x0), Nat.ne_of_lt (heap_lt_of_cell v1x3)⟩)
        have HG5 := Lib.hid (show X.heap.size ≤ v1.heap.size from Kv1.out.size)
        have Kv2 := Lib.hid (Kv1.out.trans Qv2)
        clear Qv2
        generalize hW : v1.alloc (.cells #[.string { data := #[] }, .string { data := #[] }, .int .i64 0] 75) = v2 at *
        generalize hB : v1.heap.size = B5 at H5v2 HF5 HG5 HNE ⊢
        clear hW hB
        refine wpAnyH_ready (rs := [1]) (by kernel_rfl) (by simp) ?_
        refine AllReadyH.cons (by simp only [List.getElem?_toArray, List.getElem?_cons_zero, List.getElem?_cons_succ] <;> rfl) (fun K hK => ?_) AllReadyH.nil
        · go_simp
          refine (serverOf_any pra a pa _).mono ?_
          rintro e v3 ⟨rfl, hk⟩
          have Qv3 : Kp v2 v3 := hk
          have Kv3 := Lib.hid (Kv2.out.trans Qv3)
          have v3x0 := below_some Qv3 v2x0
          have v3x1 := below_some Qv3 v2x1
          have v3x2 := below_some Qv3 v2x2
          have v3x3 := below_some Qv3 v2x3
          have v3x4 := below_some Qv3 v2x4
          have v3x5 := below_some Qv3 v2x5
          have H5v3 := Lib.hid (H5v2.out.kp Qv3)
          have H6v3 := Lib.hid (H6v2.out.kp Qv3)
          clear hk Qv3
          go_wp2_with fail
          refine hK.out _ _ ⟨v3x0, v3x1, v3x2, v3x3, v3x4, v3x5⟩ (fun hHeld => ?_)
          clear hK K
          try simp only [Act.put, List.setIfInBounds_toArray, List.set_cons_zero, List.set_cons_succ]
          refine wpAnyH_ready (rs := [3]) (by kernel_rfl) (by simp) ?_
          refine AllReadyH.cons (by simp only [List.getElem?_toArray, List.getElem?_cons_zero, List.getElem?_cons_succ] <;> rfl) (fun K hK => ?_) AllReadyH.nil
          · go_simp
            refine (serverOf_any prb b pb _).mono ?_
            rintro e v4 ⟨rfl, hk⟩
            have Qv4 : Kp v3 v4 := hk
            have Kv4 := Lib.hid (Kv3.out.trans Qv4)
            have v4x0 := below_some Qv4 v3x0
            have v4x1 := below_some Qv4 v3x1
            have v4x2 := below_some Qv4 v3x2
            have v4x3 := below_some Qv4 v3x3
            have v4x4 := below_some Qv4 v3x4
            have v4x5 := below_some Qv4 v3x5
            have H5v4 := Lib.hid (H5v3.out.kp Qv4)
            have H6v4 := Lib.hid (H6v3.out.kp Qv4)
            clear hk Qv4
            go_wp2_with fail
            refine hK.out _ _ ⟨v4x0, v4x1, v4x2, v4x3, v4x4, v4x5⟩ (fun hHeld => ?_)
            clear hK K
            try simp only [Act.put, List.setIfInBounds_toArray, List.set_cons_zero, List.set_cons_succ]
            have hne : B5 ≠ B6 := HNE.out
            have hne' : B6 ≠ B5 := fun e => HNE.out e.symm
            have p0 : v4.cell? ⟨B5, 0, none⟩ = some (.string { data := #[] }) := H5v4.out.cell 0
            have pf0 : v4.frozen? ⟨B5, 0, none⟩ = false := H5v4.out.frozen 0
            have p1 : v4.cell? ⟨B5, 1, none⟩ = some (.string { data := #[] }) := H5v4.out.cell 1
            have pf1 : v4.frozen? ⟨B5, 1, none⟩ = false := H5v4.out.frozen 1
            have p2 : v4.cell? ⟨B5, 2, none⟩ = some (.int .i64 0) := H5v4.out.cell 2
            have pf2 : v4.frozen? ⟨B5, 2, none⟩ = false := H5v4.out.frozen 2
            have r0 : v4.cell? ⟨B6, 0, none⟩ = some (.string { data := #[] }) := H6v4.out.cell 0
            have rf0 : v4.frozen? ⟨B6, 0, none⟩ = false := H6v4.out.frozen 0
            have r1 : v4.cell? ⟨B6, 1, none⟩ = some (.string { data := #[] }) := H6v4.out.cell 1
            have rf1 : v4.frozen? ⟨B6, 1, none⟩ = false := H6v4.out.frozen 1
            have r2 : v4.cell? ⟨B6, 2, none⟩ = some (.int .i64 0) := H6v4.out.cell 2
            have rf2 : v4.frozen? ⟨B6, 2, none⟩ = false := H6v4.out.frozen 2
            refine wpAnyH_ready (rs := [6]) (by kernel_rfl) (by simp) ?_
            refine AllReadyH.cons (by simp only [List.getElem?_toArray, List.getElem?_cons_zero, List.getElem?_cons_succ] <;> rfl) (fun K hK => ?_) AllReadyH.nil
            go_simp
            refine hK.out _ _ (set3 HF5.out ⟨v4x0, v4x1, v4x2, v4x3, v4x4, v4x5⟩) (fun hHeld => ?_)
            clear hK K
            try simp only [Act.put, List.setIfInBounds_toArray, List.set_cons_zero, List.set_cons_succ]
            have H5s := Lib.hid (three H5v4.out (.string pra) (.string a) (.int .i64 pa))
            have H6s := Lib.hid (H6v4.out.grown H5s.out.2 (fun e => HNE.out (by injection e with e; exact e.symm)))
            generalize hWs : (((v4.setCell ⟨B5, 0, none⟩ (.string pra)).setCell ⟨B5, 1, none⟩ (.string a)).setCell ⟨B5, 2, none⟩ (.int .i64 pa)) = ws at H5s H6s hHeld ⊢
            have HGs := Lib.hid (show v4.grownBy ws (some B5) from H5s.out.2)
            have H5t := Lib.hid H5s.out.1
            clear H5s hWs p0 pf0 r0 rf0 p1 pf1 r1 rf1 p2 pf2 r2 rf2
            have r0 : ws.cell? ⟨B6, 0, none⟩ = some (.string { data := #[] }) := H6s.out.cell 0
            have rf0 : ws.frozen? ⟨B6, 0, none⟩ = false := H6s.out.frozen 0
            have r1 : ws.cell? ⟨B6, 1, none⟩ = some (.string { data := #[] }) := H6s.out.cell 1
            have rf1 : ws.frozen? ⟨B6, 1, none⟩ = false := H6s.out.frozen 1
            have r2 : ws.cell? ⟨B6, 2, none⟩ = some (.int .i64 0) := H6s.out.cell 2
            have rf2 : ws.frozen? ⟨B6, 2, none⟩ = false := H6s.out.frozen 2
            refine wpAnyH_ready (rs := [7]) (by kernel_rfl) (by simp) ?_
            refine AllReadyH.cons (by simp only [List.getElem?_toArray, List.getElem?_cons_zero, List.getElem?_cons_succ] <;> rfl) (fun K hK => ?_) AllReadyH.nil
            go_simp
            refine hK.out _ _ (set3 HF6.out hHeld) (fun hHeld2 => ?_)
            clear hK K
            try simp only [Act.put, List.setIfInBounds_toArray, List.set_cons_zero, List.set_cons_succ]
            have H6u := Lib.hid (three H6s.out (.string prb) (.string b) (.int .i64 pb))
            have H5u := Lib.hid (H5t.out.grown H6u.out.2 (fun e => HNE.out (by injection e)))
            generalize hWu : (((ws.setCell ⟨B6, 0, none⟩ (.string prb)).setCell ⟨B6, 1, none⟩ (.string b)).setCell ⟨B6, 2, none⟩ (.int .i64 pb)) = wu at H6u H5u hHeld2 ⊢
            have HKu := Lib.hid (show Kp X wu from ((Kv4.out.grown HGs.out (fun k hk => by injection hk with hk; exact hk ▸ HG5.out)).grown H6u.out.2 (fun k hk => by injection hk with hk; exact hk ▸ HG6.out)))
            refine wpAnyH_done (by kernel_rfl) ?_ _
            refine NoPanic.normal ?_
            go_wp2_with fail
            go_meet
            exact ⟨B5, B6, rfl, rfl, H5u.out, H6u.out.1, HKu.out⟩
  case rest =>
    obtain ⟨B5, B6, rfl, rfl, h5, h6, hk⟩ := hcut
    have HC := Lib.hid (HIE.out wc B5 B6 h5 h6)
    have HKC := Lib.hid (HKX.out.trans hk)
    clear h5 h6 hk HIE
    go_wp2_with fail
    refine HC.out.mono ?_
    rintro e w3 ⟨rfl, hk⟩
    have K3 := Lib.hid (HKC.out.trans hk)
    clear hk HC
    go_wp2_with fail
    go_ret
    exact ⟨rfl, K3.out⟩
end Go.Proofs.YtmojecgmneodlaaDoor
