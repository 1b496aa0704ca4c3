/-
  The region of newAcceptPacketFromData that makes the packet: seven calls, a box, an alloc and a store, in whatever order (printed by mkacc3a.py).
-/
import Derived.Test.YtacmnibhdmeidaaDoorAcc2
import Derived.Test.YtacmnibhdmeidaaDoorInv
namespace Go.Proofs.YtacmnibhdmeidaaDoor
open Go Go.RowKit

/-- The empty struct that a call of Uint16 lays. -/
abbrev EB : Obj := .cells #[] 131
set_option maxHeartbeats 2000000 in
theorem get16x (g o n c : Nat) (x0 x1 v : Int) (w : World) (hn : 2 ≤ n) (c0 : w.cell? ⟨g, o, none⟩ = some (.int .u8 x0)) (c1 : w.cell? ⟨g, o + 1, none⟩ = some (.int .u8 x1)) (h0 : 0 ≤ x0 ∧ x0 < 256) (h1 : 0 ≤ x1 ∧ x1 < 256) (hv : x0 * 256 + x1 = v) :
    Calls Tryd.prog 63 #[.agg #[], .slice (some ⟨g, o, none⟩) n c] w fun e w' => e = .returned (.int .u16 v) ∧ (w.alloc EB).drew = w' := by
  obtain ⟨b0, rfl⟩ := byteU x0 h0.1 h0.2
  obtain ⟨b1, rfl⟩ := byteU x1 h1.1 h1.2
  have d0 := cell?_alloc_old (.cells #[] 131) c0
  have d1 := cell?_alloc_old (.cells #[] 131) c1
  have e0 : (w.alloc (.cells #[] 131)).drew.cell? ⟨g, o, none⟩ = some (.int .u8 b0.toNat) := d0
  have e1 : (w.alloc (.cells #[] 131)).drew.cell? ⟨g, o + 1, none⟩ = some (.int .u8 b1.toNat) := d1
  have h2 : (2 : Int) ≤ (n : Int) := by omega
  subst hv
  go_enter Tryd.func63, Tryd.ntmps63
  go_wp2
  go_region
  go_wp2
  go_ret
  refine ⟨?_, rfl⟩
  simp (disch := omega) only [u16_or8]
  rw [Int.add_comm]
  rfl

def ctxC (v8 v10 v16 x22 x23 su tu : Int) : Array Value := #[.slice none 0 0, .string ⟨#[]⟩, .int .u16 v8, .int .u16 0, .int .u16 0, .int .u16 v10, .int .u16 0, .int .u16 v16, .string ⟨#[]⟩, .bool false, .int .u8 x22, .int .u8 x23, .int .u32 su, .int .u32 tu, .bool false, .bool false, .bool false, .bool false]
def pckC (v0 x4 x5 : Int) (cx : Nat) (v : Value) : Array Value := #[.int .u16 41, .int .u32 v0, .int .u8 x4, .int .u8 x5, .pointer (some ⟨cx, 0, none⟩), v]
/-- What the first lines make: the packet and its context. -/
def Made (w : World) (v0 x4 x5 v8 v10 v16 x22 x23 su tu : Int) (v : Value) (pk cx : Nat) (wx : World) : Prop :=
  Blk wx pk 70 (pckC v0 x4 x5 cx v) ∧ Blk wx cx 74 (ctxC v8 v10 v16 x22 x23 su tu) ∧ pk ≠ cx ∧ w.heap.size ≤ pk ∧ w.heap.size ≤ cx ∧ Kp w wx
theorem u16v (x y : Int) (h0 : 0 ≤ x ∧ x < 256) (h1 : 0 ≤ y ∧ y < 256) : ∃ v, x * 256 + y = v ∧ 0 ≤ v ∧ v < 65536 ∧ IntKind.u32.wrap v = v := ⟨_, rfl, by omega, by omega, by rw [IntKind.wrap_u32]; omega⟩
section
variable {w wx w' : World} {v0 x4 x5 v8 v10 v16 x22 x23 su tu : Int} {v : Value} {pk cx : Nat}
theorem Made.drew (h : Made w v0 x4 x5 v8 v10 v16 x22 x23 su tu v pk cx wx) : Made w v0 x4 x5 v8 v10 v16 x22 x23 su tu v pk cx wx.drew := ⟨h.1.drew, h.2.1.drew, h.2.2.1, h.2.2.2.1, h.2.2.2.2.1, h.2.2.2.2.2.drew⟩
theorem Made.kp (h : Made w v0 x4 x5 v8 v10 v16 x22 x23 su tu v pk cx wx) (hk : Kp wx w') : Made w v0 x4 x5 v8 v10 v16 x22 x23 su tu v pk cx w' := ⟨h.1.kp hk, h.2.1.kp hk, h.2.2.1, h.2.2.2.1, h.2.2.2.2.1, h.2.2.2.2.2.trans hk⟩
theorem Made.setv (h : Made w v0 x4 x5 v8 v10 v16 x22 x23 su tu v pk cx wx) (u : Value) : Made w v0 x4 x5 v8 v10 v16 x22 x23 su tu u pk cx (wx.setCell ⟨pk, 5, none⟩ u) :=
  ⟨by have := h.1.set_ 5 u; simpa [pckC] using this, (Below.heap_setCell _ ⟨pk, 5, none⟩ _ cx (fun e => h.2.2.1 e.symm)).trans h.2.1, h.2.2.1, h.2.2.2.1, h.2.2.2.2.1, h.2.2.2.2.2.set h.2.2.2.1 _⟩
theorem Made.ssu (h : Made w v0 x4 x5 v8 v10 v16 x22 x23 su tu v pk cx wx) (u : Int) : Made w v0 x4 x5 v8 v10 v16 x22 x23 u tu v pk cx (wx.setCell ⟨cx, 12, none⟩ (.int .u32 u)) :=
  ⟨(Below.heap_setCell _ ⟨cx, 12, none⟩ _ pk h.2.2.1).trans h.1, by have := h.2.1.set_ 12 (.int .u32 u); simpa [ctxC] using this, h.2.2.1, h.2.2.2.1, h.2.2.2.2.1, h.2.2.2.2.2.set h.2.2.2.2.1 _⟩
theorem Made.stu (h : Made w v0 x4 x5 v8 v10 v16 x22 x23 su tu v pk cx wx) (u : Int) : Made w v0 x4 x5 v8 v10 v16 x22 x23 su u v pk cx (wx.setCell ⟨cx, 13, none⟩ (.int .u32 u)) :=
  ⟨(Below.heap_setCell _ ⟨cx, 13, none⟩ _ pk h.2.2.1).trans h.1, by have := h.2.1.set_ 13 (.int .u32 u); simpa [ctxC] using this, h.2.2.1, h.2.2.2.1, h.2.2.2.2.1, h.2.2.2.2.2.set h.2.2.2.2.1 _⟩
end
def FAM (v0 x4 x5 v8 v10 v16 x22 x23 v12 v14 : Int) (w0 : World) : List Slot := [
  ⟨3, 43, fun v _ => v = .int .u16 v8⟩,
  ⟨7, 47, fun v _ => v = .int .u16 v10⟩,
  ⟨11, 51, fun v _ => v = .int .u16 v16⟩,
  ⟨22, 62, fun v _ => v = .int .u16 v12⟩,
  ⟨23, 63, fun v _ => v = .int .u32 v12⟩,
  ⟨27, 67, fun v _ => v = .int .u16 v14⟩,
  ⟨28, 68, fun v _ => v = .int .u32 v14⟩,
  ⟨29, 69, fun v _ => v = .agg (ctxC v8 v10 v16 x22 x23 v12 v14)⟩,
  ⟨30, 70, fun v w => ∃ cx, v = .pointer (some ⟨cx, 0, none⟩) ∧ Blk w cx 74 (ctxC v8 v10 v16 x22 x23 v12 v14) ∧ w0.heap.size ≤ cx⟩,
  ⟨34, 74, fun v _ => v = .int .u16 41⟩,
  ⟨37, 77, fun v _ => v = .int .u16 v0⟩,
  ⟨38, 78, fun v _ => v = .int .u32 v0⟩,
  ⟨45, 85, fun v w => ∃ cx, v = .agg #[.int .u16 41, .int .u32 v0, .int .u8 x4, .int .u8 x5, .pointer (some ⟨cx, 0, none⟩)] ∧ Blk w cx 74 (ctxC v8 v10 v16 x22 x23 v12 v14) ∧ w0.heap.size ≤ cx⟩,
  ⟨46, 86, fun v w => ∃ cx, v = .agg (pckC v0 x4 x5 cx (.slice none 0 0)) ∧ Blk w cx 74 (ctxC v8 v10 v16 x22 x23 v12 v14) ∧ w0.heap.size ≤ cx⟩,
  ⟨47, 6, fun v w => ∃ pk, v = .pointer (some ⟨pk, 0, none⟩) ∧ Blk w pk 70 #[.int .u16 0, .int .u32 0, .int .u8 0, .int .u8 0, .pointer none, .slice none 0 0] ∧ w0.heap.size ≤ pk⟩]
section
variable {v0 x4 x5 v8 v10 v16 x22 x23 v12 v14 : Int} {w0 : World}
theorem fam_dst : (FAM v0 x4 x5 v8 v10 v16 x22 x23 v12 v14 w0).map Slot.dst = [43, 47, 51, 62, 63, 67, 68, 69, 70, 74, 77, 78, 85, 86, 6] := rfl
theorem fam_op : (FAM v0 x4 x5 v8 v10 v16 x22 x23 v12 v14 w0).map Slot.op = [3, 7, 11, 22, 23, 27, 28, 29, 30, 34, 37, 38, 45, 46, 47] := rfl
theorem fam_pair : (FAM v0 x4 x5 v8 v10 v16 x22 x23 v12 v14 w0).Pairwise fun s t => s.op ≠ t.op ∧ s.dst ≠ t.dst :=
  (List.pairwise_map (f := fun s : Slot => (s.op, s.dst)) (R := fun p q : Nat × Nat => p.1 ≠ q.1 ∧ p.2 ≠ q.2)).1 (show List.Pairwise (fun p q : Nat × Nat => p.1 ≠ q.1 ∧ p.2 ≠ q.2) [(3, 43), (7, 47), (11, 51), (22, 62), (23, 63), (27, 67), (28, 68), (29, 69), (30, 70), (34, 74), (37, 77), (38, 78), (45, 85), (46, 86), (47, 6)] from by decide)
theorem fam_mono : ∀ s ∈ (FAM v0 x4 x5 v8 v10 v16 x22 x23 v12 v14 w0), ∀ v w w', s.spec v w → Kp w w' → s.spec v w' := by
  intro s hs v w w' h hk
  simp only [FAM, List.mem_cons, List.not_mem_nil, or_false] at hs
  rcases hs with rfl | rfl | rfl | rfl | rfl | rfl | rfl | rfl | rfl | rfl | rfl | rfl | rfl | rfl | rfl
  · exact h
  · exact h
  · exact h
  · exact h
  · exact h
  · exact h
  · exact h
  · exact h
  · obtain ⟨cx, h1, h2, h3⟩ := h; exact ⟨cx, h1, h2.kp hk, h3⟩
  · exact h
  · exact h
  · exact h
  · obtain ⟨cx, h1, h2, h3⟩ := h; exact ⟨cx, h1, h2.kp hk, h3⟩
  · obtain ⟨cx, h1, h2, h3⟩ := h; exact ⟨cx, h1, h2.kp hk, h3⟩
  · obtain ⟨cx, h1, h2, h3⟩ := h; exact ⟨cx, h1, h2.kp hk, h3⟩
theorem fam_not {k : Nat} (hk : k ∉ ([43, 47, 51, 62, 63, 67, 68, 69, 70, 74, 77, 78, 85, 86, 6] : List Nat)) : ∀ s ∈ (FAM v0 x4 x5 v8 v10 v16 x22 x23 v12 v14 w0), s.dst ≠ k := fun s hs e => hk (by rw [← fam_dst (v0 := v0) (x4 := x4) (x5 := x5) (v8 := v8) (v10 := v10) (v16 := v16) (x22 := x22) (x23 := x23) (v12 := v12) (v14 := v14) (w0 := w0), ← e]; exact List.mem_map_of_mem hs)
theorem fam_notop {k : Nat} (hk : ∀ s ∈ (FAM v0 x4 x5 v8 v10 v16 x22 x23 v12 v14 w0), s.op ≠ k) : k ∉ ([3, 7, 11, 22, 23, 27, 28, 29, 30, 34, 37, 38, 45, 46, 47] : List Nat) := fun h => by
  rw [← fam_op (v0 := v0) (x4 := x4) (x5 := x5) (v8 := v8) (v10 := v10) (v16 := v16) (x22 := x22) (x23 := x23) (v12 := v12) (v14 := v14) (w0 := w0)] at h
  obtain ⟨s, hs, e⟩ := List.mem_map.1 h
  exact hk s hs e
end
/-- What each one waits for. -/
def Deps : Nat → List Nat
  | 23 => [22]
  | 28 => [27]
  | 29 => [3, 7, 11, 23, 28]
  | 30 => [29]
  | 38 => [37]
  | 45 => [30, 34, 38]
  | 46 => [45]
  | 48 => [46, 47]
  | _ => []
def Clo (l : Array Bool) : Prop := ∀ i j, j ∈ Deps i → l.getD i false = true → l.getD j false = true
theorem Clo.set {l : Array Bool} (h : Clo l) {i : Nat} (hd : ∀ j ∈ Deps i, l.getD j false = true) : Clo (l.setIfInBounds i true) := fun k j hj hk => by
  by_cases e : k = i
  · subst e; exact getD_set_true (hd j hj)
  · rw [getD_set_ne false (Ne.symm e)] at hk
    exact getD_set_true (h k j hj hk)

theorem fold_tmps (t : Array Value) : ∀ (L : List (Nat × Value)) (t0 : Array Value), t.size = t0.size → (∀ p ∈ L, t[p.1]? = some p.2) → (∀ k, (∀ p ∈ L, p.1 ≠ k) → t[k]? = t0[k]?) → L.foldl (fun t p => t.setIfInBounds p.1 p.2) t0 = t
  | [], t0, _, _, h => (Array.ext_getElem? fun k => h k (fun _ hp => by cases hp)).symm
  | p :: L, t0, hs, h1, h2 => by
    rw [List.foldl_cons]
    refine fold_tmps t L _ (by simp [hs]) (fun q hq => h1 q (List.mem_cons_of_mem _ hq)) (fun k hk => ?_)
    by_cases e : p.1 = k
    · subst e
      have h := h1 p (List.mem_cons_self ..)
      have hlt : p.1 < t0.size := by rw [← hs]; exact (Array.getElem?_eq_some_iff.1 h).1
      rw [h]; simp [hlt]
    · rw [Array.getElem?_setIfInBounds_ne e]
      exact h2 k (fun q hq => by
        rcases List.mem_cons.1 hq with rfl | hq
        · exact e
        · exact hk q hq)
set_option maxRecDepth 100000 in
set_option maxHeartbeats 4000000 in
theorem acc_region8 {ops : Array Oper} {Q : Exit → Act → World → Prop} {S : World → Prop} (v0 x4 x5 v8 v10 v16 x22 x23 v12 v14 : Int) (w0 : World) (a0 : Act) (l0 : Array Bool)
    (hSS : ∀ W, Kp w0 W → S W) (hv0 : IntKind.u32.wrap v0 = v0) (hv12 : IntKind.u32.wrap v12 = v12) (hv14 : IntKind.u32.wrap v14 = v14)
    (hsz : ops.size = 49) (hordb : ((List.range 49).all fun i => ((ops[i]?).map fun o => o.after.all fun e => !Region.binds .any e || decide (e.on < i)).getD true) = true)
    (C3 : ∀ W, Kp w0 W → Calls Tryd.prog 63 #[a0.eval (.tmp 40), a0.eval (.tmp 42)] W fun e w' => ∃ v, e = .returned v ∧ (v = .int .u16 v8 ∧ Kp W w'))
    (O3 : OpAt ops 3 (some 43) (.call ⟨.value (.func 63), #[.tmp 40, .tmp 42], #[131, 26]⟩) [])
    (C7 : ∀ W, Kp w0 W → Calls Tryd.prog 63 #[a0.eval (.tmp 44), a0.eval (.tmp 46)] W fun e w' => ∃ v, e = .returned v ∧ (v = .int .u16 v10 ∧ Kp W w'))
    (O7 : OpAt ops 7 (some 47) (.call ⟨.value (.func 63), #[.tmp 44, .tmp 46], #[131, 26]⟩) [])
    (C11 : ∀ W, Kp w0 W → Calls Tryd.prog 63 #[a0.eval (.tmp 48), a0.eval (.tmp 50)] W fun e w' => ∃ v, e = .returned v ∧ (v = .int .u16 v16 ∧ Kp W w'))
    (O11 : OpAt ops 11 (some 51) (.call ⟨.value (.func 63), #[.tmp 48, .tmp 50], #[131, 26]⟩) [])
    (C22 : ∀ W, Kp w0 W → Calls Tryd.prog 63 #[a0.eval (.tmp 59), a0.eval (.tmp 61)] W fun e w' => ∃ v, e = .returned v ∧ (v = .int .u16 v12 ∧ Kp W w'))
    (O22 : OpAt ops 22 (some 62) (.call ⟨.value (.func 63), #[.tmp 59, .tmp 61], #[131, 26]⟩) [])
    (O23 : OpAt ops 23 (some 63) (.convert 23 22 (.tmp 62)) [22])
    (C27 : ∀ W, Kp w0 W → Calls Tryd.prog 63 #[a0.eval (.tmp 64), a0.eval (.tmp 66)] W fun e w' => ∃ v, e = .returned v ∧ (v = .int .u16 v14 ∧ Kp W w'))
    (O27 : OpAt ops 27 (some 67) (.call ⟨.value (.func 63), #[.tmp 64, .tmp 66], #[131, 26]⟩) [])
    (O28 : OpAt ops 28 (some 68) (.convert 23 22 (.tmp 67)) [27])
    (O29 : OpAt ops 29 (some 69) (.build 74 #[(0, .const (.slice none 0 0)), (2, .tmp 43), (3, .const (.int .u16 0)), (4, .const (.int .u16 0)), (5, .tmp 47), (6, .const (.int .u16 0)), (7, .tmp 51), (8, .tmp 52), (10, .tmp 55), (11, .tmp 58), (12, .tmp 63), (13, .tmp 68), (14, .const (.bool false)), (15, .const (.bool false)), (16, .const (.bool false)), (17, .const (.bool false))]) [3, 7, 11, 23, 28])
    (O30 : OpAt ops 30 (some 70) (.box 74 (.tmp 69)) [29])
    (C34 : ∀ W, Kp w0 W → Calls Tryd.prog 63 #[a0.eval (.tmp 71), a0.eval (.tmp 73)] W fun e w' => ∃ v, e = .returned v ∧ (v = .int .u16 41 ∧ Kp W w'))
    (O34 : OpAt ops 34 (some 74) (.call ⟨.value (.func 63), #[.tmp 71, .tmp 73], #[131, 26]⟩) [])
    (C37 : ∀ W, Kp w0 W → Calls Tryd.prog 63 #[a0.eval (.tmp 75), a0.eval (.tmp 76)] W fun e w' => ∃ v, e = .returned v ∧ (v = .int .u16 v0 ∧ Kp W w'))
    (O37 : OpAt ops 37 (some 77) (.call ⟨.value (.func 63), #[.tmp 75, .tmp 76], #[131, 26]⟩) [])
    (O38 : OpAt ops 38 (some 78) (.convert 23 22 (.tmp 77)) [37])
    (O45 : OpAt ops 45 (some 85) (.build 68 #[(4, .tmp 70), (0, .tmp 74), (1, .tmp 78), (2, .tmp 81), (3, .tmp 84)]) [30, 34, 38])
    (O46 : OpAt ops 46 (some 86) (.build 70 #[(0, .tmp 85)]) [45])
    (O47 : OpAt ops 47 (some 6) (.alloc 70) [])
    (O48 : OpAt ops 48 none (.store 70 (.tmp 6) (.tmp 86)) [46, 47])
    (e52 : a0.eval (.tmp 52) = .string ⟨#[]⟩) (e55 : a0.eval (.tmp 55) = .int .u8 x22) (e58 : a0.eval (.tmp 58) = .int .u8 x23) (e81 : a0.eval (.tmp 81) = .int .u8 x4) (e84 : a0.eval (.tmp 84) = .int .u8 x5)
    (ht : a0.tmps.size = 174) (hl0 : l0.size = 49) (hfb : (([3, 7, 11, 22, 23, 27, 28, 29, 30, 34, 37, 38, 45, 46, 47] : List Nat).all fun i => !l0.getD i false) = true) (h48 : l0.getD 48 true = false) (htb : ((List.range 49).all fun i => ([3, 7, 11, 22, 23, 27, 28, 29, 30, 34, 37, 38, 45, 46, 47] : List Nat).contains i || i == 48 || l0.getD i true) = true)
    (hfin : ∀ (y43 y47 y51 y62 y63 y67 y68 y69 y70 y74 y77 y78 y85 y86 : Value) (pk cx : Nat) (wx : World), Made w0 v0 x4 x5 v8 v10 v16 x22 x23 v12 v14 (.slice none 0 0) pk cx wx → Q .normal ⟨([(43, y43), (47, y47), (51, y51), (62, y62), (63, y63), (67, y67), (68, y68), (69, y69), (70, y70), (74, y74), (77, y77), (78, y78), (85, y85), (86, y86), (6, .pointer (some ⟨pk, 0, none⟩))] : List (Nat × Value)).foldl (fun t p => t.setIfInBounds p.1 p.2) a0.tmps, a0.defers⟩ wx)
    (fuel : Nat) (hfu : l0.toList.count false ≤ fuel) : wpAnyH Tryd.prog .any ops Q S fuel l0 a0 w0 := by
  have hf : ∀ i ∈ ([3, 7, 11, 22, 23, 27, 28, 29, 30, 34, 37, 38, 45, 46, 47] : List Nat), l0.getD i false = false := fun i hi => by simpa using List.all_eq_true.1 hfb i hi
  have htrue : ∀ i, i < 49 → i ∉ ([3, 7, 11, 22, 23, 27, 28, 29, 30, 34, 37, 38, 45, 46, 47] : List Nat) → i ≠ 48 → l0.getD i true = true := fun i hi hn hne => by
    have h := List.all_eq_true.1 htb i (List.mem_range.2 hi)
    rw [Bool.or_eq_true, Bool.or_eq_true] at h
    rcases h with (h | h) | h
    · exact absurd (List.contains_iff_mem.1 h) hn
    · exact absurd (by simpa using h) hne
    · exact h
  have hord : ∀ (i : Nat) o, ops[i]? = some o → ∀ e ∈ o.after, Region.binds .any e = true → e.on < i := fun i o ho e he hb => by
    have hi : i < 49 := by rw [← hsz]; exact (Array.getElem?_eq_some_iff.1 ho).1
    have h := List.all_eq_true.1 hordb i (List.mem_range.2 hi)
    rw [ho] at h
    have h2 := Array.all_eq_true'.1 h e he
    rw [hb] at h2
    simpa using h2
  have hclo : Clo l0 := fun i j hj hi => by
    exfalso
    have hm : i ∈ ([3, 7, 11, 22, 23, 27, 28, 29, 30, 34, 37, 38, 45, 46, 47] : List Nat) ∨ i = 48 := by
      unfold Deps at hj
      split at hj <;> first | exact .inl (by decide) | exact .inr rfl | cases hj
    rcases hm with hm | rfl
    · rw [hf i hm] at hi; cases hi
    · have hk : 48 < l0.size := by rw [hl0]; decide
      simp [hk] at hi h48
      rw [h48] at hi; cases hi
  have hent : ∀ vs w, (callFunc 63 vs).run Tryd.prog w = .ok (.enter 63 vs) w := fun vs w => enter_of Tryd.func63 (by kernel_rfl) rfl vs w
  refine wpAnyH_inv (Inv := fun l a w => (IA (FAM v0 x4 x5 v8 v10 v16 x22 x23 v12 v14 w0) 48 49 a0 w0 l a w ∧ Clo l) ∨ (Region.ready .any ops l = [] ∧ Q .normal a w ∧ S w)) ?_ ?_ ?_ fuel l0 a0 w0 hfu (.inl ⟨⟨hl0, h48, rfl, rfl, fun _ _ => rfl, fun i hi hn hne => htrue i hi (fam_notop hn) hne, Kp.refl w0, fun s hs hl => ?_⟩, hclo⟩)
  · rintro l a w (⟨h, _⟩ | ⟨_, _, h⟩)
    · exact hSS w h.kp
    · exact h
  · rintro l a w i (⟨h, hc⟩ | ⟨h, _⟩) hr
    rotate_left 1
    · rw [h] at hr; cases hr
    have hil := (mem_ready.1 hr).1
    have hi : i < 49 := by
      obtain ⟨_, o, ho, _⟩ := mem_ready.1 hr
      rw [← hsz]; exact (Array.getElem?_eq_some_iff.1 ho).1
    have hin : i ∈ ([3, 7, 11, 22, 23, 27, 28, 29, 30, 34, 37, 38, 45, 46, 47, 48] : List Nat) := by
      by_cases hn : i ∈ ([3, 7, 11, 22, 23, 27, 28, 29, 30, 34, 37, 38, 45, 46, 47, 48] : List Nat)
      · exact hn
      · exfalso
        have := h.up i hi (fun s hs e => hn (by
          have hm : s.op ∈ (FAM v0 x4 x5 v8 v10 v16 x22 x23 v12 v14 w0).map Slot.op := List.mem_map_of_mem hs
          rw [fam_op, e] at hm
          exact List.mem_append_left [48] hm)) (fun e => hn (by subst e; decide))
        rw [this] at hil; cases hil
    simp only [List.mem_cons, List.not_mem_nil, or_false] at hin
    rcases hin with rfl | rfl | rfl | rfl | rfl | rfl | rfl | rfl | rfl | rfl | rfl | rfl | rfl | rfl | rfl | rfl
    · refine O3.call hent (vs := #[a0.eval (.tmp 40), a0.eval (.tmp 42)]) (by simp only [List.map_toArray, List.map_cons, List.map_nil, (h.base (fam_not (by decide)) rfl : a.eval (.tmp 40) = a0.eval (.tmp 40)), (h.base (fam_not (by decide)) rfl : a.eval (.tmp 42) = a0.eval (.tmp 42))]) (C3 w h.kp) ?_
      rintro v w' ⟨rfl, hk⟩
      exact .inl ⟨h.step fam_pair fam_mono (s := (⟨3, 43, fun v _ => v = .int .u16 v8⟩ : Slot)) (List.mem_of_getElem? (l := FAM v0 x4 x5 v8 v10 v16 x22 x23 v12 v14 w0) (i := 0) rfl) (show (3 : Nat) ≠ 48 by decide) (show (43 : Nat) < a0.tmps.size by rw [ht]; decide) hk rfl, hc.set (fun j hj => by cases hj)⟩
    · refine O7.call hent (vs := #[a0.eval (.tmp 44), a0.eval (.tmp 46)]) (by simp only [List.map_toArray, List.map_cons, List.map_nil, (h.base (fam_not (by decide)) rfl : a.eval (.tmp 44) = a0.eval (.tmp 44)), (h.base (fam_not (by decide)) rfl : a.eval (.tmp 46) = a0.eval (.tmp 46))]) (C7 w h.kp) ?_
      rintro v w' ⟨rfl, hk⟩
      exact .inl ⟨h.step fam_pair fam_mono (s := (⟨7, 47, fun v _ => v = .int .u16 v10⟩ : Slot)) (List.mem_of_getElem? (l := FAM v0 x4 x5 v8 v10 v16 x22 x23 v12 v14 w0) (i := 1) rfl) (show (7 : Nat) ≠ 48 by decide) (show (47 : Nat) < a0.tmps.size by rw [ht]; decide) hk rfl, hc.set (fun j hj => by cases hj)⟩
    · refine O11.call hent (vs := #[a0.eval (.tmp 48), a0.eval (.tmp 50)]) (by simp only [List.map_toArray, List.map_cons, List.map_nil, (h.base (fam_not (by decide)) rfl : a.eval (.tmp 48) = a0.eval (.tmp 48)), (h.base (fam_not (by decide)) rfl : a.eval (.tmp 50) = a0.eval (.tmp 50))]) (C11 w h.kp) ?_
      rintro v w' ⟨rfl, hk⟩
      exact .inl ⟨h.step fam_pair fam_mono (s := (⟨11, 51, fun v _ => v = .int .u16 v16⟩ : Slot)) (List.mem_of_getElem? (l := FAM v0 x4 x5 v8 v10 v16 x22 x23 v12 v14 w0) (i := 2) rfl) (show (11 : Nat) ≠ 48 by decide) (show (51 : Nat) < a0.tmps.size by rw [ht]; decide) hk rfl, hc.set (fun j hj => by cases hj)⟩
    · refine O22.call hent (vs := #[a0.eval (.tmp 59), a0.eval (.tmp 61)]) (by simp only [List.map_toArray, List.map_cons, List.map_nil, (h.base (fam_not (by decide)) rfl : a.eval (.tmp 59) = a0.eval (.tmp 59)), (h.base (fam_not (by decide)) rfl : a.eval (.tmp 61) = a0.eval (.tmp 61))]) (C22 w h.kp) ?_
      rintro v w' ⟨rfl, hk⟩
      exact .inl ⟨h.step fam_pair fam_mono (s := (⟨22, 62, fun v _ => v = .int .u16 v12⟩ : Slot)) (List.mem_of_getElem? (l := FAM v0 x4 x5 v8 v10 v16 x22 x23 v12 v14 w0) (i := 3) rfl) (show (22 : Nat) ≠ 48 by decide) (show (62 : Nat) < a0.tmps.size by rw [ht]; decide) hk rfl, hc.set (fun j hj => by cases hj)⟩
    · obtain ⟨v, hv, rfl⟩ := h.get (s := (⟨22, 62, fun v _ => v = .int .u16 v12⟩ : Slot)) (List.mem_of_getElem? (l := FAM v0 x4 x5 v8 v10 v16 x22 x23 v12 v14 w0) (i := 3) rfl) (O23.deps hr (j := 22) (by decide))
      refine O23.value (v := .int .u32 v12) (w' := w) (fun ty pos aft => ?_) (.inl ⟨h.step fam_pair fam_mono (s := (⟨23, 63, fun v _ => v = .int .u32 v12⟩ : Slot)) (List.mem_of_getElem? (l := FAM v0 x4 x5 v8 v10 v16 x22 x23 v12 v14 w0) (i := 4) rfl) (show (23 : Nat) ≠ 48 by decide) (show (63 : Nat) < a0.tmps.size by rw [ht]; decide) (Kp.refl w) rfl, hc.set (fun j hj => O23.deps hr hj)⟩)
      have hv : a.eval (.tmp 62) = .int .u16 v12 := hv
      unfold execOp
      simp only [hv]
      go_simp
    · refine O27.call hent (vs := #[a0.eval (.tmp 64), a0.eval (.tmp 66)]) (by simp only [List.map_toArray, List.map_cons, List.map_nil, (h.base (fam_not (by decide)) rfl : a.eval (.tmp 64) = a0.eval (.tmp 64)), (h.base (fam_not (by decide)) rfl : a.eval (.tmp 66) = a0.eval (.tmp 66))]) (C27 w h.kp) ?_
      rintro v w' ⟨rfl, hk⟩
      exact .inl ⟨h.step fam_pair fam_mono (s := (⟨27, 67, fun v _ => v = .int .u16 v14⟩ : Slot)) (List.mem_of_getElem? (l := FAM v0 x4 x5 v8 v10 v16 x22 x23 v12 v14 w0) (i := 5) rfl) (show (27 : Nat) ≠ 48 by decide) (show (67 : Nat) < a0.tmps.size by rw [ht]; decide) hk rfl, hc.set (fun j hj => by cases hj)⟩
    · obtain ⟨v, hv, rfl⟩ := h.get (s := (⟨27, 67, fun v _ => v = .int .u16 v14⟩ : Slot)) (List.mem_of_getElem? (l := FAM v0 x4 x5 v8 v10 v16 x22 x23 v12 v14 w0) (i := 5) rfl) (O28.deps hr (j := 27) (by decide))
      refine O28.value (v := .int .u32 v14) (w' := w) (fun ty pos aft => ?_) (.inl ⟨h.step fam_pair fam_mono (s := (⟨28, 68, fun v _ => v = .int .u32 v14⟩ : Slot)) (List.mem_of_getElem? (l := FAM v0 x4 x5 v8 v10 v16 x22 x23 v12 v14 w0) (i := 6) rfl) (show (28 : Nat) ≠ 48 by decide) (show (68 : Nat) < a0.tmps.size by rw [ht]; decide) (Kp.refl w) rfl, hc.set (fun j hj => O28.deps hr hj)⟩)
      have hv : a.eval (.tmp 67) = .int .u16 v14 := hv
      unfold execOp
      simp only [hv]
      go_simp
    · skip
      obtain ⟨v, hv43, rfl⟩ := h.get (s := (⟨3, 43, fun v _ => v = .int .u16 v8⟩ : Slot)) (List.mem_of_getElem? (l := FAM v0 x4 x5 v8 v10 v16 x22 x23 v12 v14 w0) (i := 0) rfl) (O29.deps hr (j := 3) (by decide))
      have hv43 : a.eval (.tmp 43) = _ := hv43
      obtain ⟨v, hv47, rfl⟩ := h.get (s := (⟨7, 47, fun v _ => v = .int .u16 v10⟩ : Slot)) (List.mem_of_getElem? (l := FAM v0 x4 x5 v8 v10 v16 x22 x23 v12 v14 w0) (i := 1) rfl) (O29.deps hr (j := 7) (by decide))
      have hv47 : a.eval (.tmp 47) = _ := hv47
      obtain ⟨v, hv51, rfl⟩ := h.get (s := (⟨11, 51, fun v _ => v = .int .u16 v16⟩ : Slot)) (List.mem_of_getElem? (l := FAM v0 x4 x5 v8 v10 v16 x22 x23 v12 v14 w0) (i := 2) rfl) (O29.deps hr (j := 11) (by decide))
      have hv51 : a.eval (.tmp 51) = _ := hv51
      obtain ⟨v, hv63, rfl⟩ := h.get (s := (⟨23, 63, fun v _ => v = .int .u32 v12⟩ : Slot)) (List.mem_of_getElem? (l := FAM v0 x4 x5 v8 v10 v16 x22 x23 v12 v14 w0) (i := 4) rfl) (O29.deps hr (j := 23) (by decide))
      have hv63 : a.eval (.tmp 63) = _ := hv63
      obtain ⟨v, hv68, rfl⟩ := h.get (s := (⟨28, 68, fun v _ => v = .int .u32 v14⟩ : Slot)) (List.mem_of_getElem? (l := FAM v0 x4 x5 v8 v10 v16 x22 x23 v12 v14 w0) (i := 6) rfl) (O29.deps hr (j := 28) (by decide))
      have hv68 : a.eval (.tmp 68) = _ := hv68
      have hv52 := (h.base (fam_not (by decide)) rfl : a.eval (.tmp 52) = a0.eval (.tmp 52)).trans e52
      have hv55 := (h.base (fam_not (by decide)) rfl : a.eval (.tmp 55) = a0.eval (.tmp 55)).trans e55
      have hv58 := (h.base (fam_not (by decide)) rfl : a.eval (.tmp 58) = a0.eval (.tmp 58)).trans e58
      refine O29.value (v := .agg (ctxC v8 v10 v16 x22 x23 v12 v14)) (w' := w) (fun ty pos aft => ?_) (.inl ⟨h.step fam_pair fam_mono (s := (⟨29, 69, fun v _ => v = .agg (ctxC v8 v10 v16 x22 x23 v12 v14)⟩ : Slot)) (List.mem_of_getElem? (l := FAM v0 x4 x5 v8 v10 v16 x22 x23 v12 v14 w0) (i := 7) rfl) (show (29 : Nat) ≠ 48 by decide) (show (69 : Nat) < a0.tmps.size by rw [ht]; decide) (Kp.refl w) rfl, hc.set (fun j hj => O29.deps hr hj)⟩)
      unfold execOp ctxC
      simp only [List.map_toArray, List.map_cons, List.map_nil, hv43, hv47, hv51, hv63, hv68, hv52, hv55, hv58]
      go_simp
      try rfl
    · obtain ⟨v, hv, rfl⟩ := h.get (s := (⟨29, 69, fun v _ => v = .agg (ctxC v8 v10 v16 x22 x23 v12 v14)⟩ : Slot)) (List.mem_of_getElem? (l := FAM v0 x4 x5 v8 v10 v16 x22 x23 v12 v14 w0) (i := 7) rfl) (O30.deps hr (j := 29) (by decide))
      have hv : a.eval (.tmp 69) = _ := hv
      refine O30.value (v := .pointer (some ⟨w.heap.size, 0, none⟩)) (w' := w.alloc (.cells (ctxC v8 v10 v16 x22 x23 v12 v14) 74)) (fun ty pos aft => ?_) (.inl ⟨h.step fam_pair fam_mono (s := (⟨30, 70, fun v w => ∃ cx, v = .pointer (some ⟨cx, 0, none⟩) ∧ Blk w cx 74 (ctxC v8 v10 v16 x22 x23 v12 v14) ∧ w0.heap.size ≤ cx⟩ : Slot)) (List.mem_of_getElem? (l := FAM v0 x4 x5 v8 v10 v16 x22 x23 v12 v14 w0) (i := 8) rfl) (show (30 : Nat) ≠ 48 by decide) (show (70 : Nat) < a0.tmps.size by rw [ht]; decide) ((Kp.refl w).alloc _) ⟨_, rfl, Blk.new w _ _, h.kp.size⟩, hc.set (fun j hj => O30.deps hr hj)⟩)
      unfold execOp
      unfold ctxC at *
      simp only [hv]
      go_simp
      try rfl
    · refine O34.call hent (vs := #[a0.eval (.tmp 71), a0.eval (.tmp 73)]) (by simp only [List.map_toArray, List.map_cons, List.map_nil, (h.base (fam_not (by decide)) rfl : a.eval (.tmp 71) = a0.eval (.tmp 71)), (h.base (fam_not (by decide)) rfl : a.eval (.tmp 73) = a0.eval (.tmp 73))]) (C34 w h.kp) ?_
      rintro v w' ⟨rfl, hk⟩
      exact .inl ⟨h.step fam_pair fam_mono (s := (⟨34, 74, fun v _ => v = .int .u16 41⟩ : Slot)) (List.mem_of_getElem? (l := FAM v0 x4 x5 v8 v10 v16 x22 x23 v12 v14 w0) (i := 9) rfl) (show (34 : Nat) ≠ 48 by decide) (show (74 : Nat) < a0.tmps.size by rw [ht]; decide) hk rfl, hc.set (fun j hj => by cases hj)⟩
    · refine O37.call hent (vs := #[a0.eval (.tmp 75), a0.eval (.tmp 76)]) (by simp only [List.map_toArray, List.map_cons, List.map_nil, (h.base (fam_not (by decide)) rfl : a.eval (.tmp 75) = a0.eval (.tmp 75)), (h.base (fam_not (by decide)) rfl : a.eval (.tmp 76) = a0.eval (.tmp 76))]) (C37 w h.kp) ?_
      rintro v w' ⟨rfl, hk⟩
      exact .inl ⟨h.step fam_pair fam_mono (s := (⟨37, 77, fun v _ => v = .int .u16 v0⟩ : Slot)) (List.mem_of_getElem? (l := FAM v0 x4 x5 v8 v10 v16 x22 x23 v12 v14 w0) (i := 10) rfl) (show (37 : Nat) ≠ 48 by decide) (show (77 : Nat) < a0.tmps.size by rw [ht]; decide) hk rfl, hc.set (fun j hj => by cases hj)⟩
    · obtain ⟨v, hv, rfl⟩ := h.get (s := (⟨37, 77, fun v _ => v = .int .u16 v0⟩ : Slot)) (List.mem_of_getElem? (l := FAM v0 x4 x5 v8 v10 v16 x22 x23 v12 v14 w0) (i := 10) rfl) (O38.deps hr (j := 37) (by decide))
      refine O38.value (v := .int .u32 v0) (w' := w) (fun ty pos aft => ?_) (.inl ⟨h.step fam_pair fam_mono (s := (⟨38, 78, fun v _ => v = .int .u32 v0⟩ : Slot)) (List.mem_of_getElem? (l := FAM v0 x4 x5 v8 v10 v16 x22 x23 v12 v14 w0) (i := 11) rfl) (show (38 : Nat) ≠ 48 by decide) (show (78 : Nat) < a0.tmps.size by rw [ht]; decide) (Kp.refl w) rfl, hc.set (fun j hj => O38.deps hr hj)⟩)
      have hv : a.eval (.tmp 77) = .int .u16 v0 := hv
      unfold execOp
      simp only [hv]
      go_simp
    · obtain ⟨v, hv70, cx, rfl, hb, hx⟩ := h.get (s := (⟨30, 70, fun v w => ∃ cx, v = .pointer (some ⟨cx, 0, none⟩) ∧ Blk w cx 74 (ctxC v8 v10 v16 x22 x23 v12 v14) ∧ w0.heap.size ≤ cx⟩ : Slot)) (List.mem_of_getElem? (l := FAM v0 x4 x5 v8 v10 v16 x22 x23 v12 v14 w0) (i := 8) rfl) (O45.deps hr (j := 30) (by decide))
      have hv70 : a.eval (.tmp 70) = _ := hv70
      obtain ⟨v, hv74, rfl⟩ := h.get (s := (⟨34, 74, fun v _ => v = .int .u16 41⟩ : Slot)) (List.mem_of_getElem? (l := FAM v0 x4 x5 v8 v10 v16 x22 x23 v12 v14 w0) (i := 9) rfl) (O45.deps hr (j := 34) (by decide))
      have hv74 : a.eval (.tmp 74) = _ := hv74
      obtain ⟨v, hv78, rfl⟩ := h.get (s := (⟨38, 78, fun v _ => v = .int .u32 v0⟩ : Slot)) (List.mem_of_getElem? (l := FAM v0 x4 x5 v8 v10 v16 x22 x23 v12 v14 w0) (i := 11) rfl) (O45.deps hr (j := 38) (by decide))
      have hv78 : a.eval (.tmp 78) = _ := hv78
      have hv81 := (h.base (fam_not (by decide)) rfl : a.eval (.tmp 81) = a0.eval (.tmp 81)).trans e81
      have hv84 := (h.base (fam_not (by decide)) rfl : a.eval (.tmp 84) = a0.eval (.tmp 84)).trans e84
      refine O45.value (v := .agg #[.int .u16 41, .int .u32 v0, .int .u8 x4, .int .u8 x5, .pointer (some ⟨cx, 0, none⟩)]) (w' := w) (fun ty pos aft => ?_) (.inl ⟨h.step fam_pair fam_mono (s := (⟨45, 85, fun v w => ∃ cx, v = .agg #[.int .u16 41, .int .u32 v0, .int .u8 x4, .int .u8 x5, .pointer (some ⟨cx, 0, none⟩)] ∧ Blk w cx 74 (ctxC v8 v10 v16 x22 x23 v12 v14) ∧ w0.heap.size ≤ cx⟩ : Slot)) (List.mem_of_getElem? (l := FAM v0 x4 x5 v8 v10 v16 x22 x23 v12 v14 w0) (i := 12) rfl) (show (45 : Nat) ≠ 48 by decide) (show (85 : Nat) < a0.tmps.size by rw [ht]; decide) (Kp.refl w) ⟨cx, rfl, hb, hx⟩, hc.set (fun j hj => O45.deps hr hj)⟩)
      unfold execOp
      simp only [List.map_toArray, List.map_cons, List.map_nil, hv70, hv74, hv78, hv81, hv84]
      go_simp
      try rfl
    · obtain ⟨v, hv, cx, rfl, hb, hx⟩ := h.get (s := (⟨45, 85, fun v w => ∃ cx, v = .agg #[.int .u16 41, .int .u32 v0, .int .u8 x4, .int .u8 x5, .pointer (some ⟨cx, 0, none⟩)] ∧ Blk w cx 74 (ctxC v8 v10 v16 x22 x23 v12 v14) ∧ w0.heap.size ≤ cx⟩ : Slot)) (List.mem_of_getElem? (l := FAM v0 x4 x5 v8 v10 v16 x22 x23 v12 v14 w0) (i := 12) rfl) (O46.deps hr (j := 45) (by decide))
      have hv : a.eval (.tmp 85) = _ := hv
      refine O46.value (v := .agg (pckC v0 x4 x5 cx (.slice none 0 0))) (w' := w) (fun ty pos aft => ?_) (.inl ⟨h.step fam_pair fam_mono (s := (⟨46, 86, fun v w => ∃ cx, v = .agg (pckC v0 x4 x5 cx (.slice none 0 0)) ∧ Blk w cx 74 (ctxC v8 v10 v16 x22 x23 v12 v14) ∧ w0.heap.size ≤ cx⟩ : Slot)) (List.mem_of_getElem? (l := FAM v0 x4 x5 v8 v10 v16 x22 x23 v12 v14 w0) (i := 13) rfl) (show (46 : Nat) ≠ 48 by decide) (show (86 : Nat) < a0.tmps.size by rw [ht]; decide) (Kp.refl w) ⟨cx, rfl, hb, hx⟩, hc.set (fun j hj => O46.deps hr hj)⟩)
      unfold execOp pckC
      simp only [List.map_toArray, List.map_cons, List.map_nil, hv]
      go_simp
      try rfl
    · refine O47.value (v := .pointer (some ⟨w.heap.size, 0, none⟩)) (w' := w.alloc (.cells #[.int .u16 0, .int .u32 0, .int .u8 0, .int .u8 0, .pointer none, .slice none 0 0] 70)) (fun ty pos aft => ?_) (.inl ⟨h.step fam_pair fam_mono (s := (⟨47, 6, fun v w => ∃ pk, v = .pointer (some ⟨pk, 0, none⟩) ∧ Blk w pk 70 #[.int .u16 0, .int .u32 0, .int .u8 0, .int .u8 0, .pointer none, .slice none 0 0] ∧ w0.heap.size ≤ pk⟩ : Slot)) (List.mem_of_getElem? (l := FAM v0 x4 x5 v8 v10 v16 x22 x23 v12 v14 w0) (i := 14) rfl) (show (47 : Nat) ≠ 48 by decide) (show (6 : Nat) < a0.tmps.size by rw [ht]; decide) ((Kp.refl w).alloc _) ⟨_, rfl, Blk.new w _ _, h.kp.size⟩, hc.set (fun j hj => by cases hj)⟩)
      unfold execOp
      go_simp
      try rfl
    · have l46 := O48.deps hr (j := 46) (by decide)
      have l47 := O48.deps hr (j := 47) (by decide)
      have l45 := hc 46 45 (by decide) l46
      have l30 := hc 45 30 (by decide) l45
      have l34 := hc 45 34 (by decide) l45
      have l38 := hc 45 38 (by decide) l45
      have l37 := hc 38 37 (by decide) l38
      have l29 := hc 30 29 (by decide) l30
      have l3 := hc 29 3 (by decide) l29
      have l7 := hc 29 7 (by decide) l29
      have l11 := hc 29 11 (by decide) l29
      have l23 := hc 29 23 (by decide) l29
      have l28 := hc 29 28 (by decide) l29
      have l22 := hc 23 22 (by decide) l23
      have l27 := hc 28 27 (by decide) l28
      obtain ⟨v, hv86, cx, rfl, hb, hx⟩ := h.get (s := (⟨46, 86, fun v w => ∃ cx, v = .agg (pckC v0 x4 x5 cx (.slice none 0 0)) ∧ Blk w cx 74 (ctxC v8 v10 v16 x22 x23 v12 v14) ∧ w0.heap.size ≤ cx⟩ : Slot)) (List.mem_of_getElem? (l := FAM v0 x4 x5 v8 v10 v16 x22 x23 v12 v14 w0) (i := 13) rfl) l46
      have hv86 : a.eval (.tmp 86) = _ := hv86
      obtain ⟨v, hv6, pk, rfl, hb6, hx6⟩ := h.get (s := (⟨47, 6, fun v w => ∃ pk, v = .pointer (some ⟨pk, 0, none⟩) ∧ Blk w pk 70 #[.int .u16 0, .int .u32 0, .int .u8 0, .int .u8 0, .pointer none, .slice none 0 0] ∧ w0.heap.size ≤ pk⟩ : Slot)) (List.mem_of_getElem? (l := FAM v0 x4 x5 v8 v10 v16 x22 x23 v12 v14 w0) (i := 14) rfl) l47
      have hv6 : a.eval (.tmp 6) = _ := hv6
      have hne : pk ≠ cx := fun e => by
        subst e
        have h1 : w.heap[pk]? = _ := hb
        have h2 : w.heap[pk]? = _ := hb6
        rw [h1] at h2
        injection h2 with h2
        injection h2 with _ h3
        exact absurd h3 (by decide)
      have q0 : w.cell? ⟨pk, 0, none⟩ = some (.int .u16 0) := hb6.cell 0
      have z0 := hb6.frozen 0
      have q1 : w.cell? ⟨pk, 1, none⟩ = some (.int .u32 0) := hb6.cell 1
      have z1 := hb6.frozen 1
      have q2 : w.cell? ⟨pk, 2, none⟩ = some (.int .u8 0) := hb6.cell 2
      have z2 := hb6.frozen 2
      have q3 : w.cell? ⟨pk, 3, none⟩ = some (.int .u8 0) := hb6.cell 3
      have z3 := hb6.frozen 3
      have q4 : w.cell? ⟨pk, 4, none⟩ = some (.pointer none) := hb6.cell 4
      have z4 := hb6.frozen 4
      have q5 : w.cell? ⟨pk, 5, none⟩ = some (.slice none 0 0) := hb6.cell 5
      have z5 := hb6.frozen 5
      have hmade : Made w0 v0 x4 x5 v8 v10 v16 x22 x23 v12 v14 (.slice none 0 0) pk cx ((((((w.setCell ⟨pk, 0, none⟩ (.int .u16 41)).setCell ⟨pk, 1, none⟩ (.int .u32 v0)).setCell ⟨pk, 2, none⟩ (.int .u8 x4)).setCell ⟨pk, 3, none⟩ (.int .u8 x5)).setCell ⟨pk, 4, none⟩ (.pointer (some ⟨cx, 0, none⟩))).setCell ⟨pk, 5, none⟩ (.slice none 0 0)) :=
        ⟨by have hq := ((((((hb6.set_ 0 (.int .u16 41)).set_ 1 (.int .u32 v0)).set_ 2 (.int .u8 x4)).set_ 3 (.int .u8 x5)).set_ 4 (.pointer (some ⟨cx, 0, none⟩))).set_ 5 (.slice none 0 0)); simpa [pckC] using hq, ((Below.heap_setCell _ ⟨pk, 5, none⟩ _ cx (fun e => hne e.symm)).trans ((Below.heap_setCell _ ⟨pk, 4, none⟩ _ cx (fun e => hne e.symm)).trans ((Below.heap_setCell _ ⟨pk, 3, none⟩ _ cx (fun e => hne e.symm)).trans ((Below.heap_setCell _ ⟨pk, 2, none⟩ _ cx (fun e => hne e.symm)).trans ((Below.heap_setCell _ ⟨pk, 1, none⟩ _ cx (fun e => hne e.symm)).trans ((Below.heap_setCell _ ⟨pk, 0, none⟩ _ cx (fun e => hne e.symm)).trans hb)))))), hne, hx6, hx, (Kp.set (Kp.set (Kp.set (Kp.set (Kp.set (Kp.set h.kp (p := ⟨pk, 0, none⟩) hx6 (.int .u16 41)) (p := ⟨pk, 1, none⟩) hx6 (.int .u32 v0)) (p := ⟨pk, 2, none⟩) hx6 (.int .u8 x4)) (p := ⟨pk, 3, none⟩) hx6 (.int .u8 x5)) (p := ⟨pk, 4, none⟩) hx6 (.pointer (some ⟨cx, 0, none⟩))) (p := ⟨pk, 5, none⟩) hx6 (.slice none 0 0))⟩
      refine O48.skip (w' := ((((((w.setCell ⟨pk, 0, none⟩ (.int .u16 41)).setCell ⟨pk, 1, none⟩ (.int .u32 v0)).setCell ⟨pk, 2, none⟩ (.int .u8 x4)).setCell ⟨pk, 3, none⟩ (.int .u8 x5)).setCell ⟨pk, 4, none⟩ (.pointer (some ⟨cx, 0, none⟩))).setCell ⟨pk, 5, none⟩ (.slice none 0 0))) (fun ty pos aft => ?_) (.inr ⟨?_, ?_, hSS _ hmade.2.2.2.2.2⟩)
      · unfold execOp
        unfold pckC at hv86
        simp only [hv6, hv86]
        go_simp
        try rfl
      · cases hrr : Region.ready .any ops (l.setIfInBounds 48 true) with
        | nil => rfl
        | cons k r =>
          exfalso
          have hm : k ∈ Region.ready .any ops (l.setIfInBounds 48 true) := by rw [hrr]; exact List.mem_cons_self ..
          obtain ⟨hk1, ok, hok, _⟩ := mem_ready.1 hm
          have hk49 : k < 49 := by rw [← hsz]; exact (Array.getElem?_eq_some_iff.1 hok).1
          by_cases e : k = 48
          · subst e; simp [h.size] at hk1
          rw [getD_set_ne true (Ne.symm e)] at hk1
          by_cases hn : k ∈ ([3, 7, 11, 22, 23, 27, 28, 29, 30, 34, 37, 38, 45, 46, 47] : List Nat)
          · have hup : l.getD k false = true := by
              simp only [List.mem_cons, List.not_mem_nil, or_false] at hn
              rcases hn with rfl | rfl | rfl | rfl | rfl | rfl | rfl | rfl | rfl | rfl | rfl | rfl | rfl | rfl | rfl <;> assumption
            have hkl : k < l.size := by rw [h.size]; exact hk49
            simp [hkl] at hk1 hup
            rw [hk1] at hup; cases hup
          · have := h.up k hk49 (fun s hs e' => hn (by
              have hm : s.op ∈ (FAM v0 x4 x5 v8 v10 v16 x22 x23 v12 v14 w0).map Slot.op := List.mem_map_of_mem hs
              rw [fam_op, e'] at hm
              exact hm)) e
            rw [this] at hk1; cases hk1
      · have hfm := h.fam
        obtain ⟨y43, hy43, _⟩ := hfm (⟨3, 43, fun v _ => v = .int .u16 v8⟩ : Slot) (List.mem_of_getElem? (l := FAM v0 x4 x5 v8 v10 v16 x22 x23 v12 v14 w0) (i := 0) rfl) l3
        obtain ⟨y47, hy47, _⟩ := hfm (⟨7, 47, fun v _ => v = .int .u16 v10⟩ : Slot) (List.mem_of_getElem? (l := FAM v0 x4 x5 v8 v10 v16 x22 x23 v12 v14 w0) (i := 1) rfl) l7
        obtain ⟨y51, hy51, _⟩ := hfm (⟨11, 51, fun v _ => v = .int .u16 v16⟩ : Slot) (List.mem_of_getElem? (l := FAM v0 x4 x5 v8 v10 v16 x22 x23 v12 v14 w0) (i := 2) rfl) l11
        obtain ⟨y62, hy62, _⟩ := hfm (⟨22, 62, fun v _ => v = .int .u16 v12⟩ : Slot) (List.mem_of_getElem? (l := FAM v0 x4 x5 v8 v10 v16 x22 x23 v12 v14 w0) (i := 3) rfl) l22
        obtain ⟨y63, hy63, _⟩ := hfm (⟨23, 63, fun v _ => v = .int .u32 v12⟩ : Slot) (List.mem_of_getElem? (l := FAM v0 x4 x5 v8 v10 v16 x22 x23 v12 v14 w0) (i := 4) rfl) l23
        obtain ⟨y67, hy67, _⟩ := hfm (⟨27, 67, fun v _ => v = .int .u16 v14⟩ : Slot) (List.mem_of_getElem? (l := FAM v0 x4 x5 v8 v10 v16 x22 x23 v12 v14 w0) (i := 5) rfl) l27
        obtain ⟨y68, hy68, _⟩ := hfm (⟨28, 68, fun v _ => v = .int .u32 v14⟩ : Slot) (List.mem_of_getElem? (l := FAM v0 x4 x5 v8 v10 v16 x22 x23 v12 v14 w0) (i := 6) rfl) l28
        obtain ⟨y69, hy69, _⟩ := hfm (⟨29, 69, fun v _ => v = .agg (ctxC v8 v10 v16 x22 x23 v12 v14)⟩ : Slot) (List.mem_of_getElem? (l := FAM v0 x4 x5 v8 v10 v16 x22 x23 v12 v14 w0) (i := 7) rfl) l29
        obtain ⟨y70, hy70, _⟩ := hfm (⟨30, 70, fun v w => ∃ cx, v = .pointer (some ⟨cx, 0, none⟩) ∧ Blk w cx 74 (ctxC v8 v10 v16 x22 x23 v12 v14) ∧ w0.heap.size ≤ cx⟩ : Slot) (List.mem_of_getElem? (l := FAM v0 x4 x5 v8 v10 v16 x22 x23 v12 v14 w0) (i := 8) rfl) l30
        obtain ⟨y74, hy74, _⟩ := hfm (⟨34, 74, fun v _ => v = .int .u16 41⟩ : Slot) (List.mem_of_getElem? (l := FAM v0 x4 x5 v8 v10 v16 x22 x23 v12 v14 w0) (i := 9) rfl) l34
        obtain ⟨y77, hy77, _⟩ := hfm (⟨37, 77, fun v _ => v = .int .u16 v0⟩ : Slot) (List.mem_of_getElem? (l := FAM v0 x4 x5 v8 v10 v16 x22 x23 v12 v14 w0) (i := 10) rfl) l37
        obtain ⟨y78, hy78, _⟩ := hfm (⟨38, 78, fun v _ => v = .int .u32 v0⟩ : Slot) (List.mem_of_getElem? (l := FAM v0 x4 x5 v8 v10 v16 x22 x23 v12 v14 w0) (i := 11) rfl) l38
        obtain ⟨y85, hy85, _⟩ := hfm (⟨45, 85, fun v w => ∃ cx, v = .agg #[.int .u16 41, .int .u32 v0, .int .u8 x4, .int .u8 x5, .pointer (some ⟨cx, 0, none⟩)] ∧ Blk w cx 74 (ctxC v8 v10 v16 x22 x23 v12 v14) ∧ w0.heap.size ≤ cx⟩ : Slot) (List.mem_of_getElem? (l := FAM v0 x4 x5 v8 v10 v16 x22 x23 v12 v14 w0) (i := 12) rfl) l45
        obtain ⟨y86, hy86, _⟩ := hfm (⟨46, 86, fun v w => ∃ cx, v = .agg (pckC v0 x4 x5 cx (.slice none 0 0)) ∧ Blk w cx 74 (ctxC v8 v10 v16 x22 x23 v12 v14) ∧ w0.heap.size ≤ cx⟩ : Slot) (List.mem_of_getElem? (l := FAM v0 x4 x5 v8 v10 v16 x22 x23 v12 v14 w0) (i := 13) rfl) l46
        obtain ⟨y6, hy6, _⟩ := hfm (⟨47, 6, fun v w => ∃ pk, v = .pointer (some ⟨pk, 0, none⟩) ∧ Blk w pk 70 #[.int .u16 0, .int .u32 0, .int .u8 0, .int .u8 0, .pointer none, .slice none 0 0] ∧ w0.heap.size ≤ pk⟩ : Slot) (List.mem_of_getElem? (l := FAM v0 x4 x5 v8 v10 v16 x22 x23 v12 v14 w0) (i := 14) rfl) l47
        have e6 : y6 = .pointer (some ⟨pk, 0, none⟩) := by
          rw [← hv6]
          show y6 = a.tmps.getD 6 undef
          have hy6 : a.tmps[6]? = some y6 := hy6
          rw [Array.getD_eq_getD_getElem?, hy6]; rfl
        have hfold := fold_tmps a.tmps [(43, y43), (47, y47), (51, y51), (62, y62), (63, y63), (67, y67), (68, y68), (69, y69), (70, y70), (74, y74), (77, y77), (78, y78), (85, y85), (86, y86), (6, .pointer (some ⟨pk, 0, none⟩))] a0.tmps h.tsz (by
          intro p hp
          simp only [List.mem_cons, List.not_mem_nil, or_false] at hp
          rcases hp with rfl | rfl | rfl | rfl | rfl | rfl | rfl | rfl | rfl | rfl | rfl | rfl | rfl | rfl | rfl
          all_goals first | assumption | (rw [← e6]; assumption)) (fun k hk => h.old k (fam_not (fun hd => by
            simp only [List.mem_cons, List.not_mem_nil, or_false] at hd
            rcases hd with rfl | rfl | rfl | rfl | rfl | rfl | rfl | rfl | rfl | rfl | rfl | rfl | rfl | rfl | rfl
            · exact hk _ (List.mem_of_getElem? (i := 0) rfl) rfl
            · exact hk _ (List.mem_of_getElem? (i := 1) rfl) rfl
            · exact hk _ (List.mem_of_getElem? (i := 2) rfl) rfl
            · exact hk _ (List.mem_of_getElem? (i := 3) rfl) rfl
            · exact hk _ (List.mem_of_getElem? (i := 4) rfl) rfl
            · exact hk _ (List.mem_of_getElem? (i := 5) rfl) rfl
            · exact hk _ (List.mem_of_getElem? (i := 6) rfl) rfl
            · exact hk _ (List.mem_of_getElem? (i := 7) rfl) rfl
            · exact hk _ (List.mem_of_getElem? (i := 8) rfl) rfl
            · exact hk _ (List.mem_of_getElem? (i := 9) rfl) rfl
            · exact hk _ (List.mem_of_getElem? (i := 10) rfl) rfl
            · exact hk _ (List.mem_of_getElem? (i := 11) rfl) rfl
            · exact hk _ (List.mem_of_getElem? (i := 12) rfl) rfl
            · exact hk _ (List.mem_of_getElem? (i := 13) rfl) rfl
            · exact hk _ (List.mem_of_getElem? (i := 14) rfl) rfl)))
        have hq := hfin y43 y47 y51 y62 y63 y67 y68 y69 y70 y74 y77 y78 y85 y86 pk cx _ hmade
        rw [hfold] at hq
        have ha : a = ⟨a.tmps, a0.defers⟩ := by rw [← h.dfr]
        rw [ha]
        exact hq
  · rintro l a w (⟨h, _⟩ | ⟨_, h, _⟩) hr
    · exfalso
      have hall := ready_all hord (by rw [h.size, hsz]) hr 49 48 (by decide) (by rw [hsz]; decide)
      have := h.lst
      have hk : 48 < l.size := by rw [h.size]; decide
      simp [hk] at hall this
      rw [this] at hall; cases hall
    · exact h
  · exfalso
    have hm : s.op ∈ (FAM v0 x4 x5 v8 v10 v16 x22 x23 v12 v14 w0).map Slot.op := List.mem_map_of_mem hs
    rw [fam_op] at hm
    rw [hf _ hm] at hl; cases hl
theorem OpAt.of {ops : Array Oper} {i : Nat} {dst : Option Nat} {op : Op} {deps : List Nat} {ty : TypeId} {pos : String} {aft : Array Edge} (ho : ops[i]? = some ⟨dst, op, ty, pos, aft, none⟩) (hd : (deps.all fun j => aft.any fun e => Region.binds .any e && e.on == j) = true) : OpAt ops i dst op deps :=
  ⟨ty, pos, aft, ho, fun j hj => by
    obtain ⟨e, he, hb⟩ := Array.any_eq_true'.1 (List.all_eq_true.1 hd j hj)
    rw [Bool.and_eq_true] at hb
    exact ⟨e, he, hb.1, by simpa using hb.2⟩⟩
theorem Made.from {w w0 wx : World} {v0 x4 x5 v8 v10 v16 x22 x23 su tu : Int} {v : Value} {pk cx : Nat} (h : Made w0 v0 x4 x5 v8 v10 v16 x22 x23 su tu v pk cx wx) (hk : Kp w w0) : Made w v0 x4 x5 v8 v10 v16 x22 x23 su tu v pk cx wx :=
  ⟨h.1, h.2.1, h.2.2.1, Nat.le_trans hk.size h.2.2.2.1, Nat.le_trans hk.size h.2.2.2.2.1, hk.trans h.2.2.2.2.2⟩
end Go.Proofs.YtacmnibhdmeidaaDoor
