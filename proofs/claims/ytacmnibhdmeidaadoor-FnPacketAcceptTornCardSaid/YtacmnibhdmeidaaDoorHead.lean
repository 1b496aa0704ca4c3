/-
  The bytes of a packet's head.
-/
import Derived.Test.YtacmnibhdmeidaaDoorCtx
namespace Go.Proofs.YtacmnibhdmeidaaDoor
open Go Go.RowKit

def zL (n : Nat) : List Int := List.replicate n 0
def headL (long : Bool) (len ty fl : Int) (off : Nat) : List Int :=
  ((setAll (zL off) 0 (if long then be4 len else be2 (len % 65536))).set 4 ty).set 5 fl

theorem zeroCells_u8 (n : Nat) : (Builtin.zeroCells #[.int .u8 0] n).toList = (List.replicate n 0).map (Value.int .u8) := by
  rw [show Builtin.zeroCells #[.int .u8 0] n = madeCells #[.int .u8 0] n from by simp [Builtin.zeroCells, madeCells], toList_madeCells_one]
  simp

/-- What an append of k zeros makes of a full row. -/
def grownA (w : World) (xs : List Int) (n k : Nat) : Array Value :=
  ((xs ++ List.replicate k 0 ++ List.replicate (grownCap w (n + k) n 5 - (n + k)) 0).map (Value.int .u8)).toArray

theorem run_append_zeros (w : World) (base g n k : Nat) (xs : List Int) (h : w.ownsRow base 5 1 (.slice (some ⟨g, 0, none⟩) n n) n (xs.map (Value.int .u8))) (h0 : 0 < k) (hk : n + k ≤ 70368744177664) :
    (Builtin.append_ #[26, 23] 26 #[.slice (some ⟨g, 0, none⟩) n n, .int .u16 k]).run Tryd.prog w =
      .ok (.slice (some ⟨w.heap.size, 0, none⟩) (n + k) (grownCap w (n + k) n 5)) (w.drew.alloc (.cells (grownA w xs n k) 5)) := by
  obtain ⟨i0, hi, hz0, hz1, hz2⟩ := info_parts info5
  have hold : (Builtin.firstCells i0.size n (.slice (some ⟨g, 0, none⟩) n n)).run Tryd.prog w.drew = .ok (xs.map (Value.int .u8)).toArray w.drew := by
    rw [hz1]
    exact run_firstCells_some w.drew 1 n _ _ _ _ (by simpa using h.1) (fun j v hj => h.cells rfl j v hj)
  have hr := Lib.run_append_grow_zeros (P := Tryd.prog) w 26 23 26 5 i0 (.int .u8 0) .u16 .u16 Tryd.underlying26 Tryd.underlying23 hi hz0 (some ⟨g, 0, none⟩) n n (xs.map (Value.int .u8)) hold k h0 (by rw [hz1]; decide) (by omega) (by omega) (by rw [hz2]; omega)
    (by rw [hz2]; exact growslice_fits (by omega) (by omega))
  rw [hr]
  have e : (xs.map (Value.int .u8)).toArray ++ Builtin.zeroCells (Value.int .u8 0).cells k ++ Builtin.zeroCells (Value.int .u8 0).cells (grownCap w (n + k) n 5 - (n + k)) = grownA w xs n k := by
    apply Array.ext'
    simp only [Array.toList_append, grownA, List.map_append]
    rw [show (Value.int .u8 0).cells = #[.int .u8 0] from rfl, zeroCells_u8, zeroCells_u8]
  rw [e]

theorem own_grownA (w : World) (xs : List Int) (n k : Nat) (hx : xs.length = n) (hk : n + k ≤ 70368744177664) :
    (w.drew.alloc (.cells (grownA w xs n k) 5)).ownsRow w.heap.size 5 1 (.slice (some ⟨w.heap.size, 0, none⟩) (n + k) (grownCap w (n + k) n 5)) (n + k) ((xs ++ List.replicate k 0).map (Value.int .u8)) := by
  have hg := grownCap_ge w (n + k) n 5
  refine ⟨by simp; omega, .inr ⟨w.heap.size, _, _, rfl, Nat.le_refl _, heap_alloc_new w.drew _, hg, grownCap_le_maxLen w _ _ _ (by unfold maxLen; omega), by simp [grownA]; omega, ?_⟩⟩
  simp only [grownA, Nat.mul_one]
  rw [List.map_append (l₁ := xs ++ List.replicate k 0)]
  exact List.take_left' (by simp; omega)

theorem setAll_mem {α : Type} {p : α → Prop} : ∀ (vs xs : List α) (o : Nat), (∀ x ∈ xs, p x) → (∀ x ∈ vs, p x) → ∀ x ∈ setAll xs o vs, p x
  | [], xs, _, hx, _ => hx
  | v :: vs, xs, o, hx, hv => setAll_mem vs (xs.set o v) (o + 1) (fun x h => by
      rcases List.mem_or_eq_of_mem_set h with h | h
      · exact hx x h
      · subst h; exact hv _ (by simp)) (fun x h => hv x (by simp [h]))

def IsByte (x : Int) : Prop := 0 ≤ x ∧ x < 256
theorem be2_byte (v : Int) : ∀ x ∈ be2 v, IsByte x := by
  intro x hx
  simp only [be2, List.mem_cons, List.not_mem_nil, or_false] at hx
  unfold IsByte
  rcases hx with rfl | rfl <;> omega
theorem be4_byte (v : Int) : ∀ x ∈ be4 v, IsByte x := by
  intro x hx
  simp only [be4, List.mem_cons, List.not_mem_nil, or_false] at hx
  unfold IsByte
  rcases hx with rfl | rfl | rfl | rfl <;> omega
theorem headL_byte (long : Bool) (len ty fl : Int) (off : Nat) (ht : IsByte ty) (hf : IsByte fl) : ∀ x ∈ headL long len ty fl off, IsByte x := by
  intro x hx
  unfold headL at hx
  have hz : ∀ x ∈ zL off, IsByte x := fun x h => by rw [(List.mem_replicate.1 h).2]; exact ⟨by decide, by decide⟩
  rcases List.mem_or_eq_of_mem_set hx with hx | rfl
  · rcases List.mem_or_eq_of_mem_set hx with hx | rfl
    · cases long
      · exact setAll_mem _ _ _ hz (be2_byte _) x hx
      · exact setAll_mem _ _ _ hz (be4_byte _) x hx
    · exact ht
  · exact hf

theorem append_zeros_any (w : World) (base g n k : Nat) (xs : List Int) (h : w.ownsRow base 5 1 (.slice (some ⟨g, 0, none⟩) n n) n (xs.map (Value.int .u8))) (h0 : 0 < k) (hk : n + k ≤ 70368744177664) :
    ∃ cap w1, (Builtin.append_ #[26, 23] 26 #[.slice (some ⟨g, 0, none⟩) n n, .int .u16 k]).run Tryd.prog w = .ok (.slice (some ⟨w.heap.size, 0, none⟩) (n + k) cap) w1 ∧
      w1.ownsRow w.heap.size 5 1 (.slice (some ⟨w.heap.size, 0, none⟩) (n + k) cap) (n + k) ((xs ++ zL k).map (Value.int .u8)) ∧ Below w.heap.size w w1 ∧ w1.heap.size = w.heap.size + 1 :=
  ⟨_, _, run_append_zeros w base g n k xs h h0 hk, own_grownA w xs n k (by simpa using h.1) hk, (Below.refl _ _).drew.alloc (Nat.le_refl _) _, by simp⟩

theorem zL_eight (k : Nat) : zL 8 ++ zL k = zL (8 + k) := by unfold zL; rw [List.replicate_append_replicate]
theorem zL_length (k : Nat) : (zL k).length = k := by simp [zL]
theorem wrap_u16 (n : Int) : IntKind.u16.wrap n = n % 65536 := by rw [IntKind.wrap_u16]

theorem head_close {w w1 w2 : World} {g n cap : Nat} {xs : List Int} (hb : Below w.heap.size w w1) (hg : w1.drew.grownBy w2 (some g)) (hs : w1.heap.size = w.heap.size + 1 + 1) (ho : w2.ownsRow (w.heap.size + 1) 5 1 (.slice (some ⟨g, 0, none⟩) n cap) n (xs.map (Value.int .u8))) (ty fl : Int) :
    ∃ g' cap', Ending.returned (.slice (some ⟨g, 0, none⟩) n cap) = .returned (.slice (some ⟨g', 0, none⟩) n cap') ∧
      ((w2.setCell ⟨g, 4, none⟩ (.int .u8 ty)).setCell ⟨g, 5, none⟩ (.int .u8 fl)).ownsRow w.heap.size 5 1 (.slice (some ⟨g', 0, none⟩) n cap') n (((xs.set 4 ty).set 5 fl).map (Value.int .u8)) ∧
      Below w.heap.size w ((w2.setCell ⟨g, 4, none⟩ (.int .u8 ty)).setCell ⟨g, 5, none⟩ (.int .u8 fl)) := by
  have hb1 := (own_lt ho).1
  refine ⟨g, cap, rfl, own_base (own_store (own_store ho 4 ty).1 5 fl).1 (by omega), ?_⟩
  refine hb.trans (Below.trans ?_ (((below_grown (World.grownBy.refl w2 (some g)) (by omega) (by have := hg.size; simp at this; omega)).setCell (by simp; omega) _).setCell (by simp; omega) _))
  exact below_grown (B := w.heap.size) (show w1.grownBy w2 (some g) from ⟨hg.os, hg.tape, hg.output, hg.size, hg.block⟩) (by omega) (by omega)

set_option maxRecDepth 100000 in
set_option maxHeartbeats 2000000 in
theorem packet_bytes (long : Bool) (pk p0 cx off : Nat) (len ty fl ver : Int) (cp : Bool) (w : World) (hlong : long = (cp && decide (315 ≤ ver))) (hl0 : 0 ≤ len) (hl1 : len < 4294967296)
    (c0 : w.cell? ⟨pk, p0, none⟩ = some (.int .u16 (off : Int))) (c1 : w.cell? ⟨pk, p0 + 1, none⟩ = some (.int .u32 len)) (c2 : w.cell? ⟨pk, p0 + 2, none⟩ = some (.int .u8 ty)) (c3 : w.cell? ⟨pk, p0 + 3, none⟩ = some (.int .u8 fl))
    (c4 : w.cell? ⟨pk, p0 + 4, none⟩ = some (.pointer (some ⟨cx, 0, none⟩))) (k2 : w.cell? ⟨cx, 2, none⟩ = some (.int .u16 ver)) (k9 : w.cell? ⟨cx, 9, none⟩ = some (.bool cp)) (h8 : 8 < off) (h9 : off < 2000) :
    Calls Tryd.prog 79 #[.pointer (some ⟨pk, p0, none⟩)] w fun e w' => ∃ g cap, e = .returned (.slice (some ⟨g, 0, none⟩) off cap) ∧
      w'.ownsRow w.heap.size 5 1 (.slice (some ⟨g, 0, none⟩) off cap) off ((headL long len ty fl off).map (Value.int .u8)) ∧ Below w.heap.size w w' := by
  have hp : pk < w.heap.size := heap_lt_of_cell c0
  have hx : cx < w.heap.size := heap_lt_of_cell k2
  obtain ⟨o, ho⟩ : ∃ o : Int, o = (off : Int) := ⟨_, rfl⟩
  rw [← ho] at c0
  have mk8 : ∀ w : World, (Instr.makeSlice 26 (.int .i64 8) (.int .i64 8)).run Tryd.prog w = .ok (.slice (some ⟨w.heap.size, 0, none⟩) 8 8) (w.alloc (.cells (zeroA 8) 5)) := run_make_bytes .i64 .i64 8 8 (by decide) (by decide)
  obtain ⟨k, rfl⟩ : ∃ k : Nat, off = 8 + k := ⟨off - 8, by omega⟩
  have hok : o - 8 = (k : Int) := by omega
  have ho8 : 8 < o := by omega
  clear ho h8
  obtain ⟨cap, w1, hrun, hown, hb, hs⟩ := append_zeros_any (w.alloc (.cells (zeroA 8) 5)) w.heap.size w.heap.size 8 k (zL 8) (own_zero w 8 8 _ (Nat.le_refl _) (by decide)) (by omega) (by omega)
  rw [World.size_alloc] at hrun hown hb hs
  rw [zL_eight] at hown
  have hb1 : Below w.heap.size w w1 := ((Below.refl _ _).alloc (Nat.le_refl _) _).trans (hb.mono (by omega))
  have HAP := Lib.hid hrun
  have HO := Lib.hid hown
  have HB1 := Lib.hid hb1
  have d0 : w1.cell? ⟨pk, p0, none⟩ = some (.int .u16 o) := (hb1.cell (p := ⟨pk, p0, none⟩) hp).trans c0
  have d1 : w1.cell? ⟨pk, p0 + 1, none⟩ = some (.int .u32 len) := (hb1.cell (p := ⟨pk, p0 + 1, none⟩) hp).trans c1
  have d2 : w1.cell? ⟨pk, p0 + 2, none⟩ = some (.int .u8 ty) := (hb1.cell (p := ⟨pk, p0 + 2, none⟩) hp).trans c2
  have d3 : w1.cell? ⟨pk, p0 + 3, none⟩ = some (.int .u8 fl) := (hb1.cell (p := ⟨pk, p0 + 3, none⟩) hp).trans c3
  have d4 : w1.cell? ⟨pk, p0 + 4, none⟩ = some (.pointer (some ⟨cx, 0, none⟩)) := (hb1.cell (p := ⟨pk, p0 + 4, none⟩) hp).trans c4
  have e2 : w1.cell? ⟨cx, 2, none⟩ = some (.int .u16 ver) := (hb1.cell (p := ⟨cx, 2, none⟩) hx).trans k2
  have e9 : w1.cell? ⟨cx, 9, none⟩ = some (.bool cp) := (hb1.cell (p := ⟨cx, 9, none⟩) hx).trans k9
  have hne : pk ≠ w.heap.size + 1 := by omega
  have HS := Lib.hid hs
  have hk0 : (0 : Int) < (k : Int) := by omega
  clear hrun hown hb1 hs c1 c2 c3 c4 k2 k9 hb
  cases cp
  · obtain rfl : long = false := by simpa using hlong
    clear hlong
    go_enter Tryd.func79, Tryd.ntmps79
    go_wp2_with (at_builtin; refine Lib.wpList_append_run _ rfl _ _ _ _ rfl _ _ rfl rfl _ _ HAP.out ?_)
    clear c0 d4 e2 e9 d0
    go_region_held3 (fun w' => w'.cell? ⟨pk, p0 + 1, none⟩ = some (.int .u32 len)) (go_keep) (first | (go_at_call 69; rw [wrap_u16]; refine (put16_own (w.heap.size + 1) (w.heap.size + 1) 0 (8 + k) cap (8 + k) cap (len % 65536) (zL (8 + k)) _ (by exact HO.out) (by omega) (by omega) (by omega) (by omega)).mono ?_; rintro e w2 ⟨rfl, hown2, hg2⟩; have f1 := grown_cell hg2 d1 hne; have f2 := grown_cell hg2 d2 hne; have f3 := grown_cell hg2 d3 hne; have HO2 := Lib.hid hown2; have HG2 := Lib.hid hg2; clear hown2 hg2 d1 d2 d3))
    have s4 := own_cell HO2.out 4 (by omega)
    have s5 := own_cell HO2.out 5 (by omega)
    have z4 := HO2.out.frozenAt 4
    have z5 := HO2.out.frozenAt 5
    go_wp2
    go_ret
    exact head_close HB1.out HG2.out HS.out HO2.out _ _
  · by_cases hv : 315 ≤ ver
    · obtain rfl : long = true := by simpa [hv] using hlong
      clear hlong
      go_enter Tryd.func79, Tryd.ntmps79
      go_wp2_with (at_builtin; refine Lib.wpList_append_run _ rfl _ _ _ _ rfl _ _ rfl rfl _ _ HAP.out ?_)
      clear c0 d4 e2 e9 d0
      go_region_held3 (fun w' => w'.cell? ⟨pk, p0 + 1, none⟩ = some (.int .u32 len)) (go_keep) (first | (go_at_call 70; refine (put32_own (w.heap.size + 1) (w.heap.size + 1) 0 (8 + k) cap (8 + k) cap len (zL (8 + k)) _ (by exact HO.out) (by omega) (by omega) (by omega) (by omega)).mono ?_; rintro e w2 ⟨rfl, hown2, hg2⟩; have f1 := grown_cell hg2 d1 hne; have f2 := grown_cell hg2 d2 hne; have f3 := grown_cell hg2 d3 hne; have HO2 := Lib.hid hown2; have HG2 := Lib.hid hg2; clear hown2 hg2 d1 d2 d3))
      have s4 := own_cell HO2.out 4 (by omega)
      have s5 := own_cell HO2.out 5 (by omega)
      have z4 := HO2.out.frozenAt 4
      have z5 := HO2.out.frozenAt 5
      go_wp2
      go_ret
      exact head_close HB1.out HG2.out HS.out HO2.out _ _
    · have hv2 : ver < 315 := by omega
      obtain rfl : long = false := by simpa [hv] using hlong
      clear hlong hv
      go_enter Tryd.func79, Tryd.ntmps79
      go_wp2_with (at_builtin; refine Lib.wpList_append_run _ rfl _ _ _ _ rfl _ _ rfl rfl _ _ HAP.out ?_)
      clear c0 d4 e2 e9 d0
      go_region_held3 (fun w' => w'.cell? ⟨pk, p0 + 1, none⟩ = some (.int .u32 len)) (go_keep) (first | (go_at_call 69; rw [wrap_u16]; refine (put16_own (w.heap.size + 1) (w.heap.size + 1) 0 (8 + k) cap (8 + k) cap (len % 65536) (zL (8 + k)) _ (by exact HO.out) (by omega) (by omega) (by omega) (by omega)).mono ?_; rintro e w2 ⟨rfl, hown2, hg2⟩; have f1 := grown_cell hg2 d1 hne; have f2 := grown_cell hg2 d2 hne; have f3 := grown_cell hg2 d3 hne; have HO2 := Lib.hid hown2; have HG2 := Lib.hid hg2; clear hown2 hg2 d1 d2 d3))
      have s4 := own_cell HO2.out 4 (by omega)
      have s5 := own_cell HO2.out 5 (by omega)
      have z4 := HO2.out.frozenAt 4
      have z5 := HO2.out.frozenAt 5
      go_wp2
      go_ret
      exact head_close HB1.out HG2.out HS.out HO2.out _ _
end Go.Proofs.YtacmnibhdmeidaaDoor
