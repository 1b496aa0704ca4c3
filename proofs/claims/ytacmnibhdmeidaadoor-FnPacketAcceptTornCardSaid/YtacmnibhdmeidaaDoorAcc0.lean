/-
  AcceptRead where there are fewer than 32 bytes.
-/
import Derived.Test.YtacmnibhdmeidaaDoorKeep
import Derived.Test.YtacmnibhdmeidaaDoorApp
import Derived.Laws.ResultCell
import Derived.Laws.Rows
namespace Go.Proofs.YtacmnibhdmeidaaDoor
open Go Go.RowKit

theorem own_ge {w : World} {base : Nat} {e : TypeId} {size : Nat} {v : Value} {n : Nat} {xs : List Value} (h : w.ownsRow base e size v n xs) : ∀ k, v.ownBlock = some k → base ≤ k := by
  intro k hk
  rcases h.2 with ⟨rfl, _⟩ | ⟨g, cap, cur, rfl, hg, _⟩
  · simp [Value.ownBlock] at hk
  · simp [Value.ownBlock] at hk; omega
theorem Kp.grown {w a b : World} {row : Option Nat} (h : Kp w a) (hg : a.grownBy b row) (hr : ∀ k, row = some k → w.heap.size ≤ k) : Kp w b := Below.grown h hg h.size hr
def NilPost (w : World) (e : Ending) (w' : World) : Prop := e = .returned (.pointer none) ∧ Kp w w'
set_option maxRecDepth 100000 in
theorem acc_short (p : Option Addr) (n c : Nat) (w : World) (hn : n < 32) :
    Calls Tryd.prog 38 #[.slice p n c] w (NilPost w) := by
  have n0 : (n : Int) < 32 := by omega
  go_enter Tryd.func38, Tryd.ntmps38
  go_wp2
  go_ret
  exact ⟨rfl, Kp.refl w⟩
theorem netAcc_nil (v : Value) (w : World) (h : Calls Tryd.prog 38 #[v] w (NilPost w)) :
    Calls Tryd.prog 21 #[v] w fun e w' => e = .returned (.tuple #[.pointer none, .slice none 0 0]) ∧ Kp w w' := by
  have C := Lib.hid h
  clear h
  go_enter Tryd.func21, Tryd.ntmps21
  go_wp2_with fail
  refine C.out.mono ?_
  rintro e w1 ⟨rfl, hk⟩
  have HK := Lib.hid hk
  clear hk C
  go_wp2
  go_ret2
  exact ⟨rfl, HK.out⟩
/-- These bytes are no packet ACCEPT. -/
def AccNil (l : List Int) : Prop := ∀ (w : World) (q : Option Addr) (d : Nat), Lib.BytesIn w q l.length l → l.length ≤ d → Calls Tryd.prog 38 #[.slice q l.length d] w (NilPost w)
theorem accNil_short (l : List Int) (h : l.length < 32) : AccNil l := fun w q d _ _ => acc_short q l.length d w h
def AccNone (w : World) (e : Ending) (w' : World) : Prop := e = .returned (.tuple #[.agg #[.int .u32 0, .int .u8 0, .int .u8 0, .int .u16 0, .int .u16 0, .int .u16 0, .int .u16 0, .int .u8 0, .int .u8 0, .int .u32 0, .int .u32 0, .string ⟨#[]⟩, .slice none 0 0], .bool false]) ∧ Kp w w'
def Z13 : Array Value := #[.int .u32 0, .int .u8 0, .int .u8 0, .int .u16 0, .int .u16 0, .int .u16 0, .int .u16 0, .int .u8 0, .int .u8 0, .int .u32 0, .int .u32 0, .string ⟨#[]⟩, .slice none 0 0]
/-- The box of the result. -/
def Box13 (w w' : World) : Prop := Blk w' w.heap.size 28 Z13 ∧ Kp w w'
theorem Box13.set {w w' : World} (h : Box13 w w') (i : Nat) (u : Value) (hu : Z13.setIfInBounds i u = Z13) : Box13 w (w'.setCell ⟨w.heap.size, i, none⟩ u) := by
  obtain ⟨hb, hk⟩ := h
  have := hb.set_ i u
  rw [hu] at this
  exact ⟨this, hk.set (Nat.le_refl _) _⟩
set_option maxRecDepth 100000 in
set_option maxHeartbeats 1000000 in
theorem implAcc_nil (p : Option Addr) (n c : Nat) (l : List Int) (w : World) (h : Lib.BytesIn w p n l) (hl : l.length = n) (hn : n ≤ 100000) (ha : AccNil l) :
    Calls Tryd.prog 8 #[.slice p n c] w (AccNone w) := by
  have HC := Lib.hid (fun (w1 : World) (hk : Kp w w1) => clone_any w1 p n c l (bin_kp h hk) hl (by omega))
  have HA := Lib.hid ha
  have HL := Lib.hid hl
  clear h hl hn ha
  go_enter Tryd.func8, Tryd.ntmps8
  go_wp2_with fail
  go_wp2_with fail
  generalize hW : w.alloc _ = W
  have HB := Lib.hid (show Blk W w.heap.size _ _ from hW ▸ Blk.new w _ _)
  have hk0 : Kp w W := hW ▸ (Kp.refl w).alloc _
  have hsz : w.heap.size < W.heap.size := by rw [← hW, World.size_alloc]; omega
  clear hW
  refine (HC.out W hk0).mono ?_
  rintro e w1 ⟨q, d, rfl, hown, hk⟩
  obtain ⟨q2, d2, hv, hin⟩ := bin_own hown
  have hd := own_cap hown
  injection hv with e1 e2 e3
  subst e1 e3
  have hB1 : Blk w1 w.heap.size _ _ := HB.out.below hk hsz
  have CN := Lib.hid (netAcc_nil (.slice q n d) w1 (by
    have h := HA.out w1 q d (by rw [HL.out]; exact hin) (by rw [HL.out]; exact hd)
    rw [HL.out] at h
    exact h))
  have HK1 := Lib.hid (hk0.trans (show Kp W w1 from hk))
  have HB1 := Lib.hid hB1
  clear hown hk hd hin hB1 hk0 hsz HB HC e2
  go_wp2_with fail
  refine CN.out.mono ?_
  rintro e w2 ⟨rfl, hk⟩
  have hB2 := HB1.out.kp hk
  have HK2 := Lib.hid (HK1.out.trans hk)
  have hc : ∀ i v, (#[Value.int .u32 0, .int .u8 0, .int .u8 0, .int .u16 0, .int .u16 0, .int .u16 0, .int .u16 0, .int .u8 0, .int .u8 0, .int .u32 0, .int .u32 0, .string ⟨#[]⟩, .slice none 0 0] : Array Value)[i]? = some v → w2.cell? ⟨w.heap.size, i, none⟩ = some v := fun i v h => by rw [hB2.cell i]; exact h
  have c0 := hc 0 _ rfl
  have c1 := hc 1 _ rfl
  have c2 := hc 2 _ rfl
  have c3 := hc 3 _ rfl
  have c4 := hc 4 _ rfl
  have c5 := hc 5 _ rfl
  have c6 := hc 6 _ rfl
  have c7 := hc 7 _ rfl
  have c8 := hc 8 _ rfl
  have c9 := hc 9 _ rfl
  have c10 := hc 10 _ rfl
  have c11 := hc 11 _ rfl
  have c12 := hc 12 _ rfl
  have f := fun i => hB2.frozen i
  have HB2 := Lib.hid hB2
  clear hk hB2 hc CN HK1 HB1
  go_wp2_with fail
  clear c0 c1 c2 c3 c4 c5 c6 c7 c8 c9 c10 c11 c12 f
  have hx : Box13 w w2 := ⟨HB2.out, HK2.out⟩
  have hx := (((((((((((((hx.set 0 (.int .u32 0) rfl).set 1 (.int .u8 0) rfl).set 2 (.int .u8 0) rfl).set 3 (.int .u16 0) rfl).set 4 (.int .u16 0) rfl).set 5 (.int .u16 0) rfl).set 6 (.int .u16 0) rfl).set 7 (.int .u8 0) rfl).set 8 (.int .u8 0) rfl).set 9 (.int .u32 0) rfl).set 10 (.int .u32 0) rfl).set 11 (.string ⟨#[]⟩) rfl).set 12 (.slice none 0 0) rfl)
  generalize (World.setCell _ ⟨w.heap.size, 12, none⟩ _) = w3 at hx ⊢
  obtain ⟨hb, hk⟩ := hx
  refine bodyPost_ret (v := .tuple #[.agg Z13, .bool false]) ?_ rfl ⟨rfl, hk⟩
  rw [results_cell_tmp rfl]
  have hl := run_loadVar_row (P := Tryd.prog) w3 w.heap.size 28 28 Z13 (0, 0) _ hb Tryd.underlying28 rfl (by kernel_rfl)
  show Result.andThen ((loadVar 28 ⟨w.heap.size, 0, none⟩).run Tryd.prog w3) _ = _
  rw [hl]
  rfl
end Go.Proofs.YtacmnibhdmeidaaDoor
