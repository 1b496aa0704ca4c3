/-
  What RedirectRead tells of bytes.
-/
import Derived.Test.YtaohgebiedkdaaaDoorGet
import Derived.Test.YtaohgebiedkdaaaDoorCtx
namespace Go.Proofs.YtaohgebiedkdaaaDoor
open Go Go.RowKit

theorem newRedirect_short (p : Option Addr) (n c : Nat) (w : World) (hn : n < 10) :
    Calls Tryd.prog 55 #[.slice p n c] w fun e w' => e = .returned (.pointer none) ∧ w = w' := by
  have h : ((n : Nat) : Int) < 10 := by omega
  go_enter Tryd.func55, Tryd.ntmps55
  go_wp2
  go_ret
  exact ⟨rfl, rfl⟩

theorem blk_set7 {w : World} {g : Nat} {t : TypeId} {x0 x1 x2 x3 x4 x5 x6 v0 v1 v2 v3 v4 v5 v6 : Value} (h : Blk w g t #[x0, x1, x2, x3, x4, x5, x6]) :
    Blk (((((((w.setCell ⟨g, 0, none⟩ v0).setCell ⟨g, 1, none⟩ v1).setCell ⟨g, 2, none⟩ v2).setCell ⟨g, 3, none⟩ v3).setCell ⟨g, 4, none⟩ v4).setCell ⟨g, 5, none⟩ v5).setCell ⟨g, 6, none⟩ v6) g t #[v0, v1, v2, v3, v4, v5, v6] := by
  have h7 := ((((((h.set_ 0 v0).set_ 1 v1).set_ 2 v2).set_ 3 v3).set_ 4 v4).set_ 5 v5).set_ 6 v6
  simpa using h7

set_option maxRecDepth 100000 in
set_option maxHeartbeats 1000000 in
theorem newRedirect_long (p : Option Addr) (n c : Nat) (xs : List Int) (w : World) (hi : Lib.BytesIn w p n xs) (hr : ∀ x ∈ xs, 0 ≤ x ∧ x < 256) (hn : 10 ≤ n) :
    Calls Tryd.prog 55 #[.slice p n c] w fun e w' => ∃ b, e = .returned (.pointer (some ⟨b, 0, none⟩)) ∧
      Blk w' b 76 #[.int .u16 10, .int .u32 (g16 xs 0), .int .u8 (xs.getD 4 0), .int .u8 (xs.getD 5 0), .pointer none, .string ⟨#[]⟩, .string ⟨#[]⟩] ∧ Below w.heap.size w w' := by
  obtain ⟨b, o, rfl, hc⟩ := hi (by omega)
  have c0 := hc 0 (by omega)
  have c1 := hc 1 (by omega)
  have c4 := hc 4 (by omega)
  have c5 := hc 5 (by omega)
  rw [Nat.add_zero] at c0
  have r0 := Lib.hid (getD_byte hr 0)
  have r1 := Lib.hid (getD_byte hr 1)
  have hb : b < w.heap.size := heap_lt_of_cell c0
  have hg : g16 xs 0 = xs.getD 0 0 * 256 + xs.getD 1 0 := rfl
  generalize g16 xs 0 = y at hg
  generalize xs.getD 0 0 = x0 at *
  generalize xs.getD 1 0 = x1 at *
  generalize xs.getD 4 0 = x4 at *
  generalize xs.getD 5 0 = x5 at *
  have hwr : IntKind.u32.wrap (x0 * 256 + x1) = y := by rw [hg, IntKind.wrap_u32]; have := r0.out; have := r1.out; omega
  have hne : b ≠ w.heap.size := by omega
  have hne2 : w.heap.size ≠ b := by omega
  have h10 : ¬ ((n : Nat) : Int) < 10 := by omega
  have h4 : (4 : Int) < ((n : Nat) : Int) := by omega
  have h5 : (5 : Int) < ((n : Nat) : Int) := by omega
  clear hc hr hi hg
  go_enter Tryd.func55, Tryd.ntmps55
  go_wp2
  go_region_held3 (fun w' => w'.cell? ⟨b, o, none⟩ = some (.int .u8 x0) ∧ w'.cell? ⟨b, o + 1, none⟩ = some (.int .u8 x1) ∧ w'.cell? ⟨b, o + 4, none⟩ = some (.int .u8 x4) ∧ w'.cell? ⟨b, o + 5, none⟩ = some (.int .u8 x5)) (go_keep)
    (first | (go_at_call 72; refine (get16 b o n c x0 x1 _ (by omega) (by simp [*]) (by simp [*]) r0.out r1.out).mono ?_; rintro e w2 ⟨rfl, hb2⟩; have e0 := below_some hb2 (a := ⟨b, o, none⟩) (v := .int .u8 x0) (by simp [*]); have e1 := below_some hb2 (a := ⟨b, o + 1, none⟩) (v := .int .u8 x1) (by simp [*]); have e4 := below_some hb2 (a := ⟨b, o + 4, none⟩) (v := .int .u8 x4) (by simp [*]); have e5 := below_some hb2 (a := ⟨b, o + 5, none⟩) (v := .int .u8 x5) (by simp [*]); have HB2 := Lib.hid hb2; obtain ⟨hcl, hfz⟩ := bcell hb2; clear hb2))
  all_goals
    clear hcl hfz
    go_wp2
    go_ret
  · exact ⟨w2.heap.size, rfl, Blk.new _ _ _, ((Below.refl _ _).drew.trans HB2.out).alloc HB2.out.size _⟩
  · have hblk := (Blk.new w 76 #[Value.int .u16 0, .int .u32 0, .int .u8 0, .int .u8 0, .pointer none, .string ⟨#[]⟩, .string ⟨#[]⟩]).drew.below HB2.out (by simp)
    have hbel : Below w.heap.size w w2 := ((Below.refl _ _).alloc (Nat.le_refl _) _).drew.trans (HB2.out.mono (by simp))
    exact ⟨w.heap.size, rfl, (blk_set7 hblk), ((((((hbel.setCell (Nat.le_refl _) _).setCell (Nat.le_refl _) _).setCell (Nat.le_refl _) _).setCell (Nat.le_refl _) _).setCell (Nat.le_refl _) _).setCell (Nat.le_refl _) _).setCell (Nat.le_refl _) _⟩

theorem network_redirect_short (p : Option Addr) (n c : Nat) (w : World) (hn : n < 10) :
    Calls Tryd.prog 36 #[.slice p n c] w fun e w' => e = .returned (.pointer none) ∧ w = w' := by
  go_enter Tryd.func36, Tryd.ntmps36
  go_wp2_with (go_at_call 55; refine (newRedirect_short _ _ _ _ hn).mono ?_; rintro e w' ⟨rfl, rfl⟩)
  go_ret
  exact ⟨rfl, rfl⟩

theorem network_redirect_long (p : Option Addr) (n c : Nat) (xs : List Int) (w : World) (hi : Lib.BytesIn w p n xs) (hr : ∀ x ∈ xs, 0 ≤ x ∧ x < 256) (hn : 10 ≤ n) :
    Calls Tryd.prog 36 #[.slice p n c] w fun e w' => ∃ b, e = .returned (.pointer (some ⟨b, 0, none⟩)) ∧
      Blk w' b 76 #[.int .u16 10, .int .u32 (g16 xs 0), .int .u8 (xs.getD 4 0), .int .u8 (xs.getD 5 0), .pointer none, .string ⟨#[]⟩, .string ⟨#[]⟩] ∧ Below w.heap.size w w' := by
  have C := Lib.hid (newRedirect_long p n c xs w hi hr hn)
  clear hi hr hn
  go_enter Tryd.func36, Tryd.ntmps36
  go_wp2_with fail
  refine C.out.mono ?_
  rintro e w' ⟨b, rfl, hblk, hb⟩
  have HBlk := Lib.hid hblk
  have HB := Lib.hid hb
  clear hblk hb
  go_wp2_with fail
  go_ret
  exact ⟨b, rfl, HBlk.out, HB.out⟩
end Go.Proofs.YtaohgebiedkdaaaDoor
