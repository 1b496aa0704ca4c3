/-
  GetActiveServer(true): the next server.
-/
import Derived.Test.YtmojecgmneodlaaDoorSrv4
namespace Go.Proofs.YtmojecgmneodlaaDoor
open Go Go.RowKit
set_option maxRecDepth 100000 in
theorem jump_none (b n c p P : Nat) (hP : (p : Int) + 1 = (P : Int)) (q : Option Addr) (cs : Array Value) (w : World) (hI : Blk w b 72 cs) (hc2 : cs[2]? = some (.slice q n c)) (hc3 : cs[3]? = some (.int .i64 (p : Int))) (hp : p ≤ 1000) (hn : n ≤ 1000) (h : n ≤ P) :
    Calls Tryd.prog 43 #[.pointer (some ⟨b, 0, none⟩), .bool true] w fun e w' => e = .returned (.pointer none) ∧ Kp (w.setCell ⟨b, 3, none⟩ (.int .i64 (P : Int))) w' := by
  have y0 : w.cell? ⟨b, 3, none⟩ = some (.int .i64 (p : Int)) := (hI.cell 3).trans hc3
  have y1 : w.cell? ⟨b, 2, none⟩ = some (.slice q n c) := (hI.cell 2).trans hc2
  have z0 : w.frozen? ⟨b, 3, none⟩ = false := hI.frozen 3
  have y2 : (w.setCell ⟨b, 3, none⟩ (.int .i64 (P : Int))).cell? ⟨b, 2, none⟩ = some (.slice q n c) := by
    have h := (hI.set_ 3 (.int .i64 (P : Int))).cell 2
    rw [h, Array.getElem?_setIfInBounds_ne (by decide)]; exact hc2
  have y3 : (w.setCell ⟨b, 3, none⟩ (.int .i64 (P : Int))).cell? ⟨b, 3, none⟩ = some (.int .i64 (P : Int)) := by
    have h := (hI.set_ 3 (.int .i64 (P : Int))).cell 3
    obtain ⟨hl, _⟩ := Array.getElem?_eq_some_iff.1 hc3
    rw [h, Array.getElem?_setIfInBounds_self_of_lt hl]
  have i4 : (0 : Int) ≤ (P : Int) := by omega
  have i5 : (P : Int) ≤ 1001 := by omega
  have i0 : (0 : Int) ≤ (p : Int) := by omega
  have i1 : (p : Int) ≤ 1000 := by omega
  have i2 : (n : Int) ≤ 1000 := by omega
  have i3 : (n : Int) ≤ (P : Int) := by omega
  clear hI hc2 hc3
  go_enter Tryd.func43, Tryd.ntmps43
  go_wp2_with fail
  go_region_held3 (fun w' => w'.cell? ⟨b, 3, none⟩ = some (.int .i64 (P : Int)) ∧ w'.cell? ⟨b, 2, none⟩ = some (.slice q n c)) (first | (refine ⟨?_, ?_⟩ <;> with_reducible assumption) | go_keep) (first | fail)
  go_wp2_with fail
  go_ret
  exact ⟨rfl, (Kp.refl _).drew⟩
set_option maxRecDepth 100000 in
theorem jump_some (b n c p P : Nat) (hP : (p : Int) + 1 = (P : Int)) (q : Option Addr) (g : Nat) (cs : Array Value) (w : World) (hI : Blk w b 72 cs) (hc2 : cs[2]? = some (.slice q n c)) (hc3 : cs[3]? = some (.int .i64 (p : Int))) (hp : p ≤ 1000) (hn : n ≤ 1000) (h : P < n) (hq : q = some ⟨g, 0, none⟩) :
    Calls Tryd.prog 43 #[.pointer (some ⟨b, 0, none⟩), .bool true] w fun e w' => e = .returned (.pointer (some ⟨g, P * 3, none⟩)) ∧ Kp (w.setCell ⟨b, 3, none⟩ (.int .i64 (P : Int))) w' := by
  have y0 : w.cell? ⟨b, 3, none⟩ = some (.int .i64 (p : Int)) := (hI.cell 3).trans hc3
  have y1 : w.cell? ⟨b, 2, none⟩ = some (.slice q n c) := (hI.cell 2).trans hc2
  have z0 : w.frozen? ⟨b, 3, none⟩ = false := hI.frozen 3
  have y2 : (w.setCell ⟨b, 3, none⟩ (.int .i64 (P : Int))).cell? ⟨b, 2, none⟩ = some (.slice q n c) := by
    have h := (hI.set_ 3 (.int .i64 (P : Int))).cell 2
    rw [h, Array.getElem?_setIfInBounds_ne (by decide)]; exact hc2
  have y3 : (w.setCell ⟨b, 3, none⟩ (.int .i64 (P : Int))).cell? ⟨b, 3, none⟩ = some (.int .i64 (P : Int)) := by
    have h := (hI.set_ 3 (.int .i64 (P : Int))).cell 3
    obtain ⟨hl, _⟩ := Array.getElem?_eq_some_iff.1 hc3
    rw [h, Array.getElem?_setIfInBounds_self_of_lt hl]
  have i4 : (0 : Int) ≤ (P : Int) := by omega
  have i5 : (P : Int) ≤ 1001 := by omega
  have i0 : (0 : Int) ≤ (p : Int) := by omega
  have i1 : (p : Int) ≤ 1000 := by omega
  have i2 : (n : Int) ≤ 1000 := by omega
  have i3 : (P : Int) < (n : Int) := by omega
  subst hq
  clear hI hc2 hc3
  go_enter Tryd.func43, Tryd.ntmps43
  go_wp2_with fail
  go_region_held3 (fun w' => w'.cell? ⟨b, 3, none⟩ = some (.int .i64 (P : Int)) ∧ w'.cell? ⟨b, 2, none⟩ = some (.slice (some ⟨g, 0, none⟩) n c)) (first | (refine ⟨?_, ?_⟩ <;> with_reducible assumption) | go_keep) (first | fail)
  go_wp2_with fail
  go_region_held3 (fun w' => w'.cell? ⟨b, 3, none⟩ = some (.int .i64 (P : Int)) ∧ w'.cell? ⟨b, 2, none⟩ = some (.slice (some ⟨g, 0, none⟩) n c)) (first | (refine ⟨?_, ?_⟩ <;> with_reducible assumption) | go_keep) (first | fail)
  go_wp2_with fail
  go_ret
  exact ⟨rfl, (Kp.refl _).drew.drew⟩
end Go.Proofs.YtmojecgmneodlaaDoor
