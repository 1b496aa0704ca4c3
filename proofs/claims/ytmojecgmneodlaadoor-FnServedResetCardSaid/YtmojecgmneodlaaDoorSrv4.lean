/-
  ResetServerIndex, GetActiveServer, plainServer.
-/
import Derived.Test.YtmojecgmneodlaaDoorSrv3
namespace Go.Proofs.YtmojecgmneodlaaDoor
open Go Go.RowKit
set_option maxRecDepth 100000 in
theorem reset_any (b : Nat) (cs : Array Value) (p : Int) (w : World) (hI : Blk w b 72 cs) (hc3 : cs[3]? = some (.int .i64 p)) :
    Calls Tryd.prog 44 #[.pointer (some ⟨b, 0, none⟩)] w fun e w' => e = .returned (.tuple #[]) ∧ w' = w.setCell ⟨b, 3, none⟩ (.int .i64 0) := by
  have y0 : w.cell? ⟨b, 3, none⟩ = some (.int .i64 p) := (hI.cell 3).trans hc3
  have z0 : w.frozen? ⟨b, 3, none⟩ = false := hI.frozen 3
  clear hI hc3
  go_enter Tryd.func44, Tryd.ntmps44
  go_wp2_with fail
  refine Go.Great.bodyPost_end0 rfl rfl ⟨rfl, rfl⟩
set_option maxRecDepth 100000 in
theorem plainServer_any (pr ad : ByteArray) (po : Int) (w : World) :
    Calls Tryd.prog 45 #[.agg #[.string pr, .string ad, .int .i64 po]] w fun e w' => e = .returned (.agg #[.string pr, .string ad, .int .i64 po]) ∧ Kp w w' := by
  go_enter Tryd.func45, Tryd.ntmps45
  go_wp2_with fail
  exact bodyPost_ret (v := .agg #[.string pr, .string ad, .int .i64 po]) (by simp [results, Tryd.results45, go_sem]) rfl ⟨rfl, ((Kp.refl w).alloc _).alloc _⟩
set_option maxRecDepth 100000 in
theorem active_none (b n c p : Nat) (q : Option Addr) (cs : Array Value) (w : World) (hI : Blk w b 72 cs) (hc2 : cs[2]? = some (.slice q n c)) (hc3 : cs[3]? = some (.int .i64 (p : Int))) (hp : p ≤ 1000) (hn : n ≤ 1000) (h : n ≤ p) :
    Calls Tryd.prog 43 #[.pointer (some ⟨b, 0, none⟩), .bool false] w fun e w' => e = .returned (.pointer none) ∧ Kp w w' := by
  have y0 : w.cell? ⟨b, 3, none⟩ = some (.int .i64 (p : Int)) := (hI.cell 3).trans hc3
  have y1 : w.cell? ⟨b, 2, none⟩ = some (.slice q n c) := (hI.cell 2).trans hc2
  have z0 : w.frozen? ⟨b, 3, none⟩ = false := hI.frozen 3
  have y2 : (w.setCell ⟨b, 3, none⟩ (.int .i64 ((p : Int) + 1))).cell? ⟨b, 2, none⟩ = some (.slice q n c) := by
    have h := (hI.set_ 3 (.int .i64 ((p : Int) + 1))).cell 2
    rw [h, Array.getElem?_setIfInBounds_ne (by decide)]; exact hc2
  have y3 : (w.setCell ⟨b, 3, none⟩ (.int .i64 ((p : Int) + 1))).cell? ⟨b, 3, none⟩ = some (.int .i64 ((p : Int) + 1)) := by
    have h := (hI.set_ 3 (.int .i64 ((p : Int) + 1))).cell 3
    obtain ⟨hl, _⟩ := Array.getElem?_eq_some_iff.1 hc3
    rw [h, Array.getElem?_setIfInBounds_self_of_lt hl]
  have i0 : (0 : Int) ≤ (p : Int) := by omega
  have i1 : (p : Int) ≤ 1000 := by omega
  have i2 : (n : Int) ≤ 1000 := by omega
  have i3 : (n : Int) ≤ (p : Int) := by omega
  clear hI hc2 hc3
  go_enter Tryd.func43, Tryd.ntmps43
  go_wp2_with fail
  go_region_held3 (fun w' => w'.cell? ⟨b, 3, none⟩ = some (.int .i64 (p : Int)) ∧ w'.cell? ⟨b, 2, none⟩ = some (.slice q n c)) (first | (refine ⟨?_, ?_⟩ <;> with_reducible assumption) | go_keep) (first | fail)
  go_wp2_with fail
  go_ret
  exact ⟨rfl, (Kp.refl w).drew⟩
set_option maxRecDepth 100000 in
theorem active_some (b n c p : Nat) (q : Option Addr) (g : Nat) (cs : Array Value) (w : World) (hI : Blk w b 72 cs) (hc2 : cs[2]? = some (.slice q n c)) (hc3 : cs[3]? = some (.int .i64 (p : Int))) (hp : p ≤ 1000) (hn : n ≤ 1000) (h : p < n) (hq : q = some ⟨g, 0, none⟩) :
    Calls Tryd.prog 43 #[.pointer (some ⟨b, 0, none⟩), .bool false] w fun e w' => e = .returned (.pointer (some ⟨g, p * 3, none⟩)) ∧ Kp w w' := by
  have y0 : w.cell? ⟨b, 3, none⟩ = some (.int .i64 (p : Int)) := (hI.cell 3).trans hc3
  have y1 : w.cell? ⟨b, 2, none⟩ = some (.slice q n c) := (hI.cell 2).trans hc2
  have z0 : w.frozen? ⟨b, 3, none⟩ = false := hI.frozen 3
  have y2 : (w.setCell ⟨b, 3, none⟩ (.int .i64 ((p : Int) + 1))).cell? ⟨b, 2, none⟩ = some (.slice q n c) := by
    have h := (hI.set_ 3 (.int .i64 ((p : Int) + 1))).cell 2
    rw [h, Array.getElem?_setIfInBounds_ne (by decide)]; exact hc2
  have y3 : (w.setCell ⟨b, 3, none⟩ (.int .i64 ((p : Int) + 1))).cell? ⟨b, 3, none⟩ = some (.int .i64 ((p : Int) + 1)) := by
    have h := (hI.set_ 3 (.int .i64 ((p : Int) + 1))).cell 3
    obtain ⟨hl, _⟩ := Array.getElem?_eq_some_iff.1 hc3
    rw [h, Array.getElem?_setIfInBounds_self_of_lt hl]
  have i0 : (0 : Int) ≤ (p : Int) := by omega
  have i1 : (p : Int) ≤ 1000 := by omega
  have i2 : (n : Int) ≤ 1000 := by omega
  have i3 : (p : Int) < (n : Int) := by omega
  subst hq
  clear hI hc2 hc3
  go_enter Tryd.func43, Tryd.ntmps43
  go_wp2_with fail
  go_region_held3 (fun w' => w'.cell? ⟨b, 3, none⟩ = some (.int .i64 (p : Int)) ∧ w'.cell? ⟨b, 2, none⟩ = some (.slice (some ⟨g, 0, none⟩) n c)) (first | (refine ⟨?_, ?_⟩ <;> with_reducible assumption) | go_keep) (first | fail)
  go_wp2_with fail
  go_region_held3 (fun w' => w'.cell? ⟨b, 3, none⟩ = some (.int .i64 (p : Int)) ∧ w'.cell? ⟨b, 2, none⟩ = some (.slice (some ⟨g, 0, none⟩) n c)) (first | (refine ⟨?_, ?_⟩ <;> with_reducible assumption) | go_keep) (first | fail)
  go_wp2_with fail
  go_ret
  exact ⟨rfl, (Kp.refl w).drew.drew⟩
end Go.Proofs.YtmojecgmneodlaaDoor
