/-
  spec.SessionPacked and spec.SessionClr: they give the forms of Ses0.
-/
import Derived.Test.YtacmnibhdmeidaaDoorSes16
import Derived.Ground.SlgnProg
import Derived.Shelf.SlicesE.Reverse
import Derived.Lib.RowBridge
namespace Go.Proofs
open Go.Shelf
def Tryd.laysRev_ren : Go.Shelf.Ren := ⟨fun | 35 => 48 | n => n, fun | 22 => 26 | 23 => 5 | 3 => 3 | 4 => 4 | 0 => 0 | n => n, fun | n => n⟩
theorem Tryd.laysRev : Go.Proofs.SlLaysE.n35 Tryd.prog Tryd.laysRev_ren := {
  mixed := by kernel_rfl
  f35 := ⟨Tryd.f48.name, by decide, Tryd.func48.trans (congrArg some (by kernel_rfl))⟩
  t0 := Tryd.underlying0
  a0 := Tryd.isAgg0
  z0 := Tryd.sizeOf0
  v0 := Tryd.zeroValue0
  t3 := Tryd.underlying3
  a3 := Tryd.isAgg3
  z3 := Tryd.sizeOf3
  v3 := Tryd.zeroValue3
  t4 := Tryd.underlying4
  a4 := Tryd.isAgg4
  z4 := Tryd.sizeOf4
  v4 := Tryd.zeroValue4
  t22 := Tryd.underlying26
  a22 := Tryd.isAgg26
  z22 := Tryd.sizeOf26
  v22 := Tryd.zeroValue26
  a23 := Tryd.isAgg5
  z23 := Tryd.sizeOf5 }
open Go.RowKit Go.Lib Go.Sort in
theorem Tryd.slices_Reverse_u8 (blk off cap : Nat) (zs : List Int) (w : World) (hH : Holds (Value.int .u8) w blk off zs.toArray) (hsz : zs.length ≤ 9223372036854775807) :
    Calls Tryd.prog 48 #[.slice (some ⟨blk, off, none⟩) zs.length cap] w fun e w' => e = .returned (.tuple #[]) ∧ ∃ n, w' = putRow (Value.int .u8) (Sort.ahead w n) blk off zs.reverse.toArray := AnyE.slices_Reverse Tryd.laysRev (Value.int .u8) (fun _ => rfl) blk off cap zs w hH hsz
end Go.Proofs
namespace Go.Proofs.YtacmnibhdmeidaaDoor
open Go Go.RowKit

theorem setAll_all {α : Type} : ∀ (vs xs : List α) (ps : List α), vs.length = xs.length → setAll (ps ++ xs) ps.length vs = ps ++ vs
  | [], xs, ps, h => by have : xs = [] := List.eq_nil_of_length_eq_zero h.symm; subst this; rfl
  | v :: vs, [], ps, h => by simp at h
  | v :: vs, x :: xs, ps, h => by
    have := setAll_all vs xs (ps ++ [v]) (by simpa using h)
    simpa [setAll] using this
/-- slices.Reverse of bytes that are one's own. -/
theorem reverse_own (w : World) (base : Nat) (v : Value) (n : Nat) (xs : List Int) (h : w.ownsRow base 5 1 v n (xs.map (Value.int .u8))) (hx : xs.length = n) (hn : 0 < n) (hm : n ≤ 1000000) :
    Calls Tryd.prog 48 #[v] w fun e w' => e = .returned (.tuple #[]) ∧ w'.ownsRow base 5 1 v n (xs.reverse.map (Value.int .u8)) ∧ w.grownBy w' v.ownBlock := by
  obtain ⟨g, cap, rfl⟩ : ∃ g cap, v = .slice (some ⟨g, 0, none⟩) n cap := by
    obtain ⟨g, cap, rfl, _⟩ := own_pos h hn
    exact ⟨g, cap, rfl⟩
  subst hx
  have hH : Go.Sort.Holds (Value.int .u8) w g 0 xs.toArray := fun j hj => by
    have hj' : j < xs.length := by simpa using hj
    refine ⟨?_, ?_⟩
    · have := own_cell h j hj'
      simpa using this
    · simpa using h.frozenAt j
  refine (Tryd.slices_Reverse_u8 g 0 cap xs w hH (by omega)).mono ?_
  rintro e w' ⟨rfl, q, rfl⟩
  refine ⟨rfl, ?_⟩
  rw [Lib.putRow_eq_setCells (Value.int .u8) w g 0 xs.toArray xs.reverse q hH (by simp)]
  obtain ⟨h1, h2⟩ := own_setCells (xs.reverse.map (Value.int .u8)) 0 (w.drewN q) (xs.map (Value.int .u8)) (show (w.drewN q).ownsRow base 5 1 _ _ _ from h)
  have e1 := setAll_all (xs.reverse.map (Value.int .u8)) (xs.map (Value.int .u8)) [] (by simp)
  simp only [List.nil_append, List.length_nil] at e1
  rw [e1] at h1
  exact ⟨h1, grown_trans (grown_drewN (World.grownBy.refl w _) q) h2⟩

theorem sl_step (k n : Nat) (h : 0 < n) : sl (k + 1) n = ((n % 256 : Nat) : Int) :: sl k (n / 256) := by simp [sl]; omega
end Go.Proofs.YtacmnibhdmeidaaDoor
