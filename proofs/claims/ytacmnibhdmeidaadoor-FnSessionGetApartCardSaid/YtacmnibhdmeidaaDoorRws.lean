/-
  Slices of slices of bytes, as they lie in memory.
-/
import Derived.Test.YtacmnibhdmeidaaDoorSes16
import Derived.Deep.Matrix
import Derived.LoopTactic
import Derived.Deep.LoopGhost
namespace Go.Proofs.YtacmnibhdmeidaaDoor
open Go Go.RowKit

theorem byte_of_wf {x : Int} (h : (Lit.int .u8 x).wf = true) : 0 ≤ x ∧ x < 256 := by
  have h1 : IntKind.u8.min = 0 := rfl
  have h2 : IntKind.u8.max = 255 := rfl
  simp [Lit.wf, h1, h2] at h
  omega

def RowsIn (w : World) (a : Option Addr) (n : Nat) (A : Nat → Option Addr) (L C : Nat → Nat) (X : Nat → List Int) : Prop := ∀ r, r < n → ∃ b o, a = some ⟨b, o, none⟩ ∧ w.cell? ⟨b, o + r, none⟩ = some (.slice (A r) (L r) (C r)) ∧ Lib.BytesIn w (A r) (L r) (X r) ∧
  (X r).length = L r ∧ (∀ x ∈ X r, 0 ≤ x ∧ x < 256) ∧ L r ≤ C r ∧ C r ≤ maxLen
theorem RowsIn.kp {w w' : World} {a : Option Addr} {n : Nat} {A : Nat → Option Addr} {L C : Nat → Nat} {X : Nat → List Int} (h : RowsIn w a n A L C X) (hk : Kp w w') : RowsIn w' a n A L C X := fun r hr => by
  obtain ⟨b, o, h1, h2, h3, h4⟩ := h r hr
  exact ⟨b, o, h1, (hk.below.cell (p := ⟨b, o + r, none⟩) (heap_lt_of_cell h2)).trans h2, bin_kp h3 hk, h4⟩

theorem rowsIn_open {H : Type} {enc : TypeId × Value → H} {P : Program} {w : World} {base : Nat} {held : Bool} {t e q : TypeId} {fuel : Nat} {p : Option Addr} {n c : Nat} {x : DataW H × List MemPlace}
    (ht : P.underlying t = some (.slice e)) (he : P.underlying e = some (.slice q)) (hq : P.underlying q = some (.int .u8)) (ce : P.cellsOf e = 1) (cq : P.cellsOf q = 1) (h : DataW.trod enc P w base (fun _ => true) held fuel t [.slice p n c] = some x) :
    ∃ A L C X, RowsIn w p n A L C X ∧ n ≤ c ∧ c ≤ maxLen := by
  rcases Go.Deep.open_int_rows ht he hq ce cq h with ⟨hcs, _⟩ | ⟨a, len, cap, A, L, C, Z, hcs, _, hl, hm, _, hr⟩
  · cases hcs
    exact ⟨fun _ => none, fun _ => 0, fun _ => 0, fun _ => [], fun r hr => absurd hr (by omega), Nat.le_refl _, Nat.zero_le _⟩
  · cases hcs
    refine ⟨A, L, C, fun r => (Z r).take (L r), fun r hr' => ?_, hl, hm⟩
    obtain ⟨h1, h2, h3, h4, h5, h6, h7⟩ := hr r (by omega)
    obtain ⟨b, o, s⟩ := a
    obtain rfl : s = none := by simpa [Addr.add] using World.cell?_spot (hr 0 (by omega)).1
    refine ⟨b, o, rfl, by rw [← Go.WideShapes.add_plain]; exact h1, ?_, by simp; omega, fun x hx => ?_, h2, h3⟩
    · cases hA : A r with
      | none =>
        have := h6 hA
        obtain h0 : L r = 0 := by omega
        rw [h0]
        exact fun hn => absurd hn (by omega)
      | some a' => exact Lib.BytesIn.of_cells (fun i hi => by rw [(h7 a' hA).2 i (by omega)]; simp [List.getD, hi])
    · have := h5 x (List.mem_of_mem_take hx)
      exact byte_of_wf this

end Go.Proofs.YtacmnibhdmeidaaDoor
