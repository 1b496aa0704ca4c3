/-
  Slices of slices of bytes, as they lie in memory.
-/
import Derived.Test.YtgjfejalinkohaaDoorSes16
import Derived.Deep.Matrix
import Derived.LoopTactic
import Derived.Deep.LoopGhost
namespace Go.Proofs.YtgjfejalinkohaaDoor
open Go Go.RowKit

theorem byte_of_wf {x : Int} (h : (Lit.int .u8 x).wf = true) : 0 ≤ x ∧ x < 256 := by
  have h1 : IntKind.u8.min = 0 := rfl
  have h2 : IntKind.u8.max = 255 := rfl
  simp [Lit.wf, h1, h2] at h
  omega

def RowsIn (w : World) (a : Option Addr) (n : Nat) (A : Nat → Option Addr) (L C : Nat → Nat) (X : Nat → List Int) : Prop := ∀ r, r < n → ∃ b o, a = some ⟨b, o, none⟩ ∧ w.cell? ⟨b, o + r, none⟩ = some (.slice (A r) (L r) (C r)) ∧ Lib.BytesIn w (A r) (L r) (X r) ∧
  (X r).length = L r ∧ (∀ x ∈ X r, 0 ≤ x ∧ x < 256) ∧ L r ≤ C r ∧ C r ≤ maxLen
theorem RowsIn.kp {w w' : World} {a : Option Addr} {n : Nat} {A : Nat → Option Addr} {L C : Nat → Nat} {X : Nat → List Int} (h : RowsIn w a n A L C X) (hk : Kp w w') : RowsIn w' a n A L C X := fun r hr => by
  obtain ⟨b, o, h1, h2, h3, h4⟩ := h r hr
  exact ⟨b, o, h1, (hk.below.cell (p := ⟨b, o + r, none⟩) (heap_lt_of_cell h2)).trans h2, bin_kp h3 hk, h4⟩

theorem rowsIn_open {H : Type} {enc : TypeId × Value → H} {P : Program} {w : World} {base : Nat} {held : Bool} {t e q : TypeId} {fuel : Nat} {p : Option Addr} {n c : Nat} {x : DataW H × List MemPlace}
    (ht : P.underlying t = some (.slice e)) (he : P.underlying e = some (.slice q)) (hq : P.underlying q = some (.int .u8)) (ce : P.cellsOf e = 1) (cq : P.cellsOf q = 1) (h : DataW.trod enc P w base (fun _ => true) held fuel t [.slice p n c] = some x) :
    ∃ A L C X, RowsIn w p n A L C X ∧ n ≤ c ∧ c ≤ maxLen := by
  rcases Go.Deep.open_int_rows ht he hq ce cq h with ⟨hcs, _⟩ | ⟨a, len, cap, A, L, C, Z, hcs, _, hl, hm, _, hr⟩
  · cases hcs
    exact ⟨fun _ => none, fun _ => 0, fun _ => 0, fun _ => [], fun r hr => absurd hr (by omega), Nat.le_refl _, Nat.zero_le _⟩
  · cases hcs
    refine ⟨A, L, C, fun r => (Z r).take (L r), fun r hr' => ?_, hl, hm⟩
    obtain ⟨h1, h2, h3, h4, h5, h6, h7⟩ := hr r (by omega)
    obtain ⟨b, o, s⟩ := a
    obtain rfl : s = none := by simpa [Addr.add] using World.cell?_spot (hr 0 (by omega)).1
    refine ⟨b, o, rfl, by rw [← Go.WideShapes.add_plain]; exact h1, ?_, by simp; omega, fun x hx => ?_, h2, h3⟩
    · cases hA : A r with
      | none =>
        have := h6 hA
        obtain h0 : L r = 0 := by omega
        rw [h0]
        exact fun hn => absurd hn (by omega)
      | some a' => exact Lib.BytesIn.of_cells (fun i hi => by rw [(h7 a' hA).2 i (by omega)]; simp [List.getD, hi])
    · have := h5 x (List.mem_of_mem_take hx)
      exact byte_of_wf this

set_option maxHeartbeats 1000000 in
theorem zzFits9_yes (a : Option Addr) (n c : Nat) (A : Nat → Option Addr) (L C : Nat → Nat) (X : Nat → List Int) (w : World) (h : RowsIn w a n A L C X) (hn : n ≤ 2147483647) (hL : ∀ r, r < n → L r ≤ 2147483647) :
    Calls Tryd.prog 13 #[.slice a n c] w fun e w' => e = .returned (.bool true) ∧ w = w' := by
  have i0 : ((n : Nat) : Int) ≤ 2147483647 := by omega
  have HR := Lib.hid h
  have HL := Lib.hid hL
  clear h hL hn
  go_enter Tryd.func13, Tryd.ntmps13
  go_wp2
  go_loop [10] (fun i => ∃ k : Nat, k ≤ n ∧ i = .int .i64 k) (fun i => n - (intOf i).toNat)
  case atStart => exact ⟨0, Nat.zero_le _, rfl⟩
  case round =>
    obtain ⟨k, hk, rfl⟩ := hrel
    by_cases hlt : k < n
    · obtain ⟨b, o, rfl, hc, _⟩ := HR.out k hlt
      have h1 := HL.out k hlt
      have i1 : ((L k : Nat) : Int) ≤ 2147483647 := by omega
      have i2 : ((k : Nat) : Int) < (n : Int) := by omega
      go_wp2
      go_round
      case rel => exact ⟨k + 1, by omega, by go_num⟩
      case measure => simp [intOf]; omega
    · go_wp2
      go_ret
      exact ⟨rfl, rfl⟩

set_option maxHeartbeats 1000000 in
theorem zzFits9_no (a : Option Addr) (n c : Nat) (A : Nat → Option Addr) (L C : Nat → Nat) (X : Nat → List Int) (w : World) (h : RowsIn w a n A L C X) (hmax : n ≤ maxLen) (hn : 2147483647 < n ∨ ∃ r, r < n ∧ 2147483647 < L r) :
    Calls Tryd.prog 13 #[.slice a n c] w fun e w' => e = .returned (.bool false) ∧ w = w' := by
  unfold maxLen at hmax
  by_cases h0 : 2147483647 < n
  · have i0 : (2147483647 : Int) < (n : Int) := by omega
    clear h hn
    go_enter Tryd.func13, Tryd.ntmps13
    go_wp2
    go_ret
    exact ⟨rfl, rfl⟩
  · obtain ⟨r0, hr0, hb⟩ := hn.resolve_left h0
    have i0 : ((n : Nat) : Int) ≤ 2147483647 := by omega
    have HR := Lib.hid h
    clear h h0
    go_enter Tryd.func13, Tryd.ntmps13
    go_wp2
    go_loop [10] (fun i => ∃ k : Nat, k ≤ r0 ∧ i = .int .i64 k) (fun i => n - (intOf i).toNat)
    case atStart => exact ⟨0, Nat.zero_le _, rfl⟩
    case round =>
      obtain ⟨k, hk, rfl⟩ := hrel
      have hlt : k < n := by omega
      obtain ⟨b, o, rfl, hc, _⟩ := HR.out k hlt
      have i2 : ((k : Nat) : Int) < (n : Int) := by omega
      by_cases h1 : 2147483647 < L k
      · have i1 : (2147483647 : Int) < ((L k : Nat) : Int) := by omega
        go_wp2
        go_ret
        exact ⟨rfl, rfl⟩
      · have i1 : ((L k : Nat) : Int) ≤ 2147483647 := by omega
        have hne : k ≠ r0 := fun e => h1 (e ▸ hb)
        go_wp2
        go_round
        case rel => exact ⟨k + 1, by omega, by go_num⟩
        case measure => simp [intOf]; omega
end Go.Proofs.YtgjfejalinkohaaDoor
