/-
  slices.Concat of rows of bytes; sessionSize.
-/
import Derived.Test.YtacmnibhdmeidaaDoorSes13
import Derived.Laws.BitsAllLaws
namespace Go.Proofs.YtacmnibhdmeidaaDoor
open Go Go.RowKit

theorem info5' : (Tryd.prog.info? 5).map (fun i => (i.zero, i.size, i.bytes)) = some (some (.int .u8 0), 1, 1) := by kernel_rfl
/-- append of so many zeros onto nil, cut back to no byte: a row of the call's own with room. -/
theorem grow_nil (w : World) (n : Nat) (h0 : 0 < n) (hn : n ≤ 1099511627776) : ∃ c w', (Builtin.append_ #[26, 3] 26 #[.slice none 0 0, .int .i64 n]).run Tryd.prog w = .ok (.slice (some ⟨w.heap.size, 0, none⟩) n c) w' ∧
    w'.ownsRow w.heap.size 5 1 (.slice (some ⟨w.heap.size, 0, none⟩) 0 c) 0 [] ∧ n ≤ c ∧ c ≤ maxLen ∧ Below w.heap.size w w' := by
  obtain ⟨i0, hi, hz0, hz1, hz2⟩ := info_parts info5'
  have h := Lib.run_append_nil_zeros (P := Tryd.prog) w 26 3 26 5 i0 (.int .u8 0) .i64 .i64 Tryd.underlying26 Tryd.underlying3 hi hz0 n h0 (by omega) (by omega) (by rw [hz2]; omega)
  rw [hz1] at *
  refine ⟨grownCap w n 0 5, _, h, ?_, grownCap_ge w _ 0 _, grownCap_le_maxLen w _ 0 _ (by unfold maxLen; omega), ((Below.refl _ w).drew).alloc (Nat.le_refl _) _⟩
  refine ⟨rfl, .inr ⟨w.heap.size, grownCap w n 0 5, _, rfl, Nat.le_refl _, heap_alloc_new w.drew _, Nat.zero_le _, grownCap_le_maxLen w _ 0 _ (by unfold maxLen; omega), ?_, rfl⟩⟩
  have hge := grownCap_ge w n 0 5
  simp [Builtin.zeroCells, Value.cells]
  omega

/-- Rows of bytes, in a slice. -/
def SlsIn (w : World) (a : Option Addr) (n : Nat) (A : Nat → Option Addr) (L C : Nat → Nat) (X : Nat → List Int) : Prop := ∀ r, r < n → ∃ b o, a = some ⟨b, o, none⟩ ∧ w.cell? ⟨b, o + r, none⟩ = some (.slice (A r) (L r) (C r)) ∧ Lib.BytesIn w (A r) (L r) (X r) ∧ (X r).length = L r
theorem SlsIn.kp {w w' : World} {a : Option Addr} {n : Nat} {A : Nat → Option Addr} {L C : Nat → Nat} {X : Nat → List Int} (h : SlsIn w a n A L C X) (hk : Kp w w') : SlsIn w' a n A L C X := fun r hr => by
  obtain ⟨b, o, h1, h2, h3, h4⟩ := h r hr
  exact ⟨b, o, h1, below_some hk h2, bin_kp h3 hk, h4⟩
def catN (X : Nat → List Int) : Nat → List Int
  | 0 => []
  | k + 1 => catN X k ++ X k
theorem catN_mono (X : Nat → List Int) : ∀ k n, k ≤ n → (catN X k).length ≤ (catN X n).length
  | k, 0, h => by obtain rfl : k = 0 := by omega
                  exact Nat.le_refl _
  | k, n + 1, h => by
    by_cases e : k = n + 1
    · rw [e]; exact Nat.le_refl _
    · have := catN_mono X k n (by omega)
      simp [catN]; omega

/-- A part of a message: its kind, the size of its number, the number. -/
def partSize (s : Nat) : Nat := if s % 4 = 0 then 1 else if s % 4 = 1 then 2 else if s % 4 = 2 then 4 else 8
def partNum (kd s num : Nat) : Nat := if kd % 6 = 2 then num % (256 ^ partSize s / 2) else num % 256 ^ partSize s
theorem and_mask (n k m : Nat) (hn : n < 18446744073709551616) (hm : m = 2 ^ k - 1) (hk : k ≤ 63) : bits .and .u64 (n : Int) (m : Int) = ((n % 2 ^ k : Nat) : Int) := by
  have h63 : 2 ^ k ≤ 2 ^ 63 := Nat.pow_le_pow_right (by omega) hk
  have hp : (2 : Nat) ^ 63 = 9223372036854775808 := by decide
  rw [u64_and_nat n m hn (by omega), hm, Nat.and_two_pow_sub_one_eq_mod]

end Go.Proofs.YtacmnibhdmeidaaDoor
