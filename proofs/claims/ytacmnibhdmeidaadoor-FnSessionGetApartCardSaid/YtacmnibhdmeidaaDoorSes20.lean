/-
  Parts of messages as they lie in memory; the laws' tests of their sizes.
-/
import Derived.Test.YtacmnibhdmeidaaDoorSes19
namespace Go.Proofs.YtacmnibhdmeidaaDoor
open Go Go.RowKit

/-- A part of a message. -/
structure LPart where
  kd : Nat
  sz : Nat
  num : Nat
  big : Bool
  comp : Bool
  flag : Nat
  q1 : Option Addr
  k1 : Nat
  c1 : Nat
  ys : List Int
  q2 : Option Addr
  k2 : Nat
  c2 : Nat
  zs : List Int
def LPart.cells (s : LPart) : List Value := [.int .u8 s.kd, .int .u8 s.sz, .int .u64 s.num, .bool s.big, .bool s.comp, .int .u8 s.flag, .slice s.q1 s.k1 s.c1, .slice s.q2 s.k2 s.c2]
structure LPart.Ok (s : LPart) : Prop where
  kd : s.kd < 256
  sz : s.sz < 256
  num : s.num < 18446744073709551616
  flag : s.flag < 256
  l1 : s.ys.length = s.k1
  b1 : Bys s.ys
  n1 : s.k1 ≤ s.c1
  m1 : s.c1 ≤ maxLen
  l2 : s.zs.length = s.k2
  b2 : Bys s.zs
  n2 : s.k2 ≤ s.c2
  m2 : s.c2 ≤ maxLen
def PartsIn (w : World) (a : Option Addr) (n : Nat) (P : Nat → LPart) : Prop := ∀ r, r < n → ∃ b o, a = some ⟨b, o, none⟩ ∧ (∀ j v, (P r).cells[j]? = some v → w.cell? ⟨b, o + r * 8 + j, none⟩ = some v) ∧ Lib.BytesIn w (P r).q1 (P r).k1 (P r).ys ∧ Lib.BytesIn w (P r).q2 (P r).k2 (P r).zs ∧ (P r).Ok
theorem PartsIn.kp {w w' : World} {a : Option Addr} {n : Nat} {P : Nat → LPart} (h : PartsIn w a n P) (hk : Kp w w') : PartsIn w' a n P := fun r hr => by
  obtain ⟨b, o, h1, h2, h3, h4, h5⟩ := h r hr
  exact ⟨b, o, h1, fun j v hv => below_some hk (h2 j v hv), bin_kp h3 hk, bin_kp h4 hk, h5⟩
def LPart.fits (m : Nat) (s : LPart) : Bool := decide (s.k1 ≤ m) && decide (s.k2 ≤ m)
theorem LPart.Ok.lim {s : LPart} (h : s.Ok) : (s.k1 : Int) ≤ 9223372036854775807 ∧ (s.k2 : Int) ≤ 9223372036854775807 := by
  have h1 := h.n1; have h2 := h.m1; have h3 := h.n2; have h4 := h.m2
  unfold maxLen at h2 h4
  omega

/-- Whether all parts fit. -/
def allFit (m : Nat) (P : Nat → LPart) : Nat → Bool
  | 0 => true
  | k + 1 => allFit m P k && (P k).fits m
theorem allFit_no (m : Nat) (P : Nat → LPart) (k : Nat) (h : (P k).fits m = false) : ∀ n, k < n → allFit m P n = false
  | 0, hk => by omega
  | n + 1, hk => by
    by_cases e : k = n
    · subst e; simp [allFit, h]
    · simp [allFit, allFit_no m P k h n (by omega)]
theorem allFit_at (m : Nat) (P : Nat → LPart) : ∀ n, allFit m P n = true → ∀ r, r < n → (P r).fits m = true
  | 0, _, r, hr => by omega
  | n + 1, h, r, hr => by
    simp only [allFit, Bool.and_eq_true] at h
    by_cases e : r = n
    · rw [e]; exact h.2
    · exact allFit_at m P n h.1 r (by omega)

end Go.Proofs.YtacmnibhdmeidaaDoor
