/-
  Decimal digits: FormatInt at base 10, and numbers padded with noughts.
-/
import Derived.Test.YtcdbnjhkjfimkaaDoorGen
import Derived.Lib.ItoaNum
import Derived.Lib.ItoaMem
import Derived.Lib.LaidTab
import Derived.Shelf.Unicode.PredsPay
import Derived.ShutString
namespace Go.Proofs.YtcdbnjhkjfimkaaDoor
open Go Go.RowKit

/-- The table of powers of ten is as its initialiser lays it. -/
def Tab (w : World) : Prop := Lib.TabIs Tryd.prog w "internal/strconv.uint64pow10" .u64 Lib.pow10Tab
theorem Tab.kp {w w' : World} (h : Tab w) (hk : Kp w w') : Tab w' := TabIs_below (g := 4) (by kernel_rfl) h hk

theorem kp_grow (w : World) (k : Nat) (os : Array Obj) : Kp w (Go.Sort.grow (w.drewN k) os) :=
  ⟨rfl, rfl, rfl, by simp [Go.Sort.grow, World.drewN], fun i hi => by simp [Go.Sort.grow, World.drewN, Array.getElem?_append, hi]⟩

theorem formatInt_any (n : Int) (h0 : -9223372036854775808 ≤ n) (h1 : n ≤ 9223372036854775807) (w : World) (ht : Tab w) :
    Calls Tryd.prog 89 #[.int .i64 n, .int .i64 10] w fun e w' => e = .returned (.string ⟨(Lib.itoa n).toArray⟩) ∧ Kp w w' :=
  (Tryd.strconv_FormatInt_10 n h0 h1 w ht).mono (by rintro e w' ⟨rfl, k, os, rfl⟩; exact ⟨rfl, kp_grow w k os⟩)

/-- The last L decimal digits of N. -/
def dgL (N L : Nat) : List UInt8 := (List.range L).map fun t => Lib.dg N (L - 1 - t)
theorem dgL_length (N L : Nat) : (dgL N L).length = L := by simp [dgL]
theorem dgL_zero (N : Nat) : dgL N 0 = [] := rfl
theorem dgL_succ (N L : Nat) : dgL N (L + 1) = Lib.dg N L :: dgL N L := by
  unfold dgL
  rw [List.range_succ_eq_map, List.map_cons, List.map_map]
  congr 1
  refine List.map_congr_left fun t _ => ?_
  show Lib.dg N (L + 1 - 1 - (t + 1)) = _
  rw [show L + 1 - 1 - (t + 1) = L - 1 - t by omega]
theorem dec_dgL (N : Nat) : Lib.decDigits N = dgL N (Lib.nDigits N) := Lib.decDigits_eq N
theorem dg_zero {N k : Nat} (h : N < 10 ^ k) : Lib.dg N k = 48 := by unfold Lib.dg; rw [Nat.div_eq_of_lt h]; rfl
theorem dgL_pad {N L : Nat} (h : Lib.nDigits N ≤ L) : dgL N (L + 1) = 48 :: dgL N L := by
  rw [dgL_succ, dg_zero (Nat.lt_of_lt_of_le (Lib.lt_pow_nDigits N) (Nat.pow_le_pow_right (by decide) h))]

/-- N in decimal, with noughts ahead up to a width. -/
def padS (N W : Nat) : ByteArray := ⟨(dgL N (max W (Lib.nDigits N))).toArray⟩
theorem bytes_cons (c : UInt8) (l : List UInt8) : (⟨#[c]⟩ : ByteArray) ++ ⟨l.toArray⟩ = ⟨(c :: l).toArray⟩ := by
  apply ByteArray.ext
  simp
theorem bytes_nil (t : ByteArray) : (⟨#[]⟩ : ByteArray) ++ t = t := by
  apply ByteArray.ext
  simp
theorem nDigits_le : ∀ m u : Nat, u < 10 ^ (m + 1) → Lib.nDigits u ≤ m + 1
  | 0, u, hu => by rw [Lib.nDigits_small (by simpa using hu)]; exact Nat.le_refl _
  | m + 1, u, hu => by
    by_cases h10 : u < 10
    · rw [Lib.nDigits_small h10]; omega
    · rw [Lib.nDigits_big h10]
      have := nDigits_le m (u / 10) (by rw [Nat.pow_succ] at hu; omega)
      omega

/-- A string's bytes, behind a name. -/
def Str (s : ByteArray) (l : List UInt8) : Prop := s = ⟨l.toArray⟩
theorem Str.size {s : ByteArray} {l : List UInt8} (h : Str s l) : s.size = l.length := by rw [h]; rfl
theorem Str.mk (l : List UInt8) : Str ⟨l.toArray⟩ l := rfl
theorem Str.cons {s : ByteArray} {l : List UInt8} (h : Str s l) (c : UInt8) : Str (⟨#[c]⟩ ++ s) (c :: l) := by rw [h]; exact bytes_cons c l
theorem Str.get {s : ByteArray} {l : List UInt8} (h : Str s l) (i : Nat) (hi : i < s.size) : s[i] = l.getD i 0 := by
  subst h
  show l.toArray[i] = _
  simp [List.getD, show i < l.length from hi]
theorem dg_ne (N k : Nat) : (Lib.dg N k).toNat ≠ 45 := by
  unfold Lib.dg
  have : N / 10 ^ k % 10 < 10 := Nat.mod_lt _ (by decide)
  rw [UInt8.toNat_ofNat']
  omega

end Go.Proofs.YtcdbnjhkjfimkaaDoor
