/-
  Escaped texts in plain Lean: the bytes that stand as they are, and the others in hexadecimal digits; the table of net/url.
-/
import Derived.Test.YtcdbnjhkjfimkaaDoorCfg4
import Derived.Lib.SlBytesRow
import Derived.Lib.LaidTab
namespace Go.Proofs.YtcdbnjhkjfimkaaDoor
open Go Go.RowKit

/-- The table of net/url. -/
def urlTab : List Int := [0, 0, 0, 0, 0, 0, 0, 0, 0, 0, 0, 0, 0, 0, 0, 0, 0, 0, 0, 0, 0, 0, 0, 0, 0, 0, 0, 0, 0, 0, 0, 0, 0, 76, 12, 0, 95, 0, 95, 12, 76, 76, 76, 95, 93, 127, 127, 65, 255, 255, 255, 255, 255, 255, 255, 255, 255, 255, 79, 93, 12, 95, 12, 64, 67, 255, 255, 255, 255, 255, 255, 127, 127, 127, 127, 127, 127, 127, 127, 127, 127, 127, 127, 127, 127, 127, 127, 127, 127, 127, 127, 12, 0, 12, 0, 127, 0, 255, 255, 255, 255, 255, 255, 127, 127, 127, 127, 127, 127, 127, 127, 127, 127, 127, 127, 127, 127, 127, 127, 127, 127, 127, 127, 0, 0, 0, 127, 0, 0, 0, 0, 0, 0, 0, 0, 0, 0, 0, 0, 0, 0, 0, 0, 0, 0, 0, 0, 0, 0, 0, 0, 0, 0, 0, 0, 0, 0, 0, 0, 0, 0, 0, 0, 0, 0, 0, 0, 0, 0, 0, 0, 0, 0, 0, 0, 0, 0, 0, 0, 0, 0, 0, 0, 0, 0, 0, 0, 0, 0, 0, 0, 0, 0, 0, 0, 0, 0, 0, 0, 0, 0, 0, 0, 0, 0, 0, 0, 0, 0, 0, 0, 0, 0, 0, 0, 0, 0, 0, 0, 0, 0, 0, 0, 0, 0, 0, 0, 0, 0, 0, 0, 0, 0, 0, 0, 0, 0, 0, 0, 0, 0, 0, 0, 0, 0, 0, 0, 0, 0, 0, 0, 0, 0, 0, 0, 0]
def UTab (w : World) : Prop := Lib.TabIs Tryd.prog w "net/url.table" .u8 urlTab
theorem UTab.kp {w w' : World} (h : UTab w) (hk : Kp w w') : UTab w' := TabIs_below (g := 10) (by kernel_rfl) h hk
def alnumB (b : UInt8) : Bool := (decide (48 ≤ b.toNat) && decide (b.toNat ≤ 57)) || ((decide (65 ≤ b.toNat) && decide (b.toNat ≤ 90)) || (decide (97 ≤ b.toNat) && decide (b.toNat ≤ 122)))
/-- Whether a byte stands as it is: letters, digits, four signs, and those that are let be. -/
def okB (l : List UInt8) (b : UInt8) : Bool := alnumB b || ([45, 95, 46, 126] ++ l).contains b
def letP : List UInt8 := [36, 38, 43, 61, 58, 64]
def hexB (n : Nat) : UInt8 := UInt8.ofNat (if n < 10 then 48 + n else 55 + n)
/-- A byte as it is written; q: in a query, where a blank is a plus. -/
def escB (q : Bool) (b : UInt8) : List UInt8 := if q && b == 32 then [43] else if okB (if q then [] else letP) b then [b] else [37, hexB (b.toNat / 16), hexB (b.toNat % 16)]
def escL (q : Bool) (l : List UInt8) : List UInt8 := l.flatMap (escB q)
def escS (q : Bool) (s : ByteArray) : ByteArray := ⟨(escL q s.data.toList).toArray⟩
theorem escL_snoc (q : Bool) (l : List UInt8) (b : UInt8) : escL q (l ++ [b]) = escL q l ++ escB q b := by simp [escL]
theorem escB_len (q : Bool) (b : UInt8) : 1 ≤ (escB q b).length ∧ (escB q b).length ≤ 3 := by
  unfold escB
  by_cases h : (q && b == 32) = true
  · rw [if_pos h]; exact ⟨Nat.le_refl 1, by simp only [List.length_cons, List.length_nil]; omega⟩
  · rw [if_neg h]
    by_cases h2 : okB (if q then [] else letP) b = true
    · rw [if_pos h2]; exact ⟨Nat.le_refl 1, by simp only [List.length_cons, List.length_nil]; omega⟩
    · rw [if_neg h2]; exact ⟨by simp only [List.length_cons, List.length_nil]; omega, Nat.le_refl 3⟩
theorem escL_len (q : Bool) : ∀ l, l.length ≤ (escL q l).length ∧ (escL q l).length ≤ 3 * l.length
  | [] => by simp [escL]
  | b :: l => by
    have h := escL_len q l
    have h2 := escB_len q b
    simp only [escL, List.flatMap_cons, List.length_append, List.length_cons] at h ⊢
    omega
theorem escS_size (q : Bool) (s : ByteArray) : (escS q s).size = (escL q s.data.toList).length := by
  show ((escL q s.data.toList).toArray).size = _
  simp
theorem escS_le (q : Bool) (s : ByteArray) : (escS q s).size ≤ 3 * s.size := by
  rw [escS_size]
  exact (escL_len q s.data.toList).2
/-- What is written is a beginning of what is written of more. -/
theorem escL_pre (q : Bool) (l : List UInt8) (k : Nat) : ∃ r, escL q l = escL q (l.take k) ++ r := ⟨escL q (l.drop k), by rw [escL, escL, escL, ← List.flatMap_append, List.take_append_drop]⟩

theorem tab_path : ∀ c : Fin 256, bits .and .u8 (urlTab.getD c.val 0) 2 = if okB letP (UInt8.ofNat c.val) then 2 else 0 := by decide +kernel
theorem tab_query : ∀ c : Fin 256, bits .and .u8 (urlTab.getD c.val 0) 32 = if okB [] (UInt8.ofNat c.val) then 32 else 0 := by decide +kernel
theorem tab_len : urlTab.length = 256 := by decide +kernel
set_option maxRecDepth 100000 in
theorem should_path (b : UInt8) (w : World) (ht : UTab w) : Calls Tryd.prog 195 #[.int .u8 (b.toNat : Int), .int .u8 2] w fun e w' => e = .returned (.bool (!okB letP b)) ∧ w = w' := by
  have hb : b.toNat < 256 := b.toNat_lt
  have h1 := tab_path ⟨b.toNat, hb⟩
  have hc := ht.cell (g := 10) (by kernel_rfl) b.toNat (by rw [tab_len]; exact hb)
  dsimp only at h1
  rw [UInt8.ofNat_toNat] at h1
  generalize urlTab.getD b.toNat 0 = v at h1 hc
  obtain ⟨x, hx⟩ : ∃ x, x = b.toNat := ⟨_, rfl⟩
  rw [← hx] at hc hb ⊢
  have i0 : (0 : Int) ≤ (x : Int) := by omega
  have i1 : (x : Int) < 256 := by omega
  clear hx hb ht
  cases hk : okB letP b
  · rw [hk] at h1
    have h2 : bits .and .u8 v 2 = 0 := h1
    clear h1 hk
    go_enter Tryd.func195, Tryd.ntmps195
    go_wp2_with fail
    go_ret
    exact ⟨rfl, rfl⟩
  · rw [hk] at h1
    have h2 : bits .and .u8 v 2 = 2 := h1
    clear h1 hk
    go_enter Tryd.func195, Tryd.ntmps195
    go_wp2_with fail
    go_ret
    exact ⟨rfl, rfl⟩
set_option maxRecDepth 100000 in
theorem should_query (b : UInt8) (w : World) (ht : UTab w) : Calls Tryd.prog 195 #[.int .u8 (b.toNat : Int), .int .u8 32] w fun e w' => e = .returned (.bool (!okB [] b)) ∧ w = w' := by
  have hb : b.toNat < 256 := b.toNat_lt
  have h1 := tab_query ⟨b.toNat, hb⟩
  have hc := ht.cell (g := 10) (by kernel_rfl) b.toNat (by rw [tab_len]; exact hb)
  dsimp only at h1
  rw [UInt8.ofNat_toNat] at h1
  generalize urlTab.getD b.toNat 0 = v at h1 hc
  obtain ⟨x, hx⟩ : ∃ x, x = b.toNat := ⟨_, rfl⟩
  rw [← hx] at hc hb ⊢
  have i0 : (0 : Int) ≤ (x : Int) := by omega
  have i1 : (x : Int) < 256 := by omega
  clear hx hb ht
  cases hk : okB [] b
  · rw [hk] at h1
    have h2 : bits .and .u8 v 32 = 0 := h1
    clear h1 hk
    go_enter Tryd.func195, Tryd.ntmps195
    go_wp2_with fail
    go_ret
    exact ⟨rfl, rfl⟩
  · rw [hk] at h1
    have h2 : bits .and .u8 v 32 = 32 := h1
    clear h1 hk
    go_enter Tryd.func195, Tryd.ntmps195
    go_wp2_with fail
    go_ret
    exact ⟨rfl, rfl⟩
end Go.Proofs.YtcdbnjhkjfimkaaDoor
