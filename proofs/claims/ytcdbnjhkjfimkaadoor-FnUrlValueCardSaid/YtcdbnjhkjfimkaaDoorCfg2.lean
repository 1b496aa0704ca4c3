/-
  ConfigPlain and configServers: servers with short addresses of ASCII characters.
-/
import Derived.Test.YtcdbnjhkjfimkaaDoorCfg1
import Derived.Laws.IdiomStrings
namespace Go.Proofs.YtcdbnjhkjfimkaaDoor
open Go Go.RowKit

def plainL (l : List UInt8) : Bool := l.all fun b => decide (b.toNat < 128)
theorem plainL_iff (l : List UInt8) : plainL l = true ↔ ∀ b ∈ l, b.toNat < 128 := by simp [plainL]
theorem bytes_cell (w : World) (s : ByteArray) (c : Nat) (e : TypeId) (m : Nat × Nat) (i : Nat) (hi : i < s.size) : (w.drew.alloc (.cells (bytesRow s c) e m)).cell? ⟨w.heap.size, i, none⟩ = some (.int .u8 ((s.data.toList.getD i 0).toNat : Int)) := by
  have h := cell_of_row (w.drew.alloc (.cells (bytesRow s c) e m)) w.heap.size i (bytesRow s c) e m (heap_alloc_new w.drew _)
  rw [h, bytesRow_at s c i hi]
  have hl : i < s.data.toList.length := hi
  rw [List.getD_eq_getElem?_getD, List.getElem?_eq_getElem hl, Option.getD_some]
  rfl
/-- Servers as they lie in memory. -/
def SrvAt (w : World) (b n : Nat) (PR AD : Nat → ByteArray) (PO : Nat → Int) : Prop := ∀ r, r < n → w.cell? ⟨b, r * 3, none⟩ = some (.string (PR r)) ∧ w.cell? ⟨b, r * 3 + 1, none⟩ = some (.string (AD r)) ∧ w.cell? ⟨b, r * 3 + 2, none⟩ = some (.int .i64 (PO r)) ∧ (PR r).size ≤ maxLen ∧ (AD r).size ≤ maxLen
theorem SrvAt.kp {w w' : World} {b n : Nat} {PR AD : Nat → ByteArray} {PO : Nat → Int} (h : SrvAt w b n PR AD PO) (hk : Kp w w') : SrvAt w' b n PR AD PO := fun r hr => by
  obtain ⟨h1, h2, h3, h4⟩ := h r hr
  exact ⟨below_some hk h1, below_some hk h2, below_some hk h3, h4⟩
def srvOk (pr ad : ByteArray) : Bool := (decide (ad.size ≤ 300) && decide (pr.size ≤ 300)) && plainL ad.data.toList
def srvL (PR AD : Nat → ByteArray) : Nat → Bool
  | 0 => true
  | k + 1 => srvL PR AD k && srvOk (PR k) (AD k)
theorem srvL_no (PR AD : Nat → ByteArray) (k : Nat) (h : srvOk (PR k) (AD k) = false) : ∀ n, k < n → srvL PR AD n = false
  | 0, hk => by omega
  | n + 1, hk => by
    by_cases e : k = n
    · subst e; simp [srvL, h]
    · simp [srvL, srvL_no PR AD k h n (by omega)]
theorem srvL_at (PR AD : Nat → ByteArray) : ∀ n, srvL PR AD n = true → ∀ r, r < n → srvOk (PR r) (AD r) = true
  | 0, _, r, hr => by omega
  | n + 1, h, r, hr => by
    simp only [srvL, Bool.and_eq_true] at h
    by_cases e : r = n
    · rw [e]; exact h.2
    · exact srvL_at PR AD n h.1 r (by omega)
end Go.Proofs.YtcdbnjhkjfimkaaDoor
