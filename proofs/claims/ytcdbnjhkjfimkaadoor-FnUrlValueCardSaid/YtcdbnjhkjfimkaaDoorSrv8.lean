/-
  slices.Equal of two rows of servers, of two rows of bools: rows that hold the same are equal.
-/
import Derived.Test.YtcdbnjhkjfimkaaDoorSrv7
namespace Go.Proofs.YtcdbnjhkjfimkaaDoor
open Go Go.RowKit

/-- Servers in a row. -/
def SrvRow (w : World) (a : Option Addr) (n : Nat) (R : Nat → Srv) : Prop := ∀ r, r < n → ∃ b o, a = some ⟨b, o, none⟩ ∧ w.cell? ⟨b, o + r * 3, none⟩ = some (.string (R r).pr) ∧ w.cell? ⟨b, o + r * 3 + 1, none⟩ = some (.string (R r).ad) ∧ w.cell? ⟨b, o + r * 3 + 2, none⟩ = some (.int .i64 (R r).po)
theorem SrvRow.kp {w w' : World} {a : Option Addr} {n : Nat} {R : Nat → Srv} (h : SrvRow w a n R) (hk : Kp w w') : SrvRow w' a n R := fun r hr => by
  obtain ⟨b, o, h0, h1, h2, h3⟩ := h r hr
  exact ⟨b, o, h0, below_some hk h1, below_some hk h2, below_some hk h3⟩
theorem SrvRow.of_own {w : World} {base n : Nat} {q : Option Addr} {c : Nat} {e : TypeId} {l : List Srv} (h : w.ownsRow base e 3 (.slice q n c) n (allC l)) (hn : l.length = n) : SrvRow w q n (fun r => l.getD r zS) := fun r hr => by
  obtain ⟨g, cap, e, _, _, _, _, hc⟩ := own_form h (show 0 < n by omega)
  injection e with e1
  subst hn
  refine ⟨g, 0, e1, ?_, ?_, ?_⟩
  · have := hc _ _ ((allC_at l r 0 hr (by decide)).trans rfl)
    rw [Nat.zero_add]; exact this
  · have := hc _ _ ((allC_at l r 1 hr (by decide)).trans rfl)
    rw [Nat.zero_add]; exact this
  · have := hc _ _ ((allC_at l r 2 hr (by decide)).trans rfl)
    rw [Nat.zero_add]; exact this
/-- Bools in a row. -/
def BoolRow (w : World) (a : Option Addr) (n : Nat) (R : Nat → Bool) : Prop := ∀ r, r < n → ∃ b o, a = some ⟨b, o, none⟩ ∧ w.cell? ⟨b, o + r, none⟩ = some (.bool (R r))
theorem BoolRow.kp {w w' : World} {a : Option Addr} {n : Nat} {R : Nat → Bool} (h : BoolRow w a n R) (hk : Kp w w') : BoolRow w' a n R := fun r hr => by
  obtain ⟨b, o, h0, h1⟩ := h r hr
  exact ⟨b, o, h0, below_some hk h1⟩
theorem boolRow_new (W : World) : BoolRow (W.alloc (.cells #[.bool false, .bool true] 4)) (some ⟨W.heap.size, 0, none⟩) 2 (fun r => decide (r = 1)) := fun r hr => by
  have h := Blk.new W 4 #[.bool false, .bool true]
  rcases (show r = 0 ∨ r = 1 by omega) with rfl | rfl
  · exact ⟨_, 0, rfl, h.cell 0⟩
  · exact ⟨_, 0, rfl, h.cell 1⟩
def awK (r : Nat) : Int := if r = 0 then 0 else 1
def awS (r : Nat) : Srv := if r = 0 then ⟨⟨#[]⟩, ⟨#[97]⟩, 1⟩ else zS
theorem aw_st : stAt awK awS 2 = ⟨[⟨⟨#[]⟩, ⟨#[97]⟩, 1⟩], 0⟩ := rfl
theorem aw_out : flatV (outC awK awS) 2 = [.string ⟨#[]⟩, .string ⟨#[]⟩, .int .i64 0, .string ⟨#[]⟩, .string ⟨#[97]⟩, .int .i64 1] := rfl
theorem aw_is : flatV (isC awK awS) 2 = [.bool false, .bool true] := rfl
end Go.Proofs.YtcdbnjhkjfimkaaDoor
