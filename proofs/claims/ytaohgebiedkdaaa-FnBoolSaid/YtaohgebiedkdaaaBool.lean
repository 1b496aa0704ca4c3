/-
  EncodeBool, DecodeBool and the functions over them: what they return.
-/
import Derived.Test.YtaohgebiedkdaaaCmp
import Derived.Test.YtaohgebiedkdaaaShelf
namespace Go.Proofs.Ytaohgebiedkdaaa
open Go Go.RowKit

def b01 (is : Bool) : Int := if is then 1 else 0

theorem encodeBool_any (is : Bool) (w : World) :
    Calls Try.prog 8 #[.bool is] w fun e w' => e = .returned (.slice (some ⟨w.heap.size, 0, none⟩) 2 2) ∧ w' = w.alloc (.cells #[.int .u8 1, .int .u8 (b01 is)] 5) := by
  cases is
  all_goals
    go_enter Try.func8, Try.ntmps8
    go_wp2
    go_ret
    exact ⟨rfl, rfl⟩

theorem boolBytes_any (is : Bool) (w : World) :
    Calls Try.prog 4 #[.bool is] w fun e w' => e = .returned (.slice (some ⟨w.heap.size, 0, none⟩) 2 2) ∧ w' = w.alloc (.cells #[.int .u8 1, .int .u8 (b01 is)] 5) := by
  go_enter Try.func4, Try.ntmps4
  go_wp2_with (go_at_call 8; refine (encodeBool_any _ _).mono ?_; rintro e w' ⟨rfl, rfl⟩)
  go_ret
  exact ⟨rfl, rfl⟩

theorem bin_two (w : World) (x y : Int) : Lib.BytesIn (w.alloc (.cells #[.int .u8 x, .int .u8 y] 5)) (some ⟨w.heap.size, 0, none⟩) 2 [x, y] := bin_new w [x, y] _

/-- What DecodeBool says of bytes. -/
def is11 (xs : List Int) : Bool := Lib.compareBytes (Lib.bytesOf xs) [1, 1] == 0

theorem decodeBool_any (w : World) (p : Option Addr) (n c : Nat) (xs : List Int) (h : Lib.BytesIn w p n xs) (hx : xs.length = n) :
    Calls Try.prog 9 #[.slice p n c] w fun e w' => e = .returned (.bool (is11 xs)) ∧ Below w.heap.size w w' := by
  have H := Lib.hid (bin_alloc h (.cells #[.int .u8 1, .int .u8 1] 5))
  have HX := Lib.hid hx
  clear h hx
  go_enter Try.func9, Try.ntmps9
  go_wp2_with (go_at_call 10; refine (bytes_Compare_any H.out HX.out (bin_two w 1 1) rfl).mono ?_; rintro e w' ⟨rfl, rfl⟩)
  go_ret
  exact ⟨rfl, (Below.refl _ _).alloc (Nat.le_refl _) _⟩

theorem clone_any (w : World) (p : Option Addr) (n c : Nat) (xs : List Int) (h : Lib.BytesIn w p n xs) (hx : xs.length = n) (hn : n ≤ 140737488355328) :
    Calls Try.prog 7 #[.slice p n c] w fun e w' => ∃ q d, e = .returned (.slice q n d) ∧ w'.ownsRow w.heap.size 5 1 (.slice q n d) n (xs.map (Value.int .u8)) ∧ Below w.heap.size w w' := by
  cases p with
  | none =>
    have hn0 : n = 0 := by
      rcases Nat.eq_zero_or_pos n with h0 | h0
      · exact h0
      · obtain ⟨b, o, hp, _⟩ := h h0
        cases hp
    subst hn0
    have hl : xs = [] := List.eq_nil_of_length_eq_zero hx
    subst hl
    refine (Try.bytes_Clone_nil _ _ _).mono ?_
    rintro e w' ⟨rfl, rfl⟩
    exact ⟨none, 0, rfl, World.ownsRow_nil _ _ _ _, Below.refl _ _⟩
  | some a =>
    have hc : ∀ i, i < n → w.cell? (a.add i) = some (.int .u8 (xs.getD i 0)) := fun i hi => by
      obtain ⟨b, o, hp, hcell⟩ := h (by omega)
      injection hp with hp
      subst hp
      rw [Go.WideShapes.add_plain]
      exact hcell i hi
    refine (Try.bytes_Clone_at a n c xs w hx (by omega) hc).mono ?_
    rintro e w' ⟨v, rfl, hown, _, hb⟩
    obtain ⟨q, d, rfl, hin⟩ := bin_own hown
    exact ⟨q, d, rfl, hown, hb⟩

theorem boolOf_any (w : World) (p : Option Addr) (n c : Nat) (xs : List Int) (h : Lib.BytesIn w p n xs) (hx : xs.length = n) (hn : n ≤ 100) :
    Calls Try.prog 6 #[.slice p n c] w fun e w' => e = .returned (.bool (is11 xs)) ∧ Below w.heap.size w w' := by
  have C := Lib.hid (clone_any w p n c xs h hx (by omega))
  have HX := Lib.hid hx
  clear h hx hn
  go_enter Try.func6, Try.ntmps6
  go_wp2_with fail
  refine C.out.mono ?_
  rintro e w1 ⟨q, d, rfl, hown, hb⟩
  have HB := Lib.hid hb
  have hin : Lib.BytesIn w1 q n xs := by obtain ⟨_, _, hv, hin⟩ := bin_own hown; cases hv; exact hin
  have HI := Lib.hid hin
  clear hown hb hin
  go_wp2_with fail
  refine (decodeBool_any _ _ _ _ xs HI.out HX.out).mono ?_
  rintro e w2 ⟨rfl, hb2⟩
  go_wp2_with fail
  go_ret
  exact ⟨rfl, HB.out.trans (hb2.mono HB.out.size)⟩
end Go.Proofs.Ytaohgebiedkdaaa
