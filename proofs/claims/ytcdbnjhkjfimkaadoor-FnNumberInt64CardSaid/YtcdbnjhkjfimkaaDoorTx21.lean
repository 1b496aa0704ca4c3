/-
  toInt64Internal, NumberToInt64, Number.Int64, impl.NumberInt64 of an integer of 64 bits.
-/
import Derived.Test.YtcdbnjhkjfimkaaDoorTx20
import Derived.Test.YtcdbnjhkjfimkaaDoorTx5
namespace Go.Proofs.YtcdbnjhkjfimkaaDoor
open Go Go.RowKit

set_option maxRecDepth 100000 in
theorem isInf_no (g n c : Nat) (x : Int) (w : World) (h0 : w.cell? ⟨g, 0, none⟩ = some (.int .u8 x)) (hx : x ≠ 255) (hn : 2 ≤ n) :
    Calls Tryd.prog 176 #[.slice (some ⟨g, 0, none⟩) n c] w (BoolPost false w) := by
  have n0 : (x == 255) = false := by simpa using hx
  have n2 : (2 : Int) ≤ (n : Int) := by omega
  have n3 : ¬ ((n : Int) = 1) := by omega
  by_cases h2 : n = 2
  · subst h2
    by_cases hz : x = 0
    · subst hz
      go_enter Tryd.func176, Tryd.ntmps176
      go_wp2
      go_ret
      exact ⟨rfl, rfl⟩
    · have z0 : (x == 0) = false := by simpa using hz
      go_enter Tryd.func176, Tryd.ntmps176
      go_wp2
      go_ret
      exact ⟨rfl, rfl⟩
  · have h3 : ¬ ((n : Int) = 2) := by omega
    by_cases hz : x = 0
    · subst hz
      go_enter Tryd.func176, Tryd.ntmps176
      go_wp2
      go_ret
      exact ⟨rfl, rfl⟩
    · have z0 : (x == 0) = false := by simpa using hz
      go_enter Tryd.func176, Tryd.ntmps176
      go_wp2
      go_ret
      exact ⟨rfl, rfl⟩
def I64At (n : Int) (w : World) (e : Ending) (w' : World) : Prop := e = .returned (.tuple #[.int .i64 n, .nilIface]) ∧ Kp w w'
set_option maxRecDepth 100000 in
set_option maxHeartbeats 1000000 in
theorem internal_zero (g c : Nat) (p q : Value) (w : World) (h0 : w.cell? ⟨g, 0, none⟩ = some (.int .u8 128)) :
    Calls Tryd.prog 131 #[.slice (some ⟨g, 0, none⟩) 1 c, p, q] w (I64At 0 w) := by
  have C := Lib.hid (isZero_yes g c w h0)
  clear h0
  go_enter Tryd.func131, Tryd.ntmps131
  go_wp2_with fail
  refine C.out.mono ?_
  rintro e w1 ⟨rfl, rfl⟩
  clear C
  go_wp2
  go_ret2
  exact ⟨rfl, Kp.refl w⟩
set_option maxRecDepth 100000 in
set_option maxHeartbeats 1000000 in
theorem internal_of (g n c : Nat) (x : Int) (p q : Value) (a b : Int) (r : Int) (w : World) (h0 : w.cell? ⟨g, 0, none⟩ = some (.int .u8 x)) (hx : x ≠ 128) (hx2 : x ≠ 255) (hn : 2 ≤ n)
    (hcp : Calls Tryd.prog 177 #[.slice (some ⟨g, 0, none⟩) n c, p] w fun e w' => e = .returned (.int .i64 a) ∧ w = w')
    (hcq : Calls Tryd.prog 177 #[.slice (some ⟨g, 0, none⟩) n c, q] w fun e w' => e = .returned (.int .i64 b) ∧ w = w')
    (ha : a ≤ 0) (hb : 0 ≤ b) (ht : Calls Tryd.prog 178 #[.slice (some ⟨g, 0, none⟩) n c] w (I64Post r w)) :
    Calls Tryd.prog 131 #[.slice (some ⟨g, 0, none⟩) n c, p, q] w (I64At r w) := by
  have CZ := Lib.hid (isZero_no g n c x w h0 hx hn)
  have CI := Lib.hid (isInf_no g n c x w h0 hx2 hn)
  have CP := Lib.hid hcp
  have CQ := Lib.hid hcq
  have CT := Lib.hid ht
  clear h0 hx hx2 hn hcp hcq ht
  go_enter Tryd.func131, Tryd.ntmps131
  go_wp2_with fail
  refine CZ.out.mono ?_
  rintro e w1 ⟨rfl, rfl⟩
  go_wp2_with fail
  refine CI.out.mono ?_
  rintro e w1 ⟨rfl, rfl⟩
  go_wp2_with fail
  refine CP.out.mono ?_
  rintro e w1 ⟨rfl, rfl⟩
  go_wp2_with fail
  refine CQ.out.mono ?_
  rintro e w1 ⟨rfl, rfl⟩
  go_wp2_with fail
  refine CT.out.mono ?_
  rintro e w1 ⟨rfl, rfl⟩
  clear CZ CI CP CQ CT
  go_wp2
  go_ret2
  exact ⟨rfl, Kp.refl w⟩
theorem maxByte_any (w : World) : Calls Tryd.prog 132 #[] w fun e w' => e = .returned (.slice (some ⟨w.heap.size, 0, none⟩) 11 11) ∧ w' = w.alloc (.cells ((maxB.map (Value.int .u8)).toArray) 5) := by
  go_enter Tryd.func132, Tryd.ntmps132
  go_wp2
  go_ret
  exact ⟨rfl, rfl⟩
theorem minByte_any (w : World) : Calls Tryd.prog 133 #[] w fun e w' => e = .returned (.slice (some ⟨w.heap.size, 0, none⟩) 12 12) ∧ w' = w.alloc (.cells ((minB.map (Value.int .u8)).toArray) 5) := by
  go_enter Tryd.func133, Tryd.ntmps133
  go_wp2
  go_ret
  exact ⟨rfl, rfl⟩
end Go.Proofs.YtcdbnjhkjfimkaaDoor
