/-
  FnSessionGetApart: its guards.
-/
import Derived.Test.YtacmnibhdmeidaaDoorAsk3
import Derived.Test.YtacmnibhdmeidaaDoorOpenK
namespace Go.Proofs.YtacmnibhdmeidaaDoor
open Go Go.RowKit

set_option maxRecDepth 100000 in
set_option maxHeartbeats 8000000 in
theorem fnGetApart_far (p : Option Addr) (m cp : Nat) (a1 a2 : Option Addr) (n1 d1 n2 d2 : Nat) (big : Bool) (w : World) (h : 2147483647 < m ∨ 2147483647 < n1 ∨ 2147483647 < n2) :
    Calls Tryd.prog 4 #[.slice p m cp, .slice a1 n1 d1, .slice a2 n2 d2, .bool big] w fun e w' => e = .returned (.bool true) ∧ Below w.heap.size w w' := by
  cases g4 : decide ((2147483647 : Int) < ((m : Nat) : Int)) with
  | true =>
      clear h
      go_enter Tryd.func4, Tryd.ntmps4
      go_wp2_with fail
      go_ret
      exact ⟨rfl, Below.refl _ _⟩
  | false =>
    cases g5 : decide ((2147483647 : Int) < ((n1 : Nat) : Int)) with
    | true =>
      clear h
      go_enter Tryd.func4, Tryd.ntmps4
      go_wp2_with fail
      go_ret
      exact ⟨rfl, Below.refl _ _⟩
    | false =>
      have g6 : decide ((2147483647 : Int) < ((n2 : Nat) : Int)) = true := by simp at g4 g5 ⊢; omega
      clear h
      go_enter Tryd.func4, Tryd.ntmps4
      go_wp2_with fail
      go_ret
      exact ⟨rfl, Below.refl _ _⟩

set_option maxRecDepth 100000 in
set_option maxHeartbeats 8000000 in
theorem fnGetApart_long (p : Option Addr) (m cp : Nat) (a1 a2 : Option Addr) (n1 d1 n2 d2 : Nat) (big : Bool) (w : World) (g4 : decide ((2147483647 : Int) < ((m : Nat) : Int)) = false) (g5 : decide ((2147483647 : Int) < ((n1 : Nat) : Int)) = false) (g6 : decide ((2147483647 : Int) < ((n2 : Nat) : Int)) = false) (h : 1000 < m ∨ 30 < n1 ∨ 30 < n2) :
    Calls Tryd.prog 4 #[.slice p m cp, .slice a1 n1 d1, .slice a2 n2 d2, .bool big] w fun e w' => e = .returned (.bool true) ∧ Below w.heap.size w w' := by
  cases g1 : decide ((1000 : Int) < ((m : Nat) : Int)) with
  | true =>
      clear h
      go_enter Tryd.func4, Tryd.ntmps4
      go_wp2_with fail
      refine (sessionLive_any _).mono ?_
      rintro e w5 ⟨rfl, hb5⟩
      have HB5 := Lib.hid hb5
      clear hb5
      go_wp2_with fail
      go_ret
      exact ⟨rfl, HB5.out⟩
  | false =>
    cases g2 : decide ((30 : Int) < ((n1 : Nat) : Int)) with
    | true =>
      clear h
      go_enter Tryd.func4, Tryd.ntmps4
      go_wp2_with fail
      refine (sessionLive_any _).mono ?_
      rintro e w5 ⟨rfl, hb5⟩
      have HB5 := Lib.hid hb5
      clear hb5
      go_wp2_with fail
      go_ret
      exact ⟨rfl, HB5.out⟩
    | false =>
      have g3 : decide ((30 : Int) < ((n2 : Nat) : Int)) = true := by simp at g1 g2 ⊢; omega
      clear h
      go_enter Tryd.func4, Tryd.ntmps4
      go_wp2_with fail
      refine (sessionLive_any _).mono ?_
      rintro e w5 ⟨rfl, hb5⟩
      have HB5 := Lib.hid hb5
      clear hb5
      go_wp2_with fail
      go_ret
      exact ⟨rfl, HB5.out⟩

theorem fnGetApart_any (p : Option Addr) (m cp : Nat) (xs : List Int) (a1 a2 : Option Addr) (n1 d1 n2 d2 : Nat) (P1 P2 : Nat → LAsk) (big : Bool) (w : World) (hi : Lib.BytesIn w p m xs) (hx : xs.length = m) (hb : ∀ x ∈ xs, 0 ≤ x ∧ x < 256) (h1 : AsksIn w a1 n1 P1) (h2 : AsksIn w a2 n2 P2) :
    Calls Tryd.prog 4 #[.slice p m cp, .slice a1 n1 d1, .slice a2 n2 d2, .bool big] w fun e w' => e = .returned (.bool true) ∧ Below w.heap.size w w' := by
  by_cases f : 2147483647 < m ∨ 2147483647 < n1 ∨ 2147483647 < n2
  · exact fnGetApart_far p m cp a1 a2 n1 d1 n2 d2 big w f
  · by_cases f2 : 1000 < m ∨ 30 < n1 ∨ 30 < n2
    · exact fnGetApart_long p m cp a1 a2 n1 d1 n2 d2 big w (by simp; omega) (by simp; omega) (by simp; omega) f2
    · exact fnGetApart_main p m cp xs a1 a2 n1 d1 n2 d2 P1 P2 big w hi hx hb (by omega) h1 h2 (by omega) (by omega)
end Go.Proofs.YtacmnibhdmeidaaDoor
