/-
  The text of an interval, by the reference and by the package.
-/
import Derived.Test.YtaohgebiedkdaaaDoorInt1
import Derived.Test.YtaohgebiedkdaaaDoorGet
namespace Go.Proofs.YtaohgebiedkdaaaDoor
open Go Go.RowKit

theorem zzPadded_int (n W : Int) (hn0 : 0 ≤ n) (hn : n ≤ 1000000000000) (hW0 : 0 ≤ W) (hW : W ≤ 100) (w : World) (ht : Tab w) :
    Calls Tryd.prog 68 #[.int .i64 n, .int .i64 W] w fun e w' => e = .returned (.string (padS n.toNat W.toNat)) ∧ Kp w w' := by
  obtain ⟨N, rfl⟩ := Int.eq_ofNat_of_zero_le hn0
  obtain ⟨V, rfl⟩ := Int.eq_ofNat_of_zero_le hW0
  exact zzPadded_any N V (by omega) (by omega) w ht
theorem dateDigits_int (n W : Int) (hn0 : 0 ≤ n) (hn : n ≤ 1000000000000) (hW0 : 1 ≤ W) (hW : W ≤ 100) (w : World) :
    Calls Tryd.prog 52 #[.int .i64 n, .int .i64 W] w fun e w' => e = .returned (.string (padS n.toNat W.toNat)) ∧ w' = w := by
  obtain ⟨N, rfl⟩ := Int.eq_ofNat_of_zero_le hn0
  obtain ⟨V, rfl⟩ := Int.eq_ofNat_of_zero_le (show 0 ≤ W by omega)
  exact dateDigits_any N V (by omega) (by omega) (by omega) w

theorem padS_size (N W : Nat) (hN : N ≤ 1000000000000) (hW : W ≤ 10) : (padS N W).size ≤ 20 := by
  show (dgL N (max W (Lib.nDigits N))).toArray.size ≤ 20
  have := nDigits_le 12 N (by omega)
  simp [dgL_length]
  omega
theorem padded2 (n : Int) (hn0 : 0 ≤ n) (hn : n ≤ 1000000000000) (w : World) (ht : Tab w) :
    Calls Tryd.prog 68 #[.int .i64 n, .int .i64 2] w fun e w' => e = .returned (.string (padS n.toNat 2)) ∧ Kp w w' := zzPadded_int n 2 hn0 hn (by decide) (by decide) w ht
theorem padded6 (n : Int) (hn0 : 0 ≤ n) (hn : n ≤ 1000000000000) (w : World) (ht : Tab w) :
    Calls Tryd.prog 68 #[.int .i64 n, .int .i64 6] w fun e w' => e = .returned (.string (padS n.toNat 6)) ∧ Kp w w' := zzPadded_int n 6 hn0 hn (by decide) (by decide) w ht
theorem digits2 (n : Int) (hn0 : 0 ≤ n) (hn : n ≤ 1000000000000) (w : World) :
    Calls Tryd.prog 52 #[.int .i64 n, .int .i64 2] w fun e w' => e = .returned (.string (padS n.toNat 2)) ∧ w' = w := dateDigits_int n 2 hn0 hn (by decide) (by decide) w
theorem digits6 (n : Int) (hn0 : 0 ≤ n) (hn : n ≤ 1000000000000) (w : World) :
    Calls Tryd.prog 52 #[.int .i64 n, .int .i64 6] w fun e w' => e = .returned (.string (padS n.toNat 6)) ∧ w' = w := dateDigits_int n 6 hn0 hn (by decide) (by decide) w

/-- An interval, as data. -/
structure Iv where
  mi : Bool
  d : Int
  h : Int
  m : Int
  s : Int
  n : Int
  y : Int
  o : Int
def Iv.val (x : Iv) : Value := .agg #[.bool x.mi, .int .i64 x.d, .int .i64 x.h, .int .i64 x.m, .int .i64 x.s, .int .i64 x.n, .int .i64 x.y, .int .i64 x.o]
structure Iv.Right (x : Iv) : Prop where
  d : 0 ≤ x.d ∧ x.d < 1000000000
  h : 0 ≤ x.h ∧ x.h < 24
  m : 0 ≤ x.m ∧ x.m < 60
  s : 0 ≤ x.s ∧ x.s < 60
  n : 0 ≤ x.n ∧ x.n < 1000000000
  z : x.mi = true → 0 < x.d

/-- The text. -/
def ivText (sg : ByteArray) (d h m s f : Int) : ByteArray :=
  sg ++ padS d.toNat 2 ++ ⟨#[32]⟩ ++ padS h.toNat 2 ++ ⟨#[58]⟩ ++ padS m.toNat 2 ++ ⟨#[58]⟩ ++ padS s.toNat 2 ++ ⟨#[46]⟩ ++ padS f.toNat 6
def Iv.sign (x : Iv) : ByteArray := if x.mi then ⟨#[45]⟩ else ⟨#[43]⟩

set_option maxRecDepth 100000 in
set_option maxHeartbeats 2000000 in
theorem ivText_spec (x : Iv) (hr : x.Right) (w : World) :
    Calls Tryd.prog 32 #[x.val] w fun e w' => e = .returned (.string (ivText x.sign x.d x.h x.m x.s (x.n / 1000))) ∧ Kp w w' := by
  obtain ⟨mi, d, h, m, s, n, y, o⟩ := x
  obtain ⟨⟨d0, d1⟩, ⟨h0, h1⟩, ⟨m0, m1⟩, ⟨s0, s1⟩, ⟨n0, n1⟩, _⟩ := hr
  simp only [Iv.val, Iv.sign] at *
  have q0 : 0 ≤ n / 1000 := by omega
  have q1 : n / 1000 ≤ 1000000 := by omega
  have z1 := padS_size d.toNat 2 (by omega) (by decide)
  have z2 := padS_size h.toNat 2 (by omega) (by decide)
  have z3 := padS_size m.toNat 2 (by omega) (by decide)
  have z4 := padS_size s.toNat 2 (by omega) (by decide)
  have z5 := padS_size (n / 1000).toNat 6 (by omega) (by decide)
  cases mi
  · go_enter Tryd.func32, Tryd.ntmps32
    go_wp2_with fail
    go_quiet ((go_at_call 52; exact Calls.quiet_of_same (dateDigits_int _ _ (by omega) (by omega) (by omega) (by omega) _)))
    go_wp2
    go_ret
    exact ⟨rfl, ((Kp.refl w).alloc _).drewN _⟩
  · go_enter Tryd.func32, Tryd.ntmps32
    go_wp2_with fail
    go_quiet ((go_at_call 52; exact Calls.quiet_of_same (dateDigits_int _ _ (by omega) (by omega) (by omega) (by omega) _)))
    go_wp2
    go_ret
    exact ⟨rfl, ((Kp.refl w).alloc _).drewN _⟩
end Go.Proofs.YtaohgebiedkdaaaDoor
