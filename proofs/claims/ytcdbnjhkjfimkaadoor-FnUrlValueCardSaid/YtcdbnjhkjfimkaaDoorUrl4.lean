/-
  FnUrlHead: an address without options has the user, the password and the service escaped as parts of a path, and the server with its port between them.
-/
import Derived.Test.YtcdbnjhkjfimkaaDoorUrl3
namespace Go.Proofs.YtcdbnjhkjfimkaaDoor
open Go Go.RowKit

set_option maxRecDepth 100000 in
theorem options_none (a : Option Addr) (c : Nat) (w : World) : Calls Tryd.prog 82 #[.slice a 0 c] w fun e w' => e = .returned (.map none) ∧ w = w' := by
  go_enter Tryd.func82, Tryd.ntmps82
  go_wp2_with fail
  go_ret
  exact ⟨rfl, rfl⟩
set_option maxRecDepth 100000 in
theorem url_none (h sv us pw : ByteArray) (p : Int) (w : World) (ht : UTab w) (hi : ItoaAt p w) (hh : h.size ≤ 100) (h1 : sv.size ≤ 300) (h2 : us.size ≤ 300) (h3 : pw.size ≤ 300) (p0 : -9223372036854775808 ≤ p) (p1 : p ≤ 9223372036854775807) :
    Calls Tryd.prog 49 #[.string h, .int .i64 p, .string sv, .string us, .string pw, .slice none 0 0] w fun e w' => e = .returned (.string (headS h p sv us pw)) ∧ Kp w w' := by
  have C := Lib.hid (buildUrl_none h sv us pw p w ht hi hh h1 h2 h3 p0 p1)
  clear ht hi hh h1 h2 h3 p0 p1
  go_enter Tryd.func49, Tryd.ntmps49
  go_wp2_with fail
  refine (options_none none 0 w).mono ?_
  rintro e w1 ⟨rfl, rfl⟩
  go_wp2_with fail
  refine C.out.mono ?_
  rintro e w2 ⟨rfl, hk⟩
  have HK := Lib.hid hk
  clear hk
  go_wp2_with fail
  go_ret
  exact ⟨rfl, HK.out⟩
theorem itoa_one (w : World) : ItoaAt 1 w := fun w1 _ => (Tryd.strconv_Itoa_small 1 (by omega) w1).mono (by
  rintro e w' ⟨rfl, rfl⟩
  exact ⟨by rw [show Lib.itoa 1 = Lib.decDigits 1 from rfl], Kp.refl _⟩)
theorem netS_h1 : netS ⟨#[104]⟩ 1 = ⟨#[104, 58, 49]⟩ := by
  unfold netS netL Lib.itoa
  rw [if_neg (by decide), if_neg (by decide), show (1 : Int).toNat = 1 from rfl, dec_rec]
  rfl
theorem head_awake : headS ⟨#[104]⟩ 1 ⟨#[115]⟩ ⟨#[117]⟩ ⟨#[112, 47]⟩ = ⟨#[111, 114, 97, 99, 108, 101, 58, 47, 47, 117, 58, 112, 37, 50, 70, 64, 104, 58, 49, 47, 115]⟩ := by
  rw [headS, netS_h1]
  decide +kernel
set_option maxRecDepth 100000 in
theorem urlAwake_any (w : World) (ht : UTab w) : Calls Tryd.prog 41 #[] w fun e w' => e = .returned (.bool true) ∧ Kp w w' := by
  have C := Lib.hid (url_none ⟨#[104]⟩ ⟨#[115]⟩ ⟨#[117]⟩ ⟨#[112, 47]⟩ 1 w ht (itoa_one w) (by decide) (by decide) (by decide) (by decide) (by omega) (by omega))
  rw [head_awake] at C
  clear ht
  go_enter Tryd.func41, Tryd.ntmps41
  go_wp2_with fail
  refine C.out.mono ?_
  rintro e w2 ⟨rfl, hk⟩
  have HK := Lib.hid hk
  clear hk
  go_wp2_with fail
  go_ret
  exact ⟨rfl, HK.out⟩

/-- A test that, where it says yes, tells this. -/
def TruePost (P : Prop) (w : World) (e : Ending) (w' : World) : Prop := ∃ b, e = .returned (.bool b) ∧ (b = true → P) ∧ Kp w w'
end Go.Proofs.YtcdbnjhkjfimkaaDoor
