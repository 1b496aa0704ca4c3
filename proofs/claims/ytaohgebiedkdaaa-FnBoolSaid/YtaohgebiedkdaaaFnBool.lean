/-
  FnBool: the law returns true for every bool and every list of bytes.
-/
import Derived.Test.YtaohgebiedkdaaaBool
namespace Go.Proofs.Ytaohgebiedkdaaa
open Go Go.RowKit

theorem compare_zero : ∀ (a b : List UInt8), (Lib.compareBytes a b == 0) = (a == b)
  | [], [] => rfl
  | [], _ :: _ => rfl
  | _ :: _, [] => rfl
  | x :: a, y :: b => by
    have ih := compare_zero a b
    unfold Lib.compareBytes
    by_cases hlt : x < y
    · rw [if_pos hlt]
      have : x ≠ y := fun e => by subst e; exact UInt8.lt_irrefl x hlt
      simp [this]
    · rw [if_neg hlt]
      by_cases hgt : y < x
      · rw [if_pos hgt]
        have : x ≠ y := fun e => by subst e; exact UInt8.lt_irrefl x hgt
        simp [this]
      · rw [if_neg hgt, ih]
        have : x = y := by
          have h1 : ¬ x.toNat < y.toNat := fun h => hlt (UInt8.lt_iff_toNat_lt.2 h)
          have h2 : ¬ y.toNat < x.toNat := fun h => hgt (UInt8.lt_iff_toNat_lt.2 h)
          exact UInt8.toNat_inj.1 (by omega)
        subst this
        simp

theorem is11_eq (xs : List Int) : is11 xs = (Lib.bytesOf xs == Lib.bytesOf [1, 1]) := compare_zero _ _

theorem is11_b01 (is : Bool) : is11 [1, b01 is] = is := by cases is <;> decide

theorem bin_pair {w : World} {b : Nat} {x y x' y' : Int} (hb : b = w.heap.size) (hx : x = x') (hy : y = y') : Lib.BytesIn (w.alloc (.cells #[.int .u8 x, .int .u8 y] 5)) (some ⟨b, 0, none⟩) 2 [x', y'] := by
  subst hb hx hy
  exact bin_two w x y

set_option maxHeartbeats 1000000 in
theorem fnBool_few (is : Bool) (p : Option Addr) (n c : Nat) (xs : List Int) (w : World) (h : Lib.BytesIn w p n xs) (hx : xs.length = n) (hm : n ≤ 2147483647) :
    Calls Try.prog 3 #[.bool is, .slice p n c] w fun e w' => e = .returned (.bool true) ∧ Below w.heap.size w w' := by
  have hm2 : ((n : Nat) : Int) ≤ 2147483647 := by omega
  by_cases hn : n ≤ 20
  · have HX := Lib.hid hx
    have HI := Lib.hid h
    have hn2 : ((n : Nat) : Int) ≤ 20 := by omega
    clear hx h
    cases is
    all_goals
      go_enter Try.func3, Try.ntmps3
      go_wp2_with fail
      refine (boolBytes_any _ _).mono ?_
      rintro e w1 ⟨rfl, rfl⟩
      go_wp2_with fail
      first
        | refine (Try.bytes_Equal_all (some ⟨w.heap.size + 1, 0, none⟩) (some ⟨w.heap.size, 0, none⟩) 2 2 2 2 [1, b01 false] [1, b01 false] _ rfl rfl (bin_pair (by simp) rfl rfl) (bin_alloc (bin_pair rfl rfl rfl) _)).mono ?_
        | refine (Try.bytes_Equal_all (some ⟨w.heap.size + 1, 0, none⟩) (some ⟨w.heap.size, 0, none⟩) 2 2 2 2 [1, b01 true] [1, b01 true] _ rfl rfl (bin_pair (by simp) rfl rfl) (bin_alloc (bin_pair rfl rfl rfl) _)).mono ?_
      rintro e w2 ⟨rfl, rfl⟩
      rw [beq_self_eq_true]
      go_wp2_with fail
      first
        | refine (clone_any _ _ _ _ [1, b01 false] (bin_pair (by simp) rfl rfl) rfl (by decide)).mono ?_
        | refine (clone_any _ _ _ _ [1, b01 true] (bin_pair (by simp) rfl rfl) rfl (by decide)).mono ?_
      rintro e w2 ⟨q, d, rfl, hown, hb⟩
      have HB := Lib.hid hb
      have hin := bin_own hown
      obtain ⟨_, _, hv, hin⟩ := hin
      cases hv
      have H2 := Lib.hid hin
      clear hown hb hin
      go_wp2_with fail
      refine (boolOf_any _ _ _ _ [1, b01 _] H2.out rfl (by decide)).mono ?_
      rintro e w3 ⟨rfl, hb3⟩
      have HB3 := Lib.hid hb3
      clear hb3
      rw [is11_b01]
      go_wp2_with fail
      have hb3 : Below w.heap.size w w3 := (((Below.refl _ _).alloc (Nat.le_refl _) _).alloc (by simp) _).trans ((HB.out.mono (by simp; omega)).trans (HB3.out.mono (by have := HB.out.size; simp at this; omega)))
      have HW3 := Lib.hid hb3
      clear hb3 HB3 HB
      refine (clone_any _ _ _ _ _ (bin_below HI.out HW3.out) HX.out (by omega)).mono ?_
      rintro e w4 ⟨q4, d4, rfl, hown, hb4⟩
      obtain ⟨_, _, hv, hin⟩ := bin_own hown
      cases hv
      have H4 := Lib.hid hin
      have HW4 := Lib.hid (HW3.out.trans (hb4.mono HW3.out.size))
      clear hown hb4 hin
      go_wp2_with fail
      refine (boolOf_any _ _ _ _ _ H4.out HX.out (by omega)).mono ?_
      rintro e w5 ⟨rfl, hb5⟩
      have HW5 := Lib.hid (HW4.out.trans (hb5.mono HW4.out.size))
      clear hb5
      rw [is11_eq]
      go_wp2_with fail
      have HW6 := Lib.hid (HW5.out.alloc HW5.out.size (.cells #[.int .u8 1, .int .u8 1] 5))
      refine (Try.bytes_Equal_all _ _ _ _ _ _ _ [1, 1] _ HX.out rfl (by exact bin_below HI.out HW6.out) (by exact bin_two _ 1 1)).mono ?_
      rintro e w6 ⟨rfl, rfl⟩
      go_wp2_with fail
      have HW7 := Lib.hid (HW6.out.alloc HW6.out.size (.cells #[.int .u8 1, .int .u8 1] 5))
      refine (boolOf_any _ _ _ _ [1, b01 true] (bin_pair (by simp) rfl rfl) rfl (by decide)).mono ?_
      rintro e w7 ⟨rfl, hb7⟩
      have HW8 := Lib.hid (HW7.out.trans (hb7.mono HW7.out.size))
      clear hb7
      rw [is11_b01]
      go_wp2_with fail
      go_ret
      exact ⟨rfl, HW8.out⟩
  · have HX := Lib.hid (show ([] : List Int).length = 0 from rfl)
    have HI := Lib.hid (Lib.BytesIn.nil w none [])
    have hn2 : (20 : Int) < ((n : Nat) : Int) := by omega
    clear hx h
    cases is
    all_goals
      go_enter Try.func3, Try.ntmps3
      go_wp2_with fail
      refine (boolBytes_any _ _).mono ?_
      rintro e w1 ⟨rfl, rfl⟩
      go_wp2_with fail
      first
        | refine (Try.bytes_Equal_all (some ⟨w.heap.size + 1, 0, none⟩) (some ⟨w.heap.size, 0, none⟩) 2 2 2 2 [1, b01 false] [1, b01 false] _ rfl rfl (bin_pair (by simp) rfl rfl) (bin_alloc (bin_pair rfl rfl rfl) _)).mono ?_
        | refine (Try.bytes_Equal_all (some ⟨w.heap.size + 1, 0, none⟩) (some ⟨w.heap.size, 0, none⟩) 2 2 2 2 [1, b01 true] [1, b01 true] _ rfl rfl (bin_pair (by simp) rfl rfl) (bin_alloc (bin_pair rfl rfl rfl) _)).mono ?_
      rintro e w2 ⟨rfl, rfl⟩
      rw [beq_self_eq_true]
      go_wp2_with fail
      first
        | refine (clone_any _ _ _ _ [1, b01 false] (bin_pair (by simp) rfl rfl) rfl (by decide)).mono ?_
        | refine (clone_any _ _ _ _ [1, b01 true] (bin_pair (by simp) rfl rfl) rfl (by decide)).mono ?_
      rintro e w2 ⟨q, d, rfl, hown, hb⟩
      have HB := Lib.hid hb
      have hin := bin_own hown
      obtain ⟨_, _, hv, hin⟩ := hin
      cases hv
      have H2 := Lib.hid hin
      clear hown hb hin
      go_wp2_with fail
      refine (boolOf_any _ _ _ _ [1, b01 _] H2.out rfl (by decide)).mono ?_
      rintro e w3 ⟨rfl, hb3⟩
      have HB3 := Lib.hid hb3
      clear hb3
      rw [is11_b01]
      go_wp2_with fail
      have hb3 : Below w.heap.size w w3 := (((Below.refl _ _).alloc (Nat.le_refl _) _).alloc (by simp) _).trans ((HB.out.mono (by simp; omega)).trans (HB3.out.mono (by have := HB.out.size; simp at this; omega)))
      have HW3 := Lib.hid hb3
      clear hb3 HB3 HB
      refine (clone_any _ _ _ _ _ (bin_below HI.out HW3.out) HX.out (by omega)).mono ?_
      rintro e w4 ⟨q4, d4, rfl, hown, hb4⟩
      obtain ⟨_, _, hv, hin⟩ := bin_own hown
      cases hv
      have H4 := Lib.hid hin
      have HW4 := Lib.hid (HW3.out.trans (hb4.mono HW3.out.size))
      clear hown hb4 hin
      go_wp2_with fail
      refine (boolOf_any _ _ _ _ _ H4.out HX.out (by omega)).mono ?_
      rintro e w5 ⟨rfl, hb5⟩
      have HW5 := Lib.hid (HW4.out.trans (hb5.mono HW4.out.size))
      clear hb5
      rw [is11_eq]
      go_wp2_with fail
      have HW6 := Lib.hid (HW5.out.alloc HW5.out.size (.cells #[.int .u8 1, .int .u8 1] 5))
      refine (Try.bytes_Equal_all _ _ _ _ _ _ _ [1, 1] _ HX.out rfl (by exact bin_below HI.out HW6.out) (by exact bin_two _ 1 1)).mono ?_
      rintro e w6 ⟨rfl, rfl⟩
      go_wp2_with fail
      have HW7 := Lib.hid (HW6.out.alloc HW6.out.size (.cells #[.int .u8 1, .int .u8 1] 5))
      refine (boolOf_any _ _ _ _ [1, b01 true] (bin_pair (by simp) rfl rfl) rfl (by decide)).mono ?_
      rintro e w7 ⟨rfl, hb7⟩
      have HW8 := Lib.hid (HW7.out.trans (hb7.mono HW7.out.size))
      clear hb7
      rw [is11_b01]
      go_wp2_with fail
      go_ret
      exact ⟨rfl, HW8.out⟩

/-- A slice that holds more than the law speaks of. -/
theorem fnBool_many (is : Bool) (p : Option Addr) (n c : Nat) (w : World) (hm : 2147483647 < n) :
    Calls Try.prog 3 #[.bool is, .slice p n c] w fun e w' => e = .returned (.bool true) ∧ Below w.heap.size w w' := by
  have hm2 : (2147483647 : Int) < ((n : Nat) : Int) := by omega
  go_enter Try.func3, Try.ntmps3
  go_wp2_with fail
  go_ret
  exact ⟨rfl, Below.refl _ _⟩
end Go.Proofs.Ytaohgebiedkdaaa
