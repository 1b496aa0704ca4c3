/-
  spec.NumberOf: the reference's form of an integer is EncodeInt64's.
-/
import Derived.Test.YtcdbnjhkjfimkaaDoorTx11
namespace Go.Proofs.YtcdbnjhkjfimkaaDoor
open Go Go.RowKit

/-- The form of the digits of N. -/
theorem encL_of (n : Int) (N D t m : Nat) (hN : N = n.natAbs) (hN0 : 0 < N) (hD : D = Lib.nDigits N) (hD19 : D ≤ 19) (ht : t < D) (hm : m = D - t) (hmod : N % 10 ^ t = 0) (hne : N / 10 ^ t % 10 ≠ 0) :
    EncL n (numB (decide (n < 0)) (((D : Int) - 1) / 2) (prs (evenL ((D : Int) - 1) ((digV (N / 10 ^ t) m).map (· + 48))))) := by
  refine .inr ⟨t, by omega, by rw [← hN, ← hD]; exact ht, by rw [← hN]; exact hmod, by rw [← hN]; exact hne, ?_⟩
  rw [← hN, ← hD, ← hm]
  have e0 : (digV (N / 10 ^ t) m).map (· + 48) = digI (N / 10 ^ t) m := by
    unfold digV
    rw [List.map_map]
    conv => rhs; rw [← List.map_id (digI (N / 10 ^ t) m)]
    exact List.map_congr_left fun x _ => by simp
  rw [e0]
  generalize decide (n < 0) = neg
  have h20 : (prs (evenL ((D : Int) - 1) (digI (N / 10 ^ t) m))).length < 20 := by
    rw [prs_length, evenL_length, digI_length]; split <;> omega
  have e1 : headB neg ((D : Int) - 1) = if neg then 62 - ((D : Int) - 1) / 2 else 193 + ((D : Int) - 1) / 2 := by
    unfold headB
    cases neg
    · simp only [Bool.false_eq_true, if_false]; omega
    · simp only [if_true]; omega
  unfold numL numB tailL
  generalize prs (evenL ((D : Int) - 1) (digI (N / 10 ^ t) m)) = pv at h20
  rw [e1]
  cases neg <;> simp [h20]
/-- NumberBytes of a number's digits. -/
theorem bytes_digits (n : Int) (N : Nat) (hN : N = n.natAbs) (hN0 : 0 < N) (hN1 : N ≤ 9223372036854775808) (q : Option Addr) (m d t : Nat) (w w1 : World) (hb : Lib.BytesIn w1 q m (digV (N / 10 ^ t) m)) (ht : t < Lib.nDigits N) (hm : m = Lib.nDigits N - t) (hmod : N % 10 ^ t = 0) (hne : N / 10 ^ t % 10 ≠ 0) (hk : Kp w w1) :
    Calls Tryd.prog 26 #[.slice q m d, .bool (decide (n < 0)), .int .i64 ((Lib.nDigits N : Int) - 1)] w1 fun r w2 => ∃ v l, r = .returned v ∧ BRow w2 w1.heap.size v l.length l ∧ Kp w w2 ∧ EncL n l := by
  have hD19 : Lib.nDigits N ≤ 19 := nDigits_le 18 N (by omega)
  have hd := digV_dig (N / 10 ^ t) m
  refine (numberBytes_any q m d _ (decide (n < 0)) ((Lib.nDigits N : Int) - 1) w1 hb (digV_length _ _) (by omega) (by omega) (fun x hx => hd x hx) (by omega) (by omega)).mono ?_
  rintro r w2 ⟨v, rfl, hrow, hk2⟩
  exact ⟨v, _, rfl, hrow, hk.trans hk2, encL_of n N _ t m hN hN0 rfl hD19 ht hm hmod hne⟩
def SpecPost (n : Int) (w : World) (r : Ending) (w' : World) : Prop := ∃ v l, r = .returned v ∧ BRow w' w.heap.size v l.length l ∧ Kp w w' ∧ EncL n l
set_option maxRecDepth 100000 in
set_option maxHeartbeats 1000000 in
theorem digits_zero (w : World) : Calls Tryd.prog 58 #[.int .u64 0] w fun r w' => r = .returned (.tuple #[.slice none 0 0, .int .i64 (-1)]) ∧ w = w' := by
  go_enter Tryd.func58, Tryd.ntmps58
  go_wp2
  go_loopg [0, 4] 0 (fun g n a wr => g = 0 ∧ n = .int .u64 0 ∧ a = .slice none 0 0 ∧ w = wr)
  case atStart => exact ⟨rfl, rfl, rfl, rfl⟩
  case round =>
    obtain ⟨rfl, rfl, rfl, rfl⟩ := hrel
    go_wp2
    go_loopg [4] 0 (fun g a wr => g = 0 ∧ a = .slice none 0 0 ∧ w = wr)
    case atStart => exact ⟨rfl, rfl, rfl⟩
    case round =>
    obtain ⟨rfl, rfl, rfl⟩ := hrel
    go_wp2
    exact bodyPost_ret (v := .tuple #[.slice none 0 0, .int .i64 (-1)]) (by simp [results, Tryd.results58, go_sem]) rfl ⟨rfl, rfl⟩
set_option maxRecDepth 100000 in
set_option maxHeartbeats 1000000 in
theorem ofUint_any (N : Nat) (hN : N ≤ 9223372036854775807) (w : World) : Calls Tryd.prog 57 #[.int .u64 (N : Int)] w (SpecPost (N : Int) w) := by
  by_cases h0 : N = 0
  · subst h0
    go_enter Tryd.func57, Tryd.ntmps57
    go_wp2_with fail
    refine (digits_zero w).mono ?_
    rintro r w1 ⟨rfl, rfl⟩
    go_wp2_with fail
    refine (numberBytes_none false (-1) none 0 w).mono ?_
    rintro r w2 ⟨v, rfl, hrow, hk⟩
    have H := Lib.hid (And.intro hrow hk)
    clear hrow hk
    go_wp2_with fail
    go_ret
    exact ⟨v, [128], rfl, H.out.1, H.out.2, .inl ⟨rfl, rfl⟩⟩
  · have C := Lib.hid (refDigits_any N (by omega) (by omega) w)
    have HN := Lib.hid (And.intro hN h0)
    have dn : decide ((N : Int) < 0) = false := decide_eq_false (by omega)
    have HB := Lib.hid (fun q m d t w1 a b c e f g => bytes_digits (N : Int) N (by simp) (by omega) (by omega) q m d t w w1 a b c e f g)
    rw [dn] at HB
    clear hN h0 dn
    go_enter Tryd.func57, Tryd.ntmps57
    go_wp2_with fail
    refine C.out.mono ?_
    rintro r w1 ⟨q, m, d, t, rfl, hb, ht, hm, hmod, hne, hk⟩
    have CB := Lib.hid (HB.out q m d t w1 hb ht hm hmod hne hk)
    have HKS := Lib.hid hk.size
    clear hb ht hm hmod hne hk C
    go_wp2_with fail
    refine CB.out.mono ?_
    rintro r w2 ⟨v, l, rfl, hrow, hk, hl⟩
    have H := Lib.hid (And.intro hrow (And.intro hk hl))
    clear hrow hk hl CB
    go_wp2_with fail
    go_ret
    exact ⟨v, l, rfl, own_base H.out.1 HKS.out, H.out.2.1, H.out.2.2⟩
set_option maxRecDepth 100000 in
set_option maxHeartbeats 1000000 in
theorem numberOfSpec_any (n : Int) (h0 : -9223372036854775808 ≤ n) (h1 : n ≤ 9223372036854775807) (w : World) : Calls Tryd.prog 18 #[.int .i64 n] w (SpecPost n w) := by
  obtain ⟨N, hN⟩ : ∃ N, N = n.natAbs := ⟨_, rfl⟩
  by_cases hneg : n < 0
  · have C := Lib.hid (refDigits_any N (by omega) (by omega) w)
    have dn : decide (n < 0) = true := decide_eq_true hneg
    have HB := Lib.hid (fun q m d t w1 a b c e f g => bytes_digits n N hN (by omega) (by omega) q m d t w w1 a b c e f g)
    rw [dn] at HB
    obtain ⟨U, hU⟩ : ∃ U, U = IntKind.u64.wrap n := ⟨_, rfl⟩
    have eu : IntKind.u64.wrap n = U := hU.symm
    have ev : IntKind.u64.wrap (-U) = (N : Int) := by
      rw [hU, IntKind.wrap_u64, IntKind.wrap_u64]
      omega
    clear h0 h1 hN hU dn
    go_enter Tryd.func18, Tryd.ntmps18
    go_wp2_with fail
    refine C.out.mono ?_
    rintro r w1 ⟨q, m, d, t, rfl, hb, ht, hm, hmod, hne, hk⟩
    have CB := Lib.hid (HB.out q m d t w1 hb ht hm hmod hne hk)
    have HKS := Lib.hid hk.size
    clear hb ht hm hmod hne hk C
    go_wp2_with fail
    refine CB.out.mono ?_
    rintro r w2 ⟨v, l, rfl, hrow, hk, hl⟩
    have H := Lib.hid (And.intro hrow (And.intro hk hl))
    clear hrow hk hl CB
    go_wp2_with fail
    go_ret
    exact ⟨v, l, rfl, own_base H.out.1 HKS.out, H.out.2.1, H.out.2.2⟩
  · obtain rfl : n = (N : Int) := by omega
    have C := Lib.hid (ofUint_any N (by omega) w)
    have eu : IntKind.u64.wrap (N : Int) = (N : Int) := by
      rw [IntKind.wrap_u64]
      omega
    clear h0 h1 hN
    go_enter Tryd.func18, Tryd.ntmps18
    go_wp2_with fail
    refine C.out.mono ?_
    rintro r w2 ⟨v, l, rfl, hrow, hk, hl⟩
    have H := Lib.hid (And.intro hrow (And.intro hk hl))
    clear hrow hk hl C
    go_wp2_with fail
    go_ret
    exact ⟨v, l, rfl, H.out.1, H.out.2.1, H.out.2.2⟩
end Go.Proofs.YtcdbnjhkjfimkaaDoor
