/-
  FnNumberScaled: a number times 100 to a power.
-/
import Derived.Test.YtiahmmecekfjhaaDoorNum7
namespace Go.Proofs.YtiahmmecekfjhaaDoor
open Go Go.RowKit

theorem numL_scaled (ls : List Int) (neg : Bool) (e k : Int) : numL ls neg (e + 2 * k) = headB neg (e + 2 * k) :: tailL neg (evenL e ls) := by
  unfold numL evenL
  rw [show (e + 2 * k) % 2 = e % 2 by omega]
theorem tail_pos (ls : List Int) (neg : Bool) (e : Int) (h : 1 ≤ ls.length) : 1 ≤ (tailL neg (evenL e ls)).length := by
  unfold tailL evenL
  rw [List.length_append, List.length_map, prs_length]
  split
  · rw [List.length_cons]
    omega
  · omega
theorem scaled_heads (neg : Bool) (e k : Int) (h0 : -30 < e) (h1 : e < 30) (k0 : -15 < k) (k1 : k < 15) : (0 ≤ headB neg e ∧ headB neg e < 256) ∧ (0 ≤ headB neg (e + 2 * k) ∧ headB neg (e + 2 * k) < 256) ∧ (neg = false → headB neg (e + 2 * k) - headB neg e = k) ∧ (neg = true → headB neg (e + 2 * k) - headB neg e = -k) := by
  unfold headB
  cases neg
  · simp only [Bool.false_eq_true, if_false]
    exact ⟨⟨by omega, by omega⟩, ⟨by omega, by omega⟩, fun _ => by omega, fun h => absurd h (by decide)⟩
  · simp only [if_true]
    exact ⟨⟨by omega, by omega⟩, ⟨by omega, by omega⟩, fun h => absurd h (by decide), fun _ => by omega⟩
theorem letters_digits {zs : List Int} (h : Dig zs) : ∀ x ∈ (zs.map fun x => 48 + x), IsDigit x := fun x hx => by
  obtain ⟨y, hy, rfl⟩ := List.mem_map.1 hx
  have := h y hy
  unfold IsDigit
  omega

set_option maxRecDepth 100000 in
set_option maxHeartbeats 4000000 in
theorem scaled_false (p : Option Addr) (n c : Nat) (xs : List Int) (m2 m3 e k : Int) (w : World) (ht : Tab w) (hi : Lib.BytesIn w p n xs) (hx : xs.length = n) (hr : ∀ x ∈ xs, 0 ≤ x ∧ x < 256) (hn : n ≤ 2147483647) (he : m2.tmod 30 = e) (hk : m3.tmod 15 = k) (e0 : -30 < e) (e1 : e < 30) (k0 : -15 < k) (k1 : k < 15) :
    Calls Tryd.prog 4 #[.slice p n c, .bool false, .int .i8 m2, .int .i8 m3] w fun r w' => r = .returned (.bool true) ∧ Kp w w' := by
  have CA := Lib.hid (fun w ht => numberAwake_any w ht)
  have CD := Lib.hid (digits_any p n c xs w hi hx hn hr)
  have HT := Lib.hid ht
  have i0 : (n : Int) ≤ 2147483647 := by omega
  have wk : IntKind.i64.wrap k = k := by
    rw [IntKind.wrap_i64]
    omega
  have wk2 : IntKind.i64.wrap (k) = k := by
    rw [IntKind.wrap_i64]
    omega
  have we : IntKind.i64.wrap e = e := by
    rw [IntKind.wrap_i64]
    omega
  clear ht hi hx hr
  go_enter Tryd.func4, Tryd.ntmps4
  go_wp2_with fail
  refine CD.out.mono ?_
  rintro r w1 ⟨q, m, d, zs, rfl, hin1, hzl, hm18, hdz, hk1⟩
  have HIN1 := Lib.hid hin1
  have HZL := Lib.hid hzl
  have HDZ := Lib.hid hdz
  have HK1 := Lib.hid hk1
  clear hin1 hzl hdz hk1 CD
  by_cases hm0 : m = 0
  · subst hm0
    go_wp2_with fail
    refine (CA.out _ (HT.out.kp HK1.out)).mono ?_
    rintro r w2 ⟨rfl, hk2⟩
    have HK2 := Lib.hid (HK1.out.trans hk2)
    clear hk2
    go_wp2
    go_ret
    exact ⟨rfl, HK2.out⟩
  · have a0 : ((m : Int) == 0) = false := by
      simp
      omega
    have a1 : (m : Int) ≤ 18 := by omega
    go_wp2_with fail
    refine (letters_any q m d zs _ HIN1.out HZL.out hm18 HDZ.out).mono ?_
    rintro r w2 ⟨q2, d2, rfl, hin2, hk2⟩
    have HIN2 := Lib.hid hin2
    have HK2 := Lib.hid (HK1.out.trans hk2)
    have HIN12 := Lib.hid (bin_kp HIN1.out hk2)
    have hlen : (zs.map fun x => 48 + x).length = m := by rw [List.length_map, HZL.out]
    have hdg := letters_digits HDZ.out
    obtain ⟨ls, hls⟩ : ∃ ls, ls = zs.map fun x => 48 + x := ⟨_, rfl⟩
    rw [← hls] at HIN2 hlen hdg
    have HLS := Lib.hid hls
    have HLEN := Lib.hid hlen
    have HDG := Lib.hid hdg
    clear hin2 hk2 hlen hdg hls
    go_wp2_with fail
    refine (numberMade_any q2 m d2 ls false e _ HIN2.out HLEN.out (by omega) (by omega) HDG.out (by omega) (by omega)).mono ?_
    rintro r w3 ⟨va, rfl, howna, hk3⟩
    have HOA := Lib.hid howna
    have HK3 := Lib.hid (HK2.out.trans hk3)
    have HIN13 := Lib.hid (bin_kp HIN12.out hk3)
    clear howna hk3
    go_wp2_with fail
    refine (letters_any q m d zs _ HIN13.out HZL.out hm18 HDZ.out).mono ?_
    rintro r w4 ⟨q4, d4, rfl, hin4, hk4⟩
    rw [← HLS.out] at hin4
    have HIN4 := Lib.hid hin4
    have HK4 := Lib.hid (HK3.out.trans hk4)
    have HK34 := Lib.hid hk4
    clear hin4 hk4
    go_wp2_with fail
    refine (numberMade_any q4 m d4 ls false (e + 2 * k) _ HIN4.out HLEN.out (by omega) (by omega) HDG.out (by omega) (by omega)).mono ?_
    rintro r w5 ⟨vb, rfl, hownb, hk5⟩
    have HOB := hownb
    have HK5 := Lib.hid (HK4.out.trans hk5)
    have HK35 := Lib.hid (HK34.out.trans hk5)
    rw [numL_scaled] at HOB
    have hoa := HOA.out
    unfold numL at hoa
    have hxl := tail_pos ls false e (by rw [HLEN.out]; omega)
    have hh := scaled_heads false e k e0 e1 k0 k1
    generalize tailL false (evenL e ls) = ts at *
    generalize headB false e = x at *
    generalize headB false (e + 2 * k) = y at *
    obtain ⟨⟨hx0, hx1⟩, ⟨hy0, hy1⟩, hp, hq⟩ := hh
    have j2 : y - x = k := hp rfl
    obtain ⟨s, hs1⟩ : ∃ s, ts.length + 1 = s := ⟨_, rfl⟩
    obtain ⟨ga, ca, rfl, hca, hma, hina⟩ := own_pos hoa (by simp)
    obtain ⟨gb, cb, rfl, hcb, hmb, hinb⟩ := own_pos HOB (by simp)
    simp only [List.length_cons, hs1] at hca hcb hina hinb ⊢
    have hina2 := bin_kp hina HK35.out
    have HA := Lib.hid (show Lib.BytesIn w5 (some ⟨ga, 1, none⟩) (s - 1) ts from by have h := bin_sub hina2 1 (s - 1) (by omega); simpa [List.take_of_length_le (show ts.length ≤ s - 1 by omega)] using h)
    have HBB := Lib.hid (show Lib.BytesIn w5 (some ⟨gb, 1, none⟩) (s - 1) ts from by have h := bin_sub hinb 1 (s - 1) (by omega); simpa [List.take_of_length_le (show ts.length ≤ s - 1 by omega)] using h)
    have HXL := Lib.hid (show ts.length = s - 1 by omega)
    have ca0 : w5.cell? ⟨ga, 0, none⟩ = some (.int .u8 x) := bin_at hina2 0 (by omega)
    have cb0 : w5.cell? ⟨gb, 0, none⟩ = some (.int .u8 y) := bin_at hinb 0 (by omega)
    have q1 : 2 ≤ s := by omega
    have q4 : 2 ≤ ca := by omega
    have q5 : 2 ≤ cb := by omega
    have q6 : (ca = 1) = False := by simp; omega
    have q7 : (cb = 1) = False := by simp; omega
    have q2 : (1 : Int) ≤ (s : Int) := by omega
    have q8 : (0 : Int) < (s : Int) := by omega
    have q9 : 0 < s := by omega
    have q3 : ((s : Int) == 0) = false := by
      simp
      omega
    unfold maxLen at hma hmb
    clear hownb hk5 hina hina2 hinb hoa HOA HOB hp hq hs1 hxl
    go_wp2_with fail
    go_quiet ((go_at_call 17; exact Calls.quiet_of_same (bytes_equal_same _ _ _ _ _ _ ts HXL.out (by exact HA.out) (by exact HBB.out))))
    go_wp2_with fail
    have HKq := Lib.hid (HK5.out.drewN nq)
    have HTq := Lib.hid (HT.out.kp HKq.out)
    have wy : IntKind.i64.wrap y = y := by
      rw [IntKind.wrap_i64]
      omega
    have wx : IntKind.i64.wrap x = x := by
      rw [IntKind.wrap_i64]
      omega
    have ca1 : (w5.drewN nq).cell? ⟨ga, 0, none⟩ = some (.int .u8 x) := ca0
    have cb1 : (w5.drewN nq).cell? ⟨gb, 0, none⟩ = some (.int .u8 y) := cb0
    generalize w5.drewN nq = w6 at *
    clear ca0 cb0 HA HBB
    go_region_held3 (fun w' => w'.cell? ⟨ga, 0, none⟩ = some (.int .u8 x) ∧ w'.cell? ⟨gb, 0, none⟩ = some (.int .u8 y)) (first | with_reducible exact ⟨ca1, cb1⟩ | go_keep)
      (first
        | (go_at_call 13; refine (CA.out _ (by exact HTq.out)).mono ?_; rintro e w7 ⟨rfl, hk7⟩; have HK7 := Lib.hid (HKq.out.drew.trans hk7); have ca1 := below_some hk7 (a := ⟨ga, 0, none⟩) (v := .int .u8 x) (by exact ca1); have cb1 := below_some hk7 (a := ⟨gb, 0, none⟩) (v := .int .u8 y) (by exact cb1); clear hk7))
    all_goals
      go_wp2_with fail
      go_ret
      exact ⟨rfl, HK7.out⟩

set_option maxRecDepth 100000 in
set_option maxHeartbeats 4000000 in
theorem scaled_true (p : Option Addr) (n c : Nat) (xs : List Int) (m2 m3 e k : Int) (w : World) (ht : Tab w) (hi : Lib.BytesIn w p n xs) (hx : xs.length = n) (hr : ∀ x ∈ xs, 0 ≤ x ∧ x < 256) (hn : n ≤ 2147483647) (he : m2.tmod 30 = e) (hk : m3.tmod 15 = k) (e0 : -30 < e) (e1 : e < 30) (k0 : -15 < k) (k1 : k < 15) :
    Calls Tryd.prog 4 #[.slice p n c, .bool true, .int .i8 m2, .int .i8 m3] w fun r w' => r = .returned (.bool true) ∧ Kp w w' := by
  have CA := Lib.hid (fun w ht => numberAwake_any w ht)
  have CD := Lib.hid (digits_any p n c xs w hi hx hn hr)
  have HT := Lib.hid ht
  have i0 : (n : Int) ≤ 2147483647 := by omega
  have wk : IntKind.i64.wrap k = k := by
    rw [IntKind.wrap_i64]
    omega
  have wk2 : IntKind.i64.wrap (-k) = -k := by
    rw [IntKind.wrap_i64]
    omega
  have we : IntKind.i64.wrap e = e := by
    rw [IntKind.wrap_i64]
    omega
  clear ht hi hx hr
  go_enter Tryd.func4, Tryd.ntmps4
  go_wp2_with fail
  refine CD.out.mono ?_
  rintro r w1 ⟨q, m, d, zs, rfl, hin1, hzl, hm18, hdz, hk1⟩
  have HIN1 := Lib.hid hin1
  have HZL := Lib.hid hzl
  have HDZ := Lib.hid hdz
  have HK1 := Lib.hid hk1
  clear hin1 hzl hdz hk1 CD
  by_cases hm0 : m = 0
  · subst hm0
    go_wp2_with fail
    refine (CA.out _ (HT.out.kp HK1.out)).mono ?_
    rintro r w2 ⟨rfl, hk2⟩
    have HK2 := Lib.hid (HK1.out.trans hk2)
    clear hk2
    go_wp2
    go_ret
    exact ⟨rfl, HK2.out⟩
  · have a0 : ((m : Int) == 0) = false := by
      simp
      omega
    have a1 : (m : Int) ≤ 18 := by omega
    go_wp2_with fail
    refine (letters_any q m d zs _ HIN1.out HZL.out hm18 HDZ.out).mono ?_
    rintro r w2 ⟨q2, d2, rfl, hin2, hk2⟩
    have HIN2 := Lib.hid hin2
    have HK2 := Lib.hid (HK1.out.trans hk2)
    have HIN12 := Lib.hid (bin_kp HIN1.out hk2)
    have hlen : (zs.map fun x => 48 + x).length = m := by rw [List.length_map, HZL.out]
    have hdg := letters_digits HDZ.out
    obtain ⟨ls, hls⟩ : ∃ ls, ls = zs.map fun x => 48 + x := ⟨_, rfl⟩
    rw [← hls] at HIN2 hlen hdg
    have HLS := Lib.hid hls
    have HLEN := Lib.hid hlen
    have HDG := Lib.hid hdg
    clear hin2 hk2 hlen hdg hls
    go_wp2_with fail
    refine (numberMade_any q2 m d2 ls true e _ HIN2.out HLEN.out (by omega) (by omega) HDG.out (by omega) (by omega)).mono ?_
    rintro r w3 ⟨va, rfl, howna, hk3⟩
    have HOA := Lib.hid howna
    have HK3 := Lib.hid (HK2.out.trans hk3)
    have HIN13 := Lib.hid (bin_kp HIN12.out hk3)
    clear howna hk3
    go_wp2_with fail
    refine (letters_any q m d zs _ HIN13.out HZL.out hm18 HDZ.out).mono ?_
    rintro r w4 ⟨q4, d4, rfl, hin4, hk4⟩
    rw [← HLS.out] at hin4
    have HIN4 := Lib.hid hin4
    have HK4 := Lib.hid (HK3.out.trans hk4)
    have HK34 := Lib.hid hk4
    clear hin4 hk4
    go_wp2_with fail
    refine (numberMade_any q4 m d4 ls true (e + 2 * k) _ HIN4.out HLEN.out (by omega) (by omega) HDG.out (by omega) (by omega)).mono ?_
    rintro r w5 ⟨vb, rfl, hownb, hk5⟩
    have HOB := hownb
    have HK5 := Lib.hid (HK4.out.trans hk5)
    have HK35 := Lib.hid (HK34.out.trans hk5)
    rw [numL_scaled] at HOB
    have hoa := HOA.out
    unfold numL at hoa
    have hxl := tail_pos ls true e (by rw [HLEN.out]; omega)
    have hh := scaled_heads true e k e0 e1 k0 k1
    generalize tailL true (evenL e ls) = ts at *
    generalize headB true e = x at *
    generalize headB true (e + 2 * k) = y at *
    obtain ⟨⟨hx0, hx1⟩, ⟨hy0, hy1⟩, hp, hq⟩ := hh
    have j2 : y - x = -k := hq rfl
    obtain ⟨s, hs1⟩ : ∃ s, ts.length + 1 = s := ⟨_, rfl⟩
    obtain ⟨ga, ca, rfl, hca, hma, hina⟩ := own_pos hoa (by simp)
    obtain ⟨gb, cb, rfl, hcb, hmb, hinb⟩ := own_pos HOB (by simp)
    simp only [List.length_cons, hs1] at hca hcb hina hinb ⊢
    have hina2 := bin_kp hina HK35.out
    have HA := Lib.hid (show Lib.BytesIn w5 (some ⟨ga, 1, none⟩) (s - 1) ts from by have h := bin_sub hina2 1 (s - 1) (by omega); simpa [List.take_of_length_le (show ts.length ≤ s - 1 by omega)] using h)
    have HBB := Lib.hid (show Lib.BytesIn w5 (some ⟨gb, 1, none⟩) (s - 1) ts from by have h := bin_sub hinb 1 (s - 1) (by omega); simpa [List.take_of_length_le (show ts.length ≤ s - 1 by omega)] using h)
    have HXL := Lib.hid (show ts.length = s - 1 by omega)
    have ca0 : w5.cell? ⟨ga, 0, none⟩ = some (.int .u8 x) := bin_at hina2 0 (by omega)
    have cb0 : w5.cell? ⟨gb, 0, none⟩ = some (.int .u8 y) := bin_at hinb 0 (by omega)
    have q1 : 2 ≤ s := by omega
    have q4 : 2 ≤ ca := by omega
    have q5 : 2 ≤ cb := by omega
    have q6 : (ca = 1) = False := by simp; omega
    have q7 : (cb = 1) = False := by simp; omega
    have q2 : (1 : Int) ≤ (s : Int) := by omega
    have q8 : (0 : Int) < (s : Int) := by omega
    have q9 : 0 < s := by omega
    have q3 : ((s : Int) == 0) = false := by
      simp
      omega
    unfold maxLen at hma hmb
    clear hownb hk5 hina hina2 hinb hoa HOA HOB hp hq hs1 hxl
    go_wp2_with fail
    go_quiet ((go_at_call 17; exact Calls.quiet_of_same (bytes_equal_same _ _ _ _ _ _ ts HXL.out (by exact HA.out) (by exact HBB.out))))
    go_wp2_with fail
    have HKq := Lib.hid (HK5.out.drewN nq)
    have HTq := Lib.hid (HT.out.kp HKq.out)
    have wy : IntKind.i64.wrap y = y := by
      rw [IntKind.wrap_i64]
      omega
    have wx : IntKind.i64.wrap x = x := by
      rw [IntKind.wrap_i64]
      omega
    have ca1 : (w5.drewN nq).cell? ⟨ga, 0, none⟩ = some (.int .u8 x) := ca0
    have cb1 : (w5.drewN nq).cell? ⟨gb, 0, none⟩ = some (.int .u8 y) := cb0
    generalize w5.drewN nq = w6 at *
    clear ca0 cb0 HA HBB
    go_region_held3 (fun w' => w'.cell? ⟨ga, 0, none⟩ = some (.int .u8 x) ∧ w'.cell? ⟨gb, 0, none⟩ = some (.int .u8 y)) (first | with_reducible exact ⟨ca1, cb1⟩ | go_keep)
      (first
        | (go_at_call 13; refine (CA.out _ (by exact HTq.out)).mono ?_; rintro e w7 ⟨rfl, hk7⟩; have HK7 := Lib.hid (HKq.out.drew.trans hk7); have ca1 := below_some hk7 (a := ⟨ga, 0, none⟩) (v := .int .u8 x) (by exact ca1); have cb1 := below_some hk7 (a := ⟨gb, 0, none⟩) (v := .int .u8 y) (by exact cb1); clear hk7))
    all_goals
      go_wp2_with fail
      go_ret
      exact ⟨rfl, HK7.out⟩

set_option maxHeartbeats 1000000 in
theorem fnNumberScaled_any (p : Option Addr) (n c : Nat) (xs : List Int) (b : Bool) (m2 m3 : Int) (w : World) (ht : Tab w) (hi : Lib.BytesIn w p n xs) (hx : xs.length = n) (hr : ∀ x ∈ xs, 0 ≤ x ∧ x < 256) :
    Calls Tryd.prog 4 #[.slice p n c, .bool b, .int .i8 m2, .int .i8 m3] w fun e w' => e = .returned (.bool true) ∧ Below w.heap.size w w' := by
  by_cases hn : n ≤ 2147483647
  · have a1 := Int.lt_tmod_of_pos m2 (show (0 : Int) < 30 by decide)
    have a2 := Int.tmod_lt_of_pos m2 (show (0 : Int) < 30 by decide)
    have a3 := Int.lt_tmod_of_pos m3 (show (0 : Int) < 15 by decide)
    have a4 := Int.tmod_lt_of_pos m3 (show (0 : Int) < 15 by decide)
    cases b
    · exact scaled_false p n c xs m2 m3 _ _ w ht hi hx hr hn rfl rfl a1 a2 a3 a4
    · exact scaled_true p n c xs m2 m3 _ _ w ht hi hx hr hn rfl rfl a1 a2 a3 a4
  · have i0 : (2147483647 : Int) < (n : Int) := by omega
    clear ht hi hx hr hn
    go_enter Tryd.func4, Tryd.ntmps4
    go_wp2
    go_ret
    exact ⟨rfl, Below.refl _ _⟩
end Go.Proofs.YtiahmmecekfjhaaDoor
