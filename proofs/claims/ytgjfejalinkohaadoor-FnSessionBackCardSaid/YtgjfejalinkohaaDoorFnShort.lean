/-
  FnSessionShort: up to 252 bytes a CLR and a fixed one are the same bytes.
-/
import Derived.Test.YtgjfejalinkohaaDoorSes13
namespace Go.Proofs.YtgjfejalinkohaaDoor
open Go Go.RowKit

theorem mod_chunk (x : Nat) : x % 252 + 1 ≤ 252 := by omega
set_option maxRecDepth 100000 in
set_option maxHeartbeats 1000000 in
theorem chunk_any (x : Nat) (w : World) (hx : x < 256) : Calls Tryd.prog 20 #[.int .u8 (x : Int)] w fun e w' => e = .returned (.int .i64 ((x % 252 + 1 : Nat) : Int)) ∧ w = w' := by
  have i0 : (0 : Int) ≤ (x : Int) := by omega
  have i1 : (x : Int) < 256 := by omega
  clear hx
  go_enter Tryd.func20, Tryd.ntmps20
  go_wp2
  go_ret
  exact ⟨by simp, rfl⟩

set_option maxRecDepth 100000 in
set_option maxHeartbeats 4000000 in
theorem fnSessionShort_few (q : Option Addr) (n c : Nat) (xs : List Int) (big : Bool) (ch : Nat) (w : World) (hi : Lib.BytesIn w q n xs) (hx : xs.length = n) (hn : n ≤ 252) (hch : ch < 256) :
    Calls Tryd.prog 5 #[.slice q n c, .bool big, .int .u8 (ch : Int)] w fun e w' => e = .returned (.bool true) ∧ Below w.heap.size w w' := by
  have i0 : (0 : Int) ≤ (n : Int) := by omega
  have i1 : (n : Int) ≤ 252 := by omega
  have HI := Lib.hid hi
  have HX := Lib.hid hx
  have HN := Lib.hid hn
  have HCH := Lib.hid hch
  have CH := Lib.hid (fun w => chunk_any ch w hch)
  obtain ⟨k, hk⟩ : ∃ k, k = ch % 252 + 1 := ⟨_, rfl⟩
  rw [← hk] at CH
  have HK1 := Lib.hid (show 0 < k by omega)
  have HK2 := Lib.hid (show k ≤ 252 by omega)
  have CL := Lib.hid (fun w1 (h : Lib.BytesIn w1 q n xs) => clone_any w1 q n c xs h hx (by omega))
  clear hi hx hn hch hk
  go_enter Tryd.func5, Tryd.ntmps5
  go_wp2_with fail
  refine (CL.out _ HI.out).mono ?_
  rintro e w1 ⟨q1, d1, rfl, hown, hb1⟩
  have HO1 := Lib.hid (bin_of_own hown)
  have HK := Lib.hid (show Kp w w1 from hb1)
  clear hown hb1
  go_wp2_with fail
  refine (CH.out _).mono ?_
  rintro e wx ⟨rfl, rfl⟩
  go_wp2_with fail
  generalize hW : w1.alloc (.cells #[.int .i64 1, .slice q1 n d1, .slice none 0 0, .int .i64 0, .int .u64 0, .int .u8 0, .int .u8 0, .bool false, .bool false] 31) = W1
  have hB : Blk W1 w1.heap.size 31 #[.int .i64 1, .slice q1 n d1, .slice none 0 0, .int .i64 0, .int .u64 0, .int .u8 0, .int .u8 0, .bool false, .bool false] := hW ▸ Blk.new w1 _ _
  have HKW := Lib.hid (show Kp w W1 from hW ▸ HK.out.alloc _)
  have C1 := Lib.hid (put1 W1 w1.heap.size ⟨1, q1, n, d1, xs, none, 0, 0, [], 0, 0, 0, 0, false, false⟩ big k hB (hW ▸ bin_alloc HO1.out _) (Lib.BytesIn.nil _ _ _) (ok_clr _ _ _ _ _ (by omega) HX.out (by have := HN.out; omega)) HK1.out (by have := HK2.out; omega) (fun _ => by have := HK2.out; omega))
  clear hW hB
  refine C1.out.mono ?_
  rintro e w2 ⟨q2, l2, d2, rfl, hl2, hown2, hb2⟩
  have e2 : stepW big k ⟨1, q1, n, d1, xs, none, 0, 0, [], 0, 0, 0, 0, false, false⟩ = (n : Int) :: xs := by
    show clrW big k xs = _
    rw [clrW_short _ _ _ (by have := HN.out; have := HX.out; omega), HX.out]
  rw [e2] at hl2 hown2
  obtain rfl : l2 = n + 1 := by rw [← hl2]; simp [HX.out]
  have HP2 := Lib.hid (bin_of_own hown2)
  have hk2 := HKW.out.call hb2
  have HK2' := Lib.hid hk2
  have HI2 := Lib.hid (bin_kp HI.out hk2)
  clear hl2 hown2 hb2 e2 hk2 C1
  go_wp2_with fail
  refine (CL.out _ HI2.out).mono ?_
  rintro e w3 ⟨q3, d3, rfl, hown, hb3⟩
  have HO3 := Lib.hid (bin_of_own hown)
  have HP3 := Lib.hid (bin_kp HP2.out hb3)
  have HK3 := Lib.hid (HK2'.out.call hb3)
  clear hown hb3
  go_wp2_with fail
  refine (CH.out _).mono ?_
  rintro e wx ⟨rfl, rfl⟩
  go_wp2_with fail
  generalize hW : w3.alloc (.cells #[.int .i64 5, .slice q3 n d3, .slice none 0 0, .int .i64 0, .int .u64 0, .int .u8 0, .int .u8 0, .bool false, .bool false] 31) = W3
  have hB : Blk W3 w3.heap.size 31 #[.int .i64 5, .slice q3 n d3, .slice none 0 0, .int .i64 0, .int .u64 0, .int .u8 0, .int .u8 0, .bool false, .bool false] := hW ▸ Blk.new w3 _ _
  have HKW3 := Lib.hid (show Kp w3 W3 from hW ▸ (Kp.refl w3).alloc _)
  have C3 := Lib.hid (put1 W3 w3.heap.size ⟨5, q3, n, d3, xs, none, 0, 0, [], 0, 0, 0, 0, false, false⟩ big k hB (hW ▸ bin_alloc HO3.out _) (Lib.BytesIn.nil _ _ _) (ok_clr _ _ _ _ _ (by omega) HX.out (by have := HN.out; omega)) HK1.out (by have := HK2.out; omega) (fun _ => by have := HK2.out; omega))
  clear hW hB
  refine C3.out.mono ?_
  rintro e w4 ⟨q4, l4, d4, rfl, hl4, hown4, hb4⟩
  have e4 : stepW big k ⟨5, q3, n, d3, xs, none, 0, 0, [], 0, 0, 0, 0, false, false⟩ = (n : Int) :: xs := by
    show fixedW xs = _
    unfold fixedW
    rw [if_neg (by have := HN.out; have := HX.out; omega), HX.out]
  rw [e4] at hl4 hown4
  obtain rfl : l4 = n + 1 := by rw [← hl4]; simp [HX.out]
  have HP4 := Lib.hid (bin_of_own hown4)
  have hk34 := HKW3.out.call hb4
  have HP24 := Lib.hid (bin_kp HP3.out hk34)
  have HK4 := Lib.hid (HK3.out.trans hk34)
  clear hl4 hown4 hb4 e4 hk34 C3
  go_wp2_with fail
  refine (bytes_equal_same w4 q2 q4 (n + 1) d2 d4 ((n : Int) :: xs) (by simp [HX.out]) HP24.out HP4.out).mono ?_
  rintro e wx ⟨rfl, rfl⟩
  go_wp2_with fail
  refine (sessionLive_any _).mono ?_
  rintro e w5 ⟨rfl, hb5⟩
  have HB5 := Lib.hid hb5
  clear hb5
  go_wp2_with fail
  go_ret
  exact ⟨rfl, HK4.out.call HB5.out⟩

set_option maxRecDepth 100000 in
set_option maxHeartbeats 4000000 in
theorem fnSessionShort_any (q : Option Addr) (n c : Nat) (xs : List Int) (big : Bool) (ch : Nat) (w : World) (hi : Lib.BytesIn w q n xs) (hx : xs.length = n) (hm : n ≤ maxLen) (hch : ch < 256) :
    Calls Tryd.prog 5 #[.slice q n c, .bool big, .int .u8 (ch : Int)] w fun e w' => e = .returned (.bool true) ∧ Below w.heap.size w w' := by
  by_cases h1 : n ≤ 252
  · exact fnSessionShort_few q n c xs big ch w hi hx h1 hch
  unfold maxLen at hm
  have i0 : (252 : Int) < (n : Int) := by omega
  have i1 : (n : Int) ≤ 9223372036854775807 := by omega
  by_cases h2 : n ≤ 2147483647
  · have i2 : (n : Int) ≤ 2147483647 := by omega
    clear hi hx hm hch h1 h2
    go_enter Tryd.func5, Tryd.ntmps5
    go_wp2_with fail
    refine (sessionLive_any _).mono ?_
    rintro e w5 ⟨rfl, hb5⟩
    have HB5 := Lib.hid hb5
    clear hb5
    go_wp2_with fail
    go_ret
    exact ⟨rfl, HB5.out⟩
  · have i2 : (2147483647 : Int) < (n : Int) := by omega
    clear hi hx hm hch h1 h2
    go_enter Tryd.func5, Tryd.ntmps5
    go_wp2_with fail
    go_ret
    exact ⟨rfl, Below.refl _ _⟩
end Go.Proofs.YtgjfejalinkohaaDoor
