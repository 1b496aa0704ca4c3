/-
  FnSessionBigParts: a CLR in big parts of any size is read as its bytes.
-/
import Derived.Test.YtgjfejalinkohaaDoorSes15
import Derived.Test.YtgjfejalinkohaaDoorSes18
namespace Go.Proofs.YtgjfejalinkohaaDoor
open Go Go.RowKit

set_option maxRecDepth 400000 in
set_option maxHeartbeats 4000000 in
theorem fnSessionBigParts_few (q : Option Addr) (n c : Nat) (xs : List Int) (ch : Nat) (w : World) (hi : Lib.BytesIn w q n xs) (hx : xs.length = n) (hb : Bys xs) (hn : n ≤ 5000) (hnc : n ≤ c) (hcm : c ≤ maxLen) (hch : ch < 65536) :
    Calls Tryd.prog 7 #[.slice q n c, .int .u16 (ch : Int)] w fun e w' => e = .returned (.bool true) ∧ Below w.heap.size w w' := by
  have i0 : (0 : Int) ≤ (n : Int) := by omega
  have i1 : (n : Int) ≤ 5000 := by omega
  have i2 : (0 : Int) ≤ (ch : Int) := by omega
  have i3 : (ch : Int) < 65536 := by omega
  have HI := Lib.hid hi
  have HX := Lib.hid hx
  have HN := Lib.hid hn
  obtain ⟨k, hk⟩ : ∃ k, k = ch % 4096 + 1 := ⟨_, rfl⟩
  have e7 : (ch : Int) % 4096 + 1 = (k : Int) := by omega
  have HK1 := Lib.hid (show 0 < k by omega)
  have HK2 := Lib.hid (show k ≤ 4096 by omega)
  have CL := Lib.hid (fun w1 p d l ys (h : Lib.BytesIn w1 p l ys) (hl : ys.length = l) (hl2 : l ≤ 100000) => clone_any w1 p l d ys h hl (by omega))
  have SC := Lib.hid (fun w1 (h : Lib.BytesIn w1 q n xs) => specClr_any q n c k xs w1 h hx hn hnc hcm (by omega) (by omega))
  obtain ⟨N, hN⟩ : ∃ N, N = clrW true k xs := ⟨_, rfl⟩
  obtain ⟨l, hl⟩ : ∃ l, l = N.length := ⟨_, rfl⟩
  have HL := Lib.hid hl.symm
  have HL5 := Lib.hid (show l ≤ 60000 from by rw [hl, hN]; have := clrW_len true k (by omega) xs; omega)
  have HBY := Lib.hid (show Bys N from hN ▸ bys_clr true k hb)
  have HR := Lib.hid (show RdClr true N xs [] from by have := rdClr_mk true k (by omega) (by omega) (by simp) xs []; rw [List.append_nil, ← hN] at this; exact this)
  rw [← hN] at SC
  have HNE := Lib.hid hN
  clear hi hx hb hn hch hk hN hl hnc hcm
  go_enter Tryd.func7, Tryd.ntmps7
  go_wp2_with fail
  refine (CL.out _ _ _ _ _ HI.out HX.out (by have := HN.out; omega)).mono ?_
  rintro e w1 ⟨q1, d1, rfl, hown, hb1⟩
  have HO1 := Lib.hid (bin_of_own hown)
  have HK := Lib.hid (show Kp w w1 from hb1)
  clear hown hb1
  go_wp2_with fail
  generalize hW : w1.alloc (.cells #[.int .i64 1, .slice q1 n d1, .slice none 0 0, .int .i64 0, .int .u64 0, .int .u8 0, .int .u8 0, .bool false, .bool false] 31) = W1
  have hB : Blk W1 w1.heap.size 31 #[.int .i64 1, .slice q1 n d1, .slice none 0 0, .int .i64 0, .int .u64 0, .int .u8 0, .int .u8 0, .bool false, .bool false] := hW ▸ Blk.new w1 _ _
  have HKW := Lib.hid (show Kp w W1 from hW ▸ HK.out.alloc _)
  have C1 := Lib.hid (put1 W1 w1.heap.size ⟨1, q1, n, d1, xs, none, 0, 0, [], 0, 0, 0, 0, false, false⟩ true k hB (hW ▸ bin_alloc HO1.out _) (Lib.BytesIn.nil _ _ _) (ok_clr _ _ _ _ _ (by omega) HX.out (by have := HN.out; omega)) HK1.out HK2.out (fun h => by simp at h))
  clear hW hB
  refine C1.out.mono ?_
  rintro e w2 ⟨q2, l2, d2, rfl, hl2, hown2, hb2⟩
  have e2 : stepW true k ⟨1, q1, n, d1, xs, none, 0, 0, [], 0, 0, 0, 0, false, false⟩ = N := HNE.out.symm
  rw [e2] at hl2 hown2
  obtain rfl : l2 = l := by rw [← hl2]; exact HL.out
  have HP2 := Lib.hid (bin_of_own hown2)
  have hk2 := HKW.out.call hb2
  have HKB := Lib.hid hk2
  have HI2 := Lib.hid (bin_kp HI.out hk2)
  clear hl2 hown2 hb2 e2 hk2 C1
  go_wp2_with fail
  refine (CL.out _ _ _ _ _ HP2.out HL.out (by have := HL5.out; omega)).mono ?_
  rintro e w3 ⟨q3, d3, rfl, hown, hb3⟩
  have HO3 := Lib.hid (bin_of_own hown)
  have HP3 := Lib.hid (bin_kp HP2.out hb3)
  have HI3 := Lib.hid (bin_kp HI2.out hb3)
  have HK3 := Lib.hid (HKB.out.call hb3)
  clear hown hb3
  go_wp2_with fail
  generalize hW : w3.alloc (.cells #[.int .i64 2, .int .i64 0, .bool false, .bool false] 33) = W3
  have hB : Blk W3 w3.heap.size 33 #[.int .i64 2, .int .i64 0, .bool false, .bool false] := hW ▸ Blk.new w3 _ _
  have HKW3 := Lib.hid (show Kp w3 W3 from hW ▸ (Kp.refl w3).alloc _)
  have C3 := Lib.hid (get1 W3 w3.heap.size ⟨2, 0, false, false⟩ q3 l2 d3 N true ⟨xs, [], 0, noText⟩ [] hB (hW ▸ bin_alloc HO3.out _) HL.out HBY.out (by have := HL5.out; omega)
    (.inr (.inr (.inl ⟨rfl, xs, HR.out, rfl⟩))))
  clear hW hB
  refine C3.out.mono ?_
  rintro e w4 ⟨g, cap, qa, ka, ma, qb, kb, mb, q4, l4, d4, rfl, hc1, hc2, hg1, hg2, c0, c1, c2, c3, c4, hka, hina, hkb, hinb, hl, hin, hb4⟩
  obtain rfl : ka = n := by rw [← hka]; exact HX.out
  obtain rfl : l4 = 0 := by rw [← hl]; rfl
  have HA := Lib.hid hina
  have hk34 := HKW3.out.call hb4
  have HK4 := Lib.hid (HK3.out.trans hk34)
  have HI4 := Lib.hid (bin_kp HI3.out hk34)
  have HP4 := Lib.hid (bin_kp HP3.out hk34)
  have HC0 := Lib.hid c0
  have HC1 := Lib.hid c1
  have i5 : (1 : Int) ≤ (cap : Int) := by omega
  clear hka hina hkb hinb hl hin hb4 hc1 hc2 hg1 c0 c1 c2 c3 c4 hk34 C3
  go_wp2_with fail
  refine (SC.out _ HI4.out).mono ?_
  rintro e w5 ⟨x, rfl, hown5, hb5⟩
  rw [HL.out] at hown5
  obtain ⟨q5, d5, rfl, hin5⟩ := bin_own hown5
  have HE5 := Lib.hid hin5
  have HP5 := Lib.hid (bin_kp HP4.out hb5)
  have HI5 := Lib.hid (bin_kp HI4.out hb5)
  have HA5 := Lib.hid (bin_kp HA.out hb5)
  have HK5 := Lib.hid (HK4.out.call hb5)
  have c0 : w5.cell? ⟨g, 0, none⟩ = some (.bool true) := below_some hb5 HC0.out
  have c1 := below_some hb5 HC1.out
  clear hown5 hb5 hin5
  go_wp2_with fail
  refine (bytes_equal_same _ q2 q5 l2 d2 d5 N HL.out HP5.out HE5.out).mono ?_
  rintro e wx ⟨rfl, rfl⟩
  go_wp2_with fail
  refine (bytes_equal_same _ qa q ka ma c xs HX.out HA5.out HI5.out).mono ?_
  rintro e wx ⟨rfl, rfl⟩
  go_wp2_with fail
  refine (sessionLive_any _).mono ?_
  rintro e w6 ⟨rfl, hb6⟩
  have HB6 := Lib.hid hb6
  clear hb6
  go_wp2_with fail
  go_ret
  exact ⟨rfl, HK5.out.call HB6.out⟩

set_option maxRecDepth 100000 in
set_option maxHeartbeats 4000000 in
theorem fnSessionBigParts_any (q : Option Addr) (n c : Nat) (xs : List Int) (ch : Nat) (w : World) (hi : Lib.BytesIn w q n xs) (hx : xs.length = n) (hb : Bys xs) (hnc : n ≤ c) (hcm : c ≤ maxLen) (hch : ch < 65536) :
    Calls Tryd.prog 7 #[.slice q n c, .int .u16 (ch : Int)] w fun e w' => e = .returned (.bool true) ∧ Below w.heap.size w w' := by
  by_cases h1 : n ≤ 5000
  · exact fnSessionBigParts_few q n c xs ch w hi hx hb h1 hnc hcm hch
  have hm : n ≤ 9223372036854775807 := by unfold maxLen at hcm; omega
  have i0 : (5000 : Int) < (n : Int) := by omega
  have i1 : (n : Int) ≤ 9223372036854775807 := by omega
  by_cases h2 : n ≤ 2147483647
  · have i2 : (n : Int) ≤ 2147483647 := by omega
    clear hi hx hm hch h1 h2 hb hnc hcm
    go_enter Tryd.func7, Tryd.ntmps7
    go_wp2_with fail
    refine (sessionLive_any _).mono ?_
    rintro e w5 ⟨rfl, hb5⟩
    have HB5 := Lib.hid hb5
    clear hb5
    go_wp2_with fail
    go_ret
    exact ⟨rfl, HB5.out⟩
  · have i2 : (2147483647 : Int) < (n : Int) := by omega
    clear hi hx hm hch h1 h2 hb hnc hcm
    go_enter Tryd.func7, Tryd.ntmps7
    go_wp2_with fail
    go_ret
    exact ⟨rfl, Below.refl _ _⟩
end Go.Proofs.YtgjfejalinkohaaDoor
