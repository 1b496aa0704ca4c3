/-
  The bytes of an interval, by the reference.
-/
import Derived.Test.YtaohgebiedkdaaaDoorInt2
import Derived.Test.YtaohgebiedkdaaaDoorApp
namespace Go.Proofs.YtaohgebiedkdaaaDoor
open Go Go.RowKit

theorem be4_eq (v : Int) (h0 : 0 ≤ v) (h1 : v < 4294967296) : be4 v = [v / 16777216, v / 65536 % 256, v / 256 % 256, v % 256] := by
  unfold be4
  rw [Int.emod_eq_of_lt (by omega) (by omega)]

set_option maxHeartbeats 1000000 in
theorem dateFour_any (v : Int) (h0 : 0 ≤ v) (h1 : v < 4294967296) (w : World) :
    Calls Tryd.prog 51 #[.int .u32 v] w fun e w' => e = .returned (.slice (some ⟨w.heap.size, 0, none⟩) 4 4) ∧ w'.ownsRow w.heap.size 5 1 (.slice (some ⟨w.heap.size, 0, none⟩) 4 4) 4 ((be4 v).map (Value.int .u8)) ∧ Kp w w' := by
  go_enter Tryd.func51, Tryd.ntmps51
  go_wp2
  go_ret
  refine ⟨rfl, ?_, (Kp.refl w).alloc _⟩
  rw [be4_eq v h0 h1]
  exact own_new w [v / 16777216, v / 65536 % 256, v / 256 % 256, v % 256] _ (by simp [maxLen])

theorem own_ge {w : World} {base : Nat} {e : TypeId} {size : Nat} {v : Value} {n : Nat} {xs : List Value} (h : w.ownsRow base e size v n xs) : ∀ k, v.ownBlock = some k → base ≤ k := by
  intro k hk
  rcases h.2 with ⟨rfl, _⟩ | ⟨g, cap, cur, rfl, hg, _⟩
  · simp [Value.ownBlock] at hk
  · simp [Value.ownBlock] at hk; omega
theorem Kp.grown {w a b : World} {row : Option Nat} (h : Kp w a) (hg : a.grownBy b row) (hr : ∀ k, row = some k → w.heap.size ≤ k) : Kp w b := Below.grown h hg h.size hr

def ivL (dd hh mm ss nn : Int) : List Int := be4 dd ++ [hh, mm, ss] ++ be4 nn

set_option maxRecDepth 100000 in
set_option maxHeartbeats 2000000 in
theorem ivBytes_plus (d h m s n y o : Int) (hr : Iv.Right ⟨false, d, h, m, s, n, y, o⟩) (w : World) :
    Calls Tryd.prog 31 #[Iv.val ⟨false, d, h, m, s, n, y, o⟩] w fun e w' => ∃ v, e = .returned v ∧ w'.ownsRow w.heap.size 5 1 v 11 ((ivL (2147483648 + d) (60 + h) (60 + m) (60 + s) (2147483648 + n)).map (Value.int .u8)) ∧ Kp w w' := by
  obtain ⟨⟨d0, d1⟩, ⟨h0, h1⟩, ⟨m0, m1⟩, ⟨s0, s1⟩, ⟨n0, n1⟩, hz⟩ := hr
  dsimp only at d0 d1 h0 h1 m0 m1 s0 s1 n0 n1 hz
  have HZ := Lib.hid hz
  have e1 : be4 (d + 2147483648) ++ [h + 60, m + 60, s + 60] ++ be4 (n + 2147483648) = ivL (2147483648 + d) (60 + h) (60 + m) (60 + s) (2147483648 + n) := by
    unfold ivL
    rw [show (d + 2147483648 : Int) = 2147483648 + d by omega, show (n + 2147483648 : Int) = 2147483648 + n by omega, show (h + 60 : Int) = 60 + h by omega, show (m + 60 : Int) = 60 + m by omega, show (s + 60 : Int) = 60 + s by omega]
  have HE := Lib.hid e1
  clear hz e1
  simp only [Iv.val] at *
  go_enter Tryd.func31, Tryd.ntmps31
  go_wp2_with fail
  refine (dateFour_any _ (by omega) (by omega) _).mono ?_
  rintro e w1 ⟨rfl, hown, hk⟩
  rw [World.size_alloc] at hown
  have HK1 := Lib.hid (((Kp.refl w).alloc _).trans hk)
  have HBX := Lib.hid ((Blk.new w 55 #[.bool false, .int .i64 d, .int .i64 h, .int .i64 m, .int .i64 s, .int .i64 n, .int .i64 y, .int .i64 o]).old hk)
  have c2 : w1.cell? ⟨w.heap.size, 2, none⟩ = some (.int .i64 h) := HBX.out.cell 2
  have c3 : w1.cell? ⟨w.heap.size, 3, none⟩ = some (.int .i64 m) := HBX.out.cell 3
  have c4 : w1.cell? ⟨w.heap.size, 4, none⟩ = some (.int .i64 s) := HBX.out.cell 4
  have hs1 := HK1.out.size
  have hs2 := HBX.out.lt
  obtain ⟨v2, w2, hrun2, hov2, hgr2, _⟩ := run_append_bytes (w1.alloc (.cells #[.int .u8 (h + 60), .int .u8 (m + 60), .int .u8 (s + 60)] 5)) (w.heap.size + 1) _ 4 _ (hown.alloc _) (some ⟨w1.heap.size, 0, none⟩) 3 3 [h + 60, m + 60, s + 60] (by exact bin_new w1 [h + 60, m + 60, s + 60] _) rfl (by omega) (by rw [World.size_alloc]; omega)
  have H2 := Lib.hid hrun2
  have HO2 := Lib.hid hov2
  have HK2 := Lib.hid ((HK1.out.alloc _).grown hgr2 (fun k hk' => by have := own_ge hown k hk'; omega))
  have HBX2 := Lib.hid (show Blk w2 w.heap.size 55 #[.bool false, .int .i64 d, .int .i64 h, .int .i64 m, .int .i64 s, .int .i64 n, .int .i64 y, .int .i64 o] from (HBX.out.alloc _).grown hgr2 (fun e => by have := own_ge hown w.heap.size e.symm; omega))
  have c5 : w2.cell? ⟨w.heap.size, 5, none⟩ = some (.int .i64 n) := HBX2.out.cell 5
  clear hown hk hrun2 hov2 hgr2
  go_wp2_with (at_builtin; refine Lib.wpList_append_run _ rfl _ _ _ _ rfl _ _ rfl rfl _ _ H2.out ?_)
  refine (dateFour_any _ (by omega) (by omega) _).mono ?_
  rintro e w3 ⟨rfl, hown, hk⟩
  have hs3 := HK2.out.size
  have hs4 : w2.heap.size < w3.heap.size := by have := (own_lt hown).2; omega
  obtain ⟨v4, w4, hrun4, hov4, hgr4, _⟩ := run_append_bytes w3 (w.heap.size + 1) v2 7 _ (own_below HO2.out hk) (some ⟨w2.heap.size, 0, none⟩) 4 4 (be4 (n + 2147483648)) (bin_of_own hown) rfl (by omega) (by omega)
  have H4 := Lib.hid hrun4
  have HO4 := Lib.hid hov4
  have HK4 := Lib.hid ((HK2.out.trans hk).grown hgr4 (fun k hk' => by have := own_ge HO2.out k hk'; omega))
  clear hown hk hrun4 hov4 hgr4
  go_wp2_with (at_builtin; refine Lib.wpList_append_run _ rfl _ _ _ _ rfl _ _ rfl rfl _ _ H4.out ?_)
  go_ret
  refine ⟨v4, rfl, ?_, HK4.out⟩
  have h := own_base HO4.out (show w.heap.size ≤ w.heap.size + 1 by omega)
  rw [HE.out] at h
  exact h

set_option maxRecDepth 100000 in
set_option maxHeartbeats 2000000 in
theorem ivBytes_minus (d h m s n y o : Int) (hr : Iv.Right ⟨true, d, h, m, s, n, y, o⟩) (w : World) :
    Calls Tryd.prog 31 #[Iv.val ⟨true, d, h, m, s, n, y, o⟩] w fun e w' => ∃ v, e = .returned v ∧ w'.ownsRow w.heap.size 5 1 v 11 ((ivL (2147483648 - d) (60 - h) (60 - m) (60 - s) (2147483648 - n)).map (Value.int .u8)) ∧ Kp w w' := by
  obtain ⟨⟨d0, d1⟩, ⟨h0, h1⟩, ⟨m0, m1⟩, ⟨s0, s1⟩, ⟨n0, n1⟩, hz⟩ := hr
  dsimp only at d0 d1 h0 h1 m0 m1 s0 s1 n0 n1 hz
  have HZ := Lib.hid hz
  have e1 : be4 ((-d + 2147483648) % 4294967296) ++ [(-h + 60), (-m + 60), (-s + 60)] ++ be4 ((-n + 2147483648) % 4294967296) = ivL (2147483648 - d) (60 - h) (60 - m) (60 - s) (2147483648 - n) := by
    unfold ivL
    rw [show ((-d + 2147483648) % 4294967296 : Int) = 2147483648 - d by omega, show ((-n + 2147483648) % 4294967296 : Int) = 2147483648 - n by omega, show ((-h + 60) : Int) = 60 - h by omega, show ((-m + 60) : Int) = 60 - m by omega, show ((-s + 60) : Int) = 60 - s by omega]
  have HE := Lib.hid e1
  clear hz e1
  simp only [Iv.val] at *
  go_enter Tryd.func31, Tryd.ntmps31
  go_wp2_with fail
  refine (dateFour_any _ (by omega) (by omega) _).mono ?_
  rintro e w1 ⟨rfl, hown, hk⟩
  rw [World.size_alloc] at hown
  have HK1 := Lib.hid (((Kp.refl w).alloc _).trans hk)
  have HBX := Lib.hid ((Blk.new w 55 #[.bool true, .int .i64 d, .int .i64 h, .int .i64 m, .int .i64 s, .int .i64 n, .int .i64 y, .int .i64 o]).old hk)
  have c2 : w1.cell? ⟨w.heap.size, 2, none⟩ = some (.int .i64 h) := HBX.out.cell 2
  have c3 : w1.cell? ⟨w.heap.size, 3, none⟩ = some (.int .i64 m) := HBX.out.cell 3
  have c4 : w1.cell? ⟨w.heap.size, 4, none⟩ = some (.int .i64 s) := HBX.out.cell 4
  have hs1 := HK1.out.size
  have hs2 := HBX.out.lt
  obtain ⟨v2, w2, hrun2, hov2, hgr2, _⟩ := run_append_bytes (w1.alloc (.cells #[.int .u8 ((-h + 60)), .int .u8 ((-m + 60)), .int .u8 ((-s + 60))] 5)) (w.heap.size + 1) _ 4 _ (hown.alloc _) (some ⟨w1.heap.size, 0, none⟩) 3 3 [(-h + 60), (-m + 60), (-s + 60)] (by exact bin_new w1 [(-h + 60), (-m + 60), (-s + 60)] _) rfl (by omega) (by rw [World.size_alloc]; omega)
  have H2 := Lib.hid hrun2
  have HO2 := Lib.hid hov2
  have HK2 := Lib.hid ((HK1.out.alloc _).grown hgr2 (fun k hk' => by have := own_ge hown k hk'; omega))
  have HBX2 := Lib.hid (show Blk w2 w.heap.size 55 #[.bool true, .int .i64 d, .int .i64 h, .int .i64 m, .int .i64 s, .int .i64 n, .int .i64 y, .int .i64 o] from (HBX.out.alloc _).grown hgr2 (fun e => by have := own_ge hown w.heap.size e.symm; omega))
  have c5 : w2.cell? ⟨w.heap.size, 5, none⟩ = some (.int .i64 n) := HBX2.out.cell 5
  clear hown hk hrun2 hov2 hgr2
  go_wp2_with (at_builtin; refine Lib.wpList_append_run _ rfl _ _ _ _ rfl _ _ rfl rfl _ _ H2.out ?_)
  refine (dateFour_any _ (by omega) (by omega) _).mono ?_
  rintro e w3 ⟨rfl, hown, hk⟩
  have hs3 := HK2.out.size
  have hs4 : w2.heap.size < w3.heap.size := by have := (own_lt hown).2; omega
  obtain ⟨v4, w4, hrun4, hov4, hgr4, _⟩ := run_append_bytes w3 (w.heap.size + 1) v2 7 _ (own_below HO2.out hk) (some ⟨w2.heap.size, 0, none⟩) 4 4 (be4 ((-n + 2147483648) % 4294967296)) (bin_of_own hown) rfl (by omega) (by omega)
  have H4 := Lib.hid hrun4
  have HO4 := Lib.hid hov4
  have HK4 := Lib.hid ((HK2.out.trans hk).grown hgr4 (fun k hk' => by have := own_ge HO2.out k hk'; omega))
  clear hown hk hrun4 hov4 hgr4
  go_wp2_with (at_builtin; refine Lib.wpList_append_run _ rfl _ _ _ _ rfl _ _ rfl rfl _ _ H4.out ?_)
  go_ret
  refine ⟨v4, rfl, ?_, HK4.out⟩
  have h := own_base HO4.out (show w.heap.size ≤ w.heap.size + 1 by omega)
  rw [HE.out] at h
  exact h
end Go.Proofs.YtaohgebiedkdaaaDoor
