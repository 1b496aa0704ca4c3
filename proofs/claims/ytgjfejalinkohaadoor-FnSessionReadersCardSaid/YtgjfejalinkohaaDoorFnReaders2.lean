/-
  FnSessionReaders, whatever comes in.
-/
import Derived.Test.YtgjfejalinkohaaDoorFnReaders
namespace Go.Proofs.YtgjfejalinkohaaDoor
open Go Go.RowKit

set_option maxRecDepth 100000 in
set_option maxHeartbeats 4000000 in
theorem fnReaders_long (bb oo n c s sz : Nat) (xs : List Int) (big : Bool) (w : World) (hi : Lib.BytesIn w (some ⟨bb, oo, none⟩) n xs) (hx : xs.length = n) (hb : ∀ x ∈ xs, 0 ≤ x ∧ x < 256) (hn0 : 0 < n) (hn : n ≤ 1000) (hs : s < 256) (hsz : sz = partSize s) (hlong : 8 < (xs.getD 0 0) % 128) :
    Calls Tryd.prog 4 #[.slice (some ⟨bb, oo, none⟩) n c, .int .u8 (s : Int), .bool big, .bool true] w fun e w' => e = .returned (.bool true) ∧ Below w.heap.size w w' := by
  have i0 : (0 : Int) < (n : Int) := by omega
  have i1 : (n : Int) ≤ 1000 := by omega
  have i2 : (0 : Int) ≤ (s : Int) := by omega
  have i3 : (s : Int) < 256 := by omega
  have e0 : ((n : Int) == 0) = false := by simp; omega
  obtain ⟨b0, hb0⟩ : ∃ b0, b0 = xs.getD 0 0 := ⟨_, rfl⟩
  rw [← hb0] at hlong
  have hb0m : 0 ≤ b0 ∧ b0 < 256 := by
    rw [hb0, List.getD_eq_getElem?_getD, List.getElem?_eq_getElem (by omega)]
    exact hb _ (List.getElem_mem _)
  have HA0 := Lib.hid (and127b b0 hb0m.1 hb0m.2)
  have HLG := Lib.hid hlong
  have HC0 := Lib.hid (fun (w1 : World) (hk : Kp w w1) => (show w1.cell? ⟨bb, oo, none⟩ = some (.int .u8 b0) from by
    obtain ⟨b', o', he, hc⟩ := bin_kp hi hk (by omega)
    injection he with he
    injection he with h1 h2
    subst h1 h2
    rw [hb0]; exact hc 0 (by omega)))
  have HPS := Lib.hid hsz
  clear hi hx hb hn0 hn hsz hlong hb0 hb0m
  go_enter Tryd.func4, Tryd.ntmps4
  go_upto_region 5 with (fail)
  go_cut [9] (fun s9 wx => s9 = .int .i64 (sz : Int) ∧ Kp w wx)
  case first =>
    obtain h4 | h4 | h4 | h4 : s % 4 = 0 ∨ s % 4 = 1 ∨ s % 4 = 2 ∨ s % 4 = 3 := by omega
    all_goals
      have HS4 := Lib.hid (show partSize s = _ from by simp only [partSize, h4]; rfl)
    · have e4 : (s : Int) % 4 = 0 := by omega
      clear h4
      go_wp2_with fail
      go_meet
      exact ⟨by rw [HPS.out, HS4.out]; rfl, (Kp.refl w).alloc _⟩
    · have e4 : (s : Int) % 4 = 1 := by omega
      clear h4
      go_wp2_with fail
      go_meet
      exact ⟨by rw [HPS.out, HS4.out]; rfl, (Kp.refl w).alloc _⟩
    · have e4 : (s : Int) % 4 = 2 := by omega
      clear h4
      go_wp2_with fail
      go_meet
      exact ⟨by rw [HPS.out, HS4.out]; rfl, (Kp.refl w).alloc _⟩
    · have e4 : (s : Int) % 4 = 3 := by omega
      clear h4
      go_wp2_with fail
      go_meet
      exact ⟨by rw [HPS.out, HS4.out]; rfl, (Kp.refl w).alloc _⟩
  case rest =>
    obtain ⟨rfl, hkc⟩ := hcut
    have KD := Lib.hid hkc
    clear hkc
    have m0 : 8 < b0 % 128 := HLG.out
    have m2 := HA0.out
    have c0 := HC0.out wc KD.out
    go_wp2_with fail
    refine (sessionLive_any _).mono ?_
    rintro e wl ⟨rfl, hbl⟩
    have HBL := Lib.hid hbl
    clear hbl
    go_wp2_with fail
    go_ret
    exact ⟨rfl, KD.out.call HBL.out⟩
set_option maxRecDepth 100000 in
set_option maxHeartbeats 4000000 in
theorem fnReaders_any (q : Option Addr) (n c s : Nat) (xs : List Int) (big comp : Bool) (w : World) (tp : TypeId) (ad : Addr) (hi : Lib.BytesIn w q n xs) (hx : xs.length = n) (hb : ∀ x ∈ xs, 0 ≤ x ∧ x < 256) (hnc : n ≤ c) (hcm : c ≤ maxLen) (hs : s < 256) (he : EndAt w tp ad) :
    Calls Tryd.prog 4 #[.slice q n c, .int .u8 (s : Int), .bool big, .bool comp] w fun e w' => e = .returned (.bool true) ∧ Below w.heap.size w w' := by
  by_cases h0 : 0 < n ∧ n ≤ 1000
  · obtain ⟨bb, oo, rfl, _⟩ := hi h0.1
    by_cases hl : comp = true → (xs.getD 0 0) % 128 ≤ 8
    · rcases rd_or_torn (partSize s) comp big xs (partSize_pos s).1 (partSize_pos s).2 (by omega) hb hl with ⟨x, r, hv⟩ | hv
      · exact fnReaders_read bb oo n c s _ xs big comp w hi hx hb h0.1 h0.2 hnc hcm hs rfl hl x r hv
      · exact fnReaders_torn bb oo n c s _ xs big comp w hi hx hb h0.1 h0.2 hnc hcm hs rfl hl tp ad he hv
    · cases comp
      · exact absurd (fun h => by cases h) hl
      · exact fnReaders_long bb oo n c s _ xs big w hi hx hb h0.1 h0.2 hs rfl (by
          by_cases h : (xs.getD 0 0) % 128 ≤ 8
          · exact absurd (fun _ => h) hl
          · omega)
  · have hm : n ≤ 9223372036854775807 := by unfold maxLen at hcm; omega
    clear hi hx hb hnc hcm hs he
    by_cases h1 : n ≤ 2147483647
    · have i1 : (n : Int) ≤ 2147483647 := by omega
      by_cases h2 : n = 0
      · subst h2
        clear h0 h1 hm
        go_enter Tryd.func4, Tryd.ntmps4
        go_wp2_with fail
        refine (sessionLive_any _).mono ?_
        rintro e wl ⟨rfl, hbl⟩
        have HBL := Lib.hid hbl
        clear hbl
        go_wp2_with fail
        go_ret
        exact ⟨rfl, HBL.out⟩
      · have i2 : (1000 : Int) < (n : Int) := by omega
        have e0 : ((n : Int) == 0) = false := by simp; omega
        clear h0 h1 hm h2
        go_enter Tryd.func4, Tryd.ntmps4
        go_wp2_with fail
        refine (sessionLive_any _).mono ?_
        rintro e wl ⟨rfl, hbl⟩
        have HBL := Lib.hid hbl
        clear hbl
        go_wp2_with fail
        go_ret
        exact ⟨rfl, HBL.out⟩
    · have i1 : (2147483647 : Int) < (n : Int) := by omega
      have i2 : (n : Int) ≤ 9223372036854775807 := by omega
      clear h0 h1 hm
      go_enter Tryd.func4, Tryd.ntmps4
      go_wp2_with fail
      go_ret
      exact ⟨rfl, Below.refl _ _⟩
end Go.Proofs.YtgjfejalinkohaaDoor
