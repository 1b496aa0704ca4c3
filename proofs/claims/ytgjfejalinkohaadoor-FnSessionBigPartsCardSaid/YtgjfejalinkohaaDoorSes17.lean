/-
  spec.SessionPacked and spec.SessionClr: they give the forms of Ses0.
-/
import Derived.Test.YtgjfejalinkohaaDoorSes16
import Derived.Ground.SlgnProg
import Derived.Shelf.SlicesE.Reverse
import Derived.Lib.RowBridge
namespace Go.Proofs
open Go.Shelf
def Tryd.laysRev_ren : Go.Shelf.Ren := ⟨fun | 35 => 79 | n => n, fun | 22 => 23 | 23 => 5 | 3 => 3 | 4 => 4 | 0 => 0 | n => n, fun | n => n⟩
theorem Tryd.laysRev : Go.Proofs.SlLaysE.n35 Tryd.prog Tryd.laysRev_ren := {
  mixed := by kernel_rfl
  f35 := ⟨Tryd.f79.name, by decide, Tryd.func79.trans (congrArg some (by kernel_rfl))⟩
  t0 := Tryd.underlying0
  a0 := Tryd.isAgg0
  z0 := Tryd.sizeOf0
  v0 := Tryd.zeroValue0
  t3 := Tryd.underlying3
  a3 := Tryd.isAgg3
  z3 := Tryd.sizeOf3
  v3 := Tryd.zeroValue3
  t4 := Tryd.underlying4
  a4 := Tryd.isAgg4
  z4 := Tryd.sizeOf4
  v4 := Tryd.zeroValue4
  t22 := Tryd.underlying23
  a22 := Tryd.isAgg23
  z22 := Tryd.sizeOf23
  v22 := Tryd.zeroValue23
  a23 := Tryd.isAgg5
  z23 := Tryd.sizeOf5 }
open Go.RowKit Go.Lib Go.Sort in
theorem Tryd.slices_Reverse_u8 (blk off cap : Nat) (zs : List Int) (w : World) (hH : Holds (Value.int .u8) w blk off zs.toArray) (hsz : zs.length ≤ 9223372036854775807) :
    Calls Tryd.prog 79 #[.slice (some ⟨blk, off, none⟩) zs.length cap] w fun e w' => e = .returned (.tuple #[]) ∧ ∃ n, w' = putRow (Value.int .u8) (Sort.ahead w n) blk off zs.reverse.toArray := AnyE.slices_Reverse Tryd.laysRev (Value.int .u8) (fun _ => rfl) blk off cap zs w hH hsz
end Go.Proofs
namespace Go.Proofs.YtgjfejalinkohaaDoor
open Go Go.RowKit

theorem setAll_all {α : Type} : ∀ (vs xs : List α) (ps : List α), vs.length = xs.length → setAll (ps ++ xs) ps.length vs = ps ++ vs
  | [], xs, ps, h => by have : xs = [] := List.eq_nil_of_length_eq_zero h.symm; subst this; rfl
  | v :: vs, [], ps, h => by simp at h
  | v :: vs, x :: xs, ps, h => by
    have := setAll_all vs xs (ps ++ [v]) (by simpa using h)
    simpa [setAll] using this
/-- slices.Reverse of bytes that are one's own. -/
theorem reverse_own (w : World) (base : Nat) (v : Value) (n : Nat) (xs : List Int) (h : w.ownsRow base 5 1 v n (xs.map (Value.int .u8))) (hx : xs.length = n) (hn : 0 < n) (hm : n ≤ 1000000) :
    Calls Tryd.prog 79 #[v] w fun e w' => e = .returned (.tuple #[]) ∧ w'.ownsRow base 5 1 v n (xs.reverse.map (Value.int .u8)) ∧ w.grownBy w' v.ownBlock := by
  obtain ⟨g, cap, rfl⟩ : ∃ g cap, v = .slice (some ⟨g, 0, none⟩) n cap := by
    obtain ⟨g, cap, rfl, _⟩ := own_pos h hn
    exact ⟨g, cap, rfl⟩
  subst hx
  have hH : Go.Sort.Holds (Value.int .u8) w g 0 xs.toArray := fun j hj => by
    have hj' : j < xs.length := by simpa using hj
    refine ⟨?_, ?_⟩
    · have := own_cell h j hj'
      simpa using this
    · simpa using h.frozenAt j
  refine (Tryd.slices_Reverse_u8 g 0 cap xs w hH (by omega)).mono ?_
  rintro e w' ⟨rfl, q, rfl⟩
  refine ⟨rfl, ?_⟩
  rw [Lib.putRow_eq_setCells (Value.int .u8) w g 0 xs.toArray xs.reverse q hH (by simp)]
  obtain ⟨h1, h2⟩ := own_setCells (xs.reverse.map (Value.int .u8)) 0 (w.drewN q) (xs.map (Value.int .u8)) (show (w.drewN q).ownsRow base 5 1 _ _ _ from h)
  have e1 := setAll_all (xs.reverse.map (Value.int .u8)) (xs.map (Value.int .u8)) [] (by simp)
  simp only [List.nil_append, List.length_nil] at e1
  rw [e1] at h1
  exact ⟨h1, grown_trans (grown_drewN (World.grownBy.refl w _) q) h2⟩

theorem sl_step (k n : Nat) (h : 0 < n) : sl (k + 1) n = ((n % 256 : Nat) : Int) :: sl k (n / 256) := by simp [sl]; omega
set_option maxRecDepth 100000 in
set_option maxHeartbeats 4000000 in
theorem specPacked_any (v : Nat) (w : World) (hv : v < 18446744073709551616) :
    Calls Tryd.prog 45 #[.int .u64 (v : Int)] w fun e w' => ∃ x, e = .returned x ∧ w'.ownsRow w.heap.size 5 1 x (packed v).length ((packed v).map (Value.int .u8)) ∧ Below w.heap.size w w' := by
  have i0 : (0 : Int) ≤ (v : Int) := by omega
  have i1 : (v : Int) ≤ 18446744073709551615 := by omega
  have HV := Lib.hid hv
  clear hv
  go_enter Tryd.func45, Tryd.ntmps45
  go_wp2_with fail
  go_loopg [0, 3] 8 (fun G st sm wr => ∃ (n : Nat) (acc : List Int) (x : Value), st = .int .u64 (n : Int) ∧ x = sm ∧ n < 256 ^ G ∧ G ≤ 8 ∧ acc ++ sl G n = sl 8 v ∧ acc.length + G = 8 ∧ wr.ownsRow w.heap.size 5 1 x acc.length (acc.map (Value.int .u8)) ∧ Kp w wr)
  case atStart => exact ⟨v, [], _, rfl, rfl, HV.out, Nat.le_refl _, rfl, rfl, World.ownsRow_nil _ _ _ _, Kp.refl w⟩
  case round =>
    obtain ⟨n, acc, x, rfl, rfl, hn, hG, ha, hal, hown, hkp⟩ := hrel
    have HN := Lib.hid hn
    have HG := Lib.hid hG
    have HA := Lib.hid ha
    have HAL := Lib.hid hal
    have HO := Lib.hid hown
    have HK := Lib.hid hkp
    have j0 : (0 : Int) ≤ (n : Int) := by omega
    have j1 : (n : Int) ≤ 18446744073709551615 := by
      have : n < 256 ^ 8 := Nat.lt_of_lt_of_le hn (Nat.pow_le_pow_right (by omega) hG)
      omega
    clear hn hG ha hal hown hkp
    rcases Nat.eq_zero_or_pos n with h0 | h0
    · subst h0
      obtain ⟨m, hm⟩ : ∃ m, m = acc.length := ⟨_, rfl⟩
      have hacc : acc = sl 8 v := by have := HA.out; rwa [sl_zero, List.append_nil] at this
      have k0 : (0 : Int) ≤ (m : Int) := by omega
      have k1 : (m : Int) ≤ 8 := by have := HAL.out; omega
      have HOm := Lib.hid (show wr.ownsRow w.heap.size 5 1 x m (acc.map (Value.int .u8)) from hm ▸ HO.out)
      obtain ⟨q0, c0, rfl⟩ : ∃ q c, x = .slice q m c := by obtain ⟨q, c, h, _⟩ := bin_own HOm.out; exact ⟨q, c, h⟩
      obtain ⟨v', w', hrun, hov, hgr, _⟩ := run_append_bytes (wr.alloc (.cells #[.int .u8 (m : Int)] 5)) w.heap.size (.slice q0 m c0) m acc (own_below HOm.out (Kp.alloc (Kp.refl wr) _)) (some ⟨wr.heap.size, 0, none⟩) 1 1 [(m : Int)] (bin_new wr [(m : Int)] _) rfl (by omega) (Kp.alloc HK.out _).size
      have HRUN := Lib.hid hrun
      have HOV := Lib.hid hov
      have HKV := Lib.hid (show Kp w w' from (HK.out.alloc _).grown hgr (own_ge HOm.out))
      have HE := Lib.hid (show (acc ++ [(m : Int)]).reverse = packed v ∧ m + 1 = (packed v).length from by
        rw [hacc] at hm ⊢
        have : (packed v).length = (sl 8 v).length + 1 := by simp [packed, sig]
        exact ⟨by simp [packed, sig, hm], by omega⟩)
      have HXL := Lib.hid (show (acc ++ [(m : Int)]).length = m + 1 from by simp [hm])
      obtain ⟨q, c, rfl⟩ : ∃ q c, v' = .slice q (m + 1) c := by obtain ⟨q, c, h, _⟩ := bin_own hov; exact ⟨q, c, h⟩
      clear hrun hov hgr hacc hm
      go_wp2_with (at_builtin; refine Lib.wpList_append_run _ rfl _ _ _ _ rfl _ _ rfl rfl _ _ HRUN.out ?_)
      refine (reverse_own _ _ _ _ _ HOV.out HXL.out (by omega) (by omega)).mono ?_
      rintro e w2 ⟨rfl, hown2, hg2⟩
      have HO2 := Lib.hid hown2
      have HK2 := Lib.hid (HKV.out.grown hg2 (own_ge HOV.out))
      clear hown2 hg2
      go_wp2_with fail
      go_ret
      have h2 := HO2.out
      rw [HE.out.1] at h2
      exact ⟨.slice q (m + 1) c, rfl, by rw [← HE.out.2]; exact h2, HK2.out⟩
    · have j2 : (0 : Int) < (n : Int) := by omega
      have hsl : acc ++ [((n % 256 : Nat) : Int)] ++ sl (gk - 1) (n / 256) = sl 8 v ∧ 0 < gk := by
        rcases gk with _ | g
        · have := HN.out; simp at this; omega
        · refine ⟨?_, by omega⟩
          rw [← HA.out, sl_step g n h0]; simp
      obtain ⟨v', w', hrun, hov, hgr, _⟩ := run_append_bytes (wr.alloc (.cells #[.int .u8 ((n : Int) % 256)] 5)) w.heap.size x acc.length acc (own_below HO.out (Kp.alloc (Kp.refl wr) _)) (some ⟨wr.heap.size, 0, none⟩) 1 1 [(n : Int) % 256] (bin_new wr [(n : Int) % 256] _) rfl (by have := HAL.out; omega) (Kp.alloc HK.out _).size
      have HRUN := Lib.hid hrun
      have HOV := Lib.hid hov
      have HKV := Lib.hid (show Kp w w' from (HK.out.alloc _).grown hgr (own_ge HO.out))
      have HSL := Lib.hid hsl
      clear hrun hov hgr hsl
      go_wp2_with (at_builtin; refine Lib.wpList_append_run _ rfl _ _ _ _ rfl _ _ rfl rfl _ _ HRUN.out ?_)
      go_roundg (gk - 1)
      case measure => have := HSL.out.2; omega
      case rel => exact ⟨n / 256, acc ++ [((n % 256 : Nat) : Int)], v', by go_num, rfl, by
        have h1 := HN.out
        have h2 := HSL.out.2
        obtain ⟨g, rfl⟩ : ∃ g, gk = g + 1 := ⟨gk - 1, by omega⟩
        rw [Nat.pow_succ] at h1
        simp only [Nat.add_sub_cancel]
        exact Nat.div_lt_of_lt_mul (by omega), by have := HG.out; omega, HSL.out.1, by have := HAL.out; have := HSL.out.2; simp; omega, by
        have := HOV.out
        simpa using this, HKV.out⟩
end Go.Proofs.YtgjfejalinkohaaDoor
