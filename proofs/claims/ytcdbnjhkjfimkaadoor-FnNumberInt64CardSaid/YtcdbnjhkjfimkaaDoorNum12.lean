/-
  EncodeInt: as EncodeInt64.
-/
import Derived.Test.YtcdbnjhkjfimkaaDoorNum6
namespace Go.Proofs.YtcdbnjhkjfimkaaDoor
open Go Go.RowKit

set_option maxRecDepth 100000 in
set_option maxHeartbeats 1000000 in
theorem encodeInt_any (n : Int) (h0 : -9223372036854775808 ≤ n) (h1 : n ≤ 9223372036854775807) (w : World) (ht : Tab w) :
    Calls Tryd.prog 59 #[.int .i64 n] w (EncPost n w) := by
  have C := Lib.hid (encode_any n h0 h1 w ht)
  have wn : IntKind.i64.wrap n = n := by
    rw [IntKind.wrap_i64]
    omega
  clear ht
  go_enter Tryd.func59, Tryd.ntmps59
  go_wp2_with fail
  refine C.out.mono ?_
  rintro r w1 ⟨v, l, rfl, hp⟩
  have H := Lib.hid hp
  clear hp C
  go_wp2
  go_ret
  exact ⟨v, l, rfl, H.out⟩

set_option maxRecDepth 100000 in
set_option maxHeartbeats 1000000 in
theorem numberOfInt_any (n : Int) (h0 : -9223372036854775808 ≤ n) (h1 : n ≤ 9223372036854775807) (w : World) (ht : Tab w) :
    Calls Tryd.prog 19 #[.int .i64 n] w (EncPost n w) := by
  have C := Lib.hid (encodeInt_any n h0 h1 w ht)
  clear h0 h1 ht
  go_enter Tryd.func19, Tryd.ntmps19
  go_wp2_with fail
  refine C.out.mono ?_
  rintro r w1 ⟨v, l, rfl, hp⟩
  have H := Lib.hid hp
  clear hp C
  go_wp2
  go_ret
  exact ⟨v, l, rfl, H.out⟩

theorem encL_same {n : Int} {l l' : List Int} (h : EncL n l) (h' : EncL n l') : l = l' := by
  rcases h with ⟨h0, rfl⟩ | ⟨t, h0, h1, h2, h3, rfl⟩
  · rcases h' with ⟨_, rfl⟩ | ⟨_, h0', _⟩
    · rfl
    · omega
  · rcases h' with ⟨h0', _⟩ | ⟨t', _, h1', h2', h3', rfl⟩
    · omega
    · have hq : n.natAbs = n.natAbs / 10 ^ t * 10 ^ t := by
        have := Nat.div_add_mod n.natAbs (10 ^ t)
        rw [h2, Nat.add_zero, Nat.mul_comm] at this
        exact this.symm
      rw [hq] at h2' h3'
      rw [tz_unique h3 h2' h3']

set_option maxRecDepth 100000 in
set_option maxHeartbeats 1000000 in
theorem numberOwn_any (p : Option Addr) (n c : Nat) (xs : List Int) (w : World) (hi : Lib.BytesIn w p n xs) (hx : xs.length = n) (hn : n ≤ 100000) :
    Calls Tryd.prog 21 #[.slice p n c] w fun r w' => ∃ v, r = .returned v ∧ w'.ownsRow w.heap.size 5 1 v n (xs.map (Value.int .u8)) ∧ Kp w w' := by
  obtain ⟨v1, w1, hrun, hov, hgr, _⟩ := run_append_bytes (w.alloc (.cells #[] 5)) w.heap.size _ 0 [] (by exact own_new w [] _ (by simp [maxLen])) p n c xs (bin_alloc hi _) hx (by omega) (by simp)
  have H1 := Lib.hid hrun
  rw [Nat.zero_add, List.nil_append] at hov
  have HO1 := Lib.hid hov
  have HK1 := Lib.hid (((Kp.refl w).alloc _).grown hgr (fun k' hk' => own_ge (own_new w [] 5 (by simp [maxLen])) k' hk'))
  clear hrun hov hgr hi hx
  go_enter Tryd.func21, Tryd.ntmps21
  go_wp2_with (at_builtin; refine Lib.wpList_append_run _ rfl _ _ _ _ rfl _ _ rfl rfl _ _ H1.out ?_)
  go_ret
  exact ⟨v1, rfl, HO1.out, HK1.out⟩
end Go.Proofs.YtcdbnjhkjfimkaaDoor
