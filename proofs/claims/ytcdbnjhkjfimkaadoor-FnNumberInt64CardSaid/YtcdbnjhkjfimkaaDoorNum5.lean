/-
  The laws' common end: NumberSame, DecodeInt of one number, numberAwake.
-/
import Derived.Test.YtcdbnjhkjfimkaaDoorNum4
import Derived.Test.YtcdbnjhkjfimkaaDoorNum3
import Derived.Laws.BytesArg
import Derived.Lib.Bytes
namespace Go.Proofs.YtcdbnjhkjfimkaaDoor
open Go Go.RowKit

theorem encode_any (n : Int) (h0 : -9223372036854775808 ≤ n) (h1 : n ≤ 9223372036854775807) (w : World) (ht : Tab w) :
    Calls Tryd.prog 56 #[.int .i64 n] w (EncPost n w) := by
  by_cases h : 0 ≤ n
  · exact encode_pos n.toNat n (by omega) (by omega) h1 w ht
  · exact encode_neg n.natAbs n (by omega) (by omega) h1 (by omega) w ht

set_option maxRecDepth 100000 in
set_option maxHeartbeats 1000000 in
theorem numberOf_any (n : Int) (h0 : -9223372036854775808 ≤ n) (h1 : n ≤ 9223372036854775807) (w : World) (ht : Tab w) :
    Calls Tryd.prog 16 #[.int .i64 n] w (EncPost n w) := by
  have C := Lib.hid (encode_any n h0 h1 w ht)
  clear h0 h1 ht
  go_enter Tryd.func16, Tryd.ntmps16
  go_wp2_with fail
  refine C.out.mono ?_
  rintro r w1 ⟨v, l, rfl, hp⟩
  have H := Lib.hid hp
  clear hp C
  go_wp2
  go_ret
  exact ⟨v, l, rfl, H.out⟩

theorem str_any (w : World) (b o n c : Nat) (xs : List Int) (hx : xs.length = n) (h : Lib.BytesIn w (some ⟨b, o, none⟩) n xs) : (convert 26 9 (.slice (some ⟨b, o, none⟩) n c)).run Tryd.prog w = .ok (.string (strOfNums xs)) w :=
  run_convert_bytes_arg w 26 5 Tryd.underlying26 Tryd.underlying5 b o n c xs hx (bin_at h) 9 Tryd.underlying9

set_option maxRecDepth 100000 in
set_option maxHeartbeats 1000000 in
theorem numberSame_same (b1 o1 b2 o2 n c1 c2 : Nat) (xs : List Int) (w : World) (hx : xs.length = n) (h1 : Lib.BytesIn w (some ⟨b1, o1, none⟩) n xs) (h2 : Lib.BytesIn w (some ⟨b2, o2, none⟩) n xs) :
    Calls Tryd.prog 17 #[.slice (some ⟨b1, o1, none⟩) n c1, .slice (some ⟨b2, o2, none⟩) n c2] w fun r w' => r = .returned (.bool true) ∧ w = w' := by
  have k1 := str_any w b1 o1 n c1 xs hx h1
  have k2 := str_any w b2 o2 n c2 xs hx h2
  have e : ((strOfNums xs).toList == (strOfNums xs).toList) = true := by simp
  generalize strOfNums xs = s at *
  clear hx h1 h2
  go_enter Tryd.func17, Tryd.ntmps17
  go_wp2
  go_ret
  exact ⟨rfl, rfl⟩

theorem from123 (b c : Nat) (hc : 3 ≤ c) (hm : c ≤ maxLen) (w : World) (h : Lib.BytesIn w (some ⟨b, 0, none⟩) 3 [194, 2, 24]) :
    Calls Tryd.prog 92 #[.slice (some ⟨b, 0, none⟩) 3 c] w fun r w' => r = .returned (.tuple #[.int .u64 123, .bool false, .int .i64 0, .int .i64 3, .nilIface]) ∧ w = w' :=
  (fromNumber_false b 0 3 c 66 [1, 23] 2 w rfl rfl (by decide) (by decide) (by decide) (by decide) (by decide) (by decide) hc hm (bin_at h)).mono fun _ _ hp => hp

set_option maxRecDepth 100000 in
set_option maxHeartbeats 1000000 in
theorem decode123 (b c : Nat) (hc : 3 ≤ c) (hm : c ≤ maxLen) (w : World) (h : Lib.BytesIn w (some ⟨b, 0, none⟩) 3 [194, 2, 24]) :
    Calls Tryd.prog 62 #[.slice (some ⟨b, 0, none⟩) 3 c] w fun r w' => r = .returned (.int .i64 123) ∧ w = w' := by
  have C := Lib.hid (from123 b c hc hm w h)
  clear hc hm h
  go_enter Tryd.func62, Tryd.ntmps62
  go_wp2_with fail
  refine C.out.mono ?_
  rintro r w1 ⟨rfl, rfl⟩
  clear C
  go_wp2
  go_loopg [3, 5] 0 (fun g m a wr => g = 0 ∧ m = .int .u64 123 ∧ a = .int .i64 0 ∧ w = wr)
  case atStart => exact ⟨rfl, rfl, rfl, rfl⟩
  case round =>
    obtain ⟨rfl, rfl, rfl, rfl⟩ := hrel
    go_wp2
    go_ret
    exact ⟨rfl, rfl⟩

set_option maxRecDepth 100000 in
set_option maxHeartbeats 1000000 in
theorem numberInt123 (p : Option Addr) (c : Nat) (w : World) (h : Lib.BytesIn w p 3 [194, 2, 24]) :
    Calls Tryd.prog 22 #[.slice p 3 c] w fun r w' => r = .returned (.int .i64 123) ∧ Kp w w' := by
  have HI := Lib.hid h
  clear h
  go_enter Tryd.func22, Tryd.ntmps22
  go_wp2_with fail
  refine (clone_any _ _ _ _ [194, 2, 24] HI.out rfl (by omega)).mono ?_
  rintro r w1 ⟨q, d, rfl, hown, hb⟩
  obtain ⟨g, d', hv, hd1, hd2, hin⟩ := own_pos hown (by omega)
  injection hv with e1 e2 e3
  subst e1 e3
  have HK := Lib.hid (show Kp w w1 from hb)
  have C := Lib.hid (decode123 g d hd1 hd2 w1 hin)
  clear hown hb hin
  go_wp2_with fail
  refine C.out.mono ?_
  rintro r w2 ⟨rfl, rfl⟩
  clear C
  go_wp2
  go_ret
  exact ⟨rfl, HK.out⟩

/-- What EncodeInt64 makes of 123. -/
theorem encL_123 {l : List Int} (h : EncL 123 l) : l = [194, 2, 24] := by
  rcases h with ⟨h, _⟩ | ⟨t, h0, h1, h2, h3, rfl⟩
  · omega
  · have hd : Lib.nDigits (123 : Int).natAbs = 3 := by decide +kernel
    rw [hd] at h1
    rw [hd]
    have : t = 0 ∨ t = 1 ∨ t = 2 := by omega
    rcases this with rfl | rfl | rfl
    · decide +kernel
    · exact absurd h2 (by decide)
    · exact absurd h2 (by decide)

theorem bin_123 (w : World) : Lib.BytesIn (w.alloc (.cells #[.int .u8 194, .int .u8 2, .int .u8 24] 5)) (some ⟨w.heap.size, 0, none⟩) 3 [194, 2, 24] := by
  simpa using bin_new w [194, 2, 24] 5

theorem bin_123b (w : World) (o : Obj) : Lib.BytesIn ((w.alloc o).alloc (.cells #[.int .u8 194, .int .u8 2, .int .u8 24] 5)) (some ⟨w.heap.size + 1, 0, none⟩) 3 [194, 2, 24] := by
  have h := bin_123 (w.alloc o)
  rw [show (w.alloc o).heap.size = w.heap.size + 1 from Array.size_push _] at h
  exact h

set_option maxRecDepth 100000 in
set_option maxHeartbeats 1000000 in
theorem numberAwake_any (w : World) (ht : Tab w) : Calls Tryd.prog 23 #[] w fun r w' => r = .returned (.bool true) ∧ Kp w w' := by
  have C := Lib.hid (numberOf_any 123 (by decide) (by decide) w ht)
  clear ht
  go_enter Tryd.func23, Tryd.ntmps23
  go_wp2_with fail
  refine C.out.mono ?_
  rintro r w1 ⟨v, l, rfl, hown, hk, hl⟩
  rw [encL_123 hl] at hown
  obtain ⟨g, d, rfl, _, _, hin⟩ := own_pos hown (by decide)
  have HI := Lib.hid (show Lib.BytesIn w1 (some ⟨g, 0, none⟩) 3 [194, 2, 24] by simpa using hin)
  have HK := Lib.hid hk
  clear hown hk hin hl C
  go_wp2_with fail
  have hn := bin_123 w1
  refine (numberSame_same _ _ _ _ 3 _ _ [194, 2, 24] _ rfl (bin_alloc HI.out _) hn).mono ?_
  rintro r w2 ⟨rfl, rfl⟩
  clear hn
  go_wp2_with fail
  have hn2 := bin_123b w1 (.cells #[.int .u8 194, .int .u8 2, .int .u8 24] 5)
  refine (numberInt123 _ _ _ hn2).mono ?_
  rintro r w3 ⟨rfl, hk⟩
  have HK3 := Lib.hid (((HK.out.alloc _).alloc _).trans hk)
  clear hk hn2
  go_wp2
  go_ret
  exact ⟨rfl, HK3.out⟩
end Go.Proofs.YtcdbnjhkjfimkaaDoor
