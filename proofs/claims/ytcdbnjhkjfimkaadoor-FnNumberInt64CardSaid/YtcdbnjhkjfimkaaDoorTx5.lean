/-
  NumberToString, Number.String, impl.NumberText; the reference's decimal text.
-/
import Derived.Test.YtcdbnjhkjfimkaaDoorTx4
import Derived.Lib.SlicesS
import Derived.Lib.SlBytesConst
namespace Go.Proofs.YtcdbnjhkjfimkaaDoor
open Go Go.RowKit

set_option maxRecDepth 100000 in
theorem isZero_yes (g c : Nat) (w : World) (h0 : w.cell? ⟨g, 0, none⟩ = some (.int .u8 128)) :
    Calls Tryd.prog 175 #[.slice (some ⟨g, 0, none⟩) 1 c] w (BoolPost true w) := by
  go_enter Tryd.func175, Tryd.ntmps175
  go_wp2
  go_ret
  exact ⟨rfl, rfl⟩
set_option maxRecDepth 100000 in
set_option maxHeartbeats 1000000 in
theorem toBytes_zero (g c : Nat) (w : World) (h0 : w.cell? ⟨g, 0, none⟩ = some (.int .u8 128)) :
    Calls Tryd.prog 136 #[.slice (some ⟨g, 0, none⟩) 1 c] w (TxtPost [48] w) := by
  have C := Lib.hid (isZero_yes g c w h0)
  have hcv := Lib.run_convert_bytes_const (P := Tryd.prog) w 26 5 #[.int .u8 48] 1 1 Tryd.underlying26 Tryd.underlying5
  clear h0
  go_enter Tryd.func136, Tryd.ntmps136
  go_wp2_with fail
  refine C.out.mono ?_
  rintro e w1 ⟨rfl, rfl⟩
  clear C
  go_wp2
  go_ret2
  exact ⟨_, 1, rfl, by simpa using bin_new_m w [48] 5 (1, 2), Nat.le_refl _, (Kp.refl w).alloc _⟩
def NtsPost (T : List Int) (w : World) (e : Ending) (w' : World) : Prop := e = .returned (.tuple #[.string (strOfNums T), .nilIface]) ∧ Kp w w'
set_option maxRecDepth 100000 in
set_option maxHeartbeats 1000000 in
theorem numberToString_of (p : Value) (T : List Int) (w : World) (hT : 1 ≤ T.length) (hT2 : T.length ≤ 1000) (h : Calls Tryd.prog 136 #[p] w (TxtPost T w)) :
    Calls Tryd.prog 93 #[p] w (NtsPost T w) := by
  have C := Lib.hid h
  obtain ⟨m, hm⟩ : ∃ m, m = T.length := ⟨_, rfl⟩
  have HM := Lib.hid hm
  have m1 : (1 : Int) ≤ (m : Int) := by omega
  have m2 : (m : Int) ≤ 1000 := by omega
  clear h hT hT2 hm
  go_enter Tryd.func93, Tryd.ntmps93
  go_wp2_with fail
  refine C.out.mono ?_
  rintro e w1 ⟨g, c, rfl, hb, hc, hk⟩
  have k1 := str_any w1 g 0 T.length c T rfl hb
  rw [← HM.out] at k1 hc ⊢
  have HK := Lib.hid hk
  have HC := Lib.hid hc
  clear C hb hk hc
  go_wp2
  go_ret2
  exact ⟨rfl, HK.out⟩
set_option maxRecDepth 100000 in
set_option maxHeartbeats 1000000 in
theorem string_of (B g n c : Nat) (T : List Int) (w : World) (hb : w.cell? ⟨B, 0, none⟩ = some (.slice (some ⟨g, 0, none⟩) n c)) (hT : 1 ≤ T.length) (hT2 : T.length ≤ 1000) (h : Calls Tryd.prog 136 #[.slice (some ⟨g, 0, none⟩) n c] w (TxtPost T w)) :
    Calls Tryd.prog 63 #[.pointer (some ⟨B, 0, none⟩)] w (NtsPost T w) := by
  have C := Lib.hid (numberToString_of _ T w hT hT2 h)
  clear h hT hT2
  go_enter Tryd.func63, Tryd.ntmps63
  go_wp2_with fail
  refine C.out.mono ?_
  rintro e w1 ⟨rfl, hk⟩
  have HK := Lib.hid hk
  clear C hk
  go_wp2
  go_ret2
  exact ⟨rfl, HK.out⟩
set_option maxRecDepth 100000 in
theorem newNumber_any (g n c : Nat) (w : World) :
    Calls Tryd.prog 60 #[.slice (some ⟨g, 0, none⟩) n c] w fun e w' => e = .returned (.pointer (some ⟨w.heap.size, 0, none⟩)) ∧ w' = w.alloc (.cells #[.slice (some ⟨g, 0, none⟩) n c] 156) := by
  go_enter Tryd.func60, Tryd.ntmps60
  go_wp2
  go_ret
  exact ⟨rfl, rfl⟩
/-- Whatever bytes stand at a block are turned into this text. -/
def TextIs (l T : List Int) : Prop := ∀ (w : World) (g c : Nat), (∀ i, i < l.length → w.cell? ⟨g, i, none⟩ = some (.int .u8 (l.getD i 0))) → l.length ≤ c → Calls Tryd.prog 136 #[.slice (some ⟨g, 0, none⟩) l.length c] w (TxtPost T w)
def NtPost (T : List Int) (w : World) (e : Ending) (w' : World) : Prop := e = .returned (.tuple #[.string (strOfNums T), .bool true]) ∧ Kp w w'
set_option maxRecDepth 100000 in
set_option maxHeartbeats 1000000 in
theorem numberText_of (p : Option Addr) (n c : Nat) (l T : List Int) (w : World) (h : Lib.BytesIn w p n l) (hl : l.length = n) (hn : 1 ≤ n) (hn2 : n ≤ 1000) (hT : 1 ≤ T.length) (hT2 : T.length ≤ 1000) (ht : TextIs l T) :
    Calls Tryd.prog 25 #[.slice p n c] w (NtPost T w) := by
  have C := Lib.hid (clone_any w p n c l h hl (by omega))
  have HT := Lib.hid (And.intro hT (And.intro hT2 ht))
  have HL := Lib.hid (And.intro hl hn)
  clear h hl hn hn2 hT hT2 ht
  go_enter Tryd.func25, Tryd.ntmps25
  go_wp2_with fail
  refine C.out.mono ?_
  rintro e w1 ⟨q, d, rfl, hown, hk⟩
  obtain ⟨g, d2, hv, hd1, _, hin⟩ := own_pos hown HL.out.2
  injection hv with e1 e2 e3
  subst e1 e3
  have HK1 := Lib.hid (show Kp w w1 from hk)
  have HD := Lib.hid hd1
  have HC := Lib.hid (bin_cells hin)
  clear hown hk hin hd1 C
  go_wp2_with fail
  refine (newNumber_any g n d w1).mono ?_
  rintro e w2 ⟨rfl, hw2⟩
  have hb : w2.cell? ⟨w1.heap.size, 0, none⟩ = some (.slice (some ⟨g, 0, none⟩) n d) := by
    rw [hw2]; exact (Blk.new w1 _ _).cell 0
  have HK2 := Lib.hid (show Kp w1 w2 from hw2 ▸ (Kp.refl w1).alloc _)
  have CS := Lib.hid (string_of w1.heap.size g n d T w2 hb HT.out.1 HT.out.2.1 (by
    have h := HT.out.2.2 w2 g d (fun i hi => by
      have h := HC.out i (by rw [← HL.out.1]; exact hi)
      rw [Nat.zero_add] at h
      exact below_some HK2.out h) (by rw [HL.out.1]; exact HD.out)
    rw [HL.out.1] at h
    exact h))
  clear hw2 hb
  go_wp2_with fail
  refine CS.out.mono ?_
  rintro e w3 ⟨rfl, hk⟩
  have HK3 := Lib.hid ((HK1.out.trans HK2.out).trans hk)
  clear hk CS
  go_wp2_with fail
  go_quiet (fail)
  go_wp2_with fail
  go_ret2
  exact ⟨rfl, HK3.out.drewN _⟩

/-- The text of a decimal number, as the reference makes it. -/
def decT (neg : Bool) (N : Nat) : List UInt8 := (if neg then [45] else []) ++ Lib.decDigits N
def DecPost (neg : Bool) (N : Nat) (w : World) (e : Ending) (w' : World) : Prop := ∃ s : ByteArray, e = .returned (.string s) ∧ s.data.toList = decT neg N ∧ Kp w w'
theorem enc_dig (y : Nat) (h : y ≤ 9) : (Utf8.encode (48 + (y : Int))).data.toList = [UInt8.ofNat (48 + y)] := by
  have : ∀ i : Fin 10, (Utf8.encode (48 + (i.val : Int))).data.toList = [UInt8.ofNat (48 + i.val)] := by decide +kernel
  have h1 := this ⟨y, by omega⟩
  dsimp only at h1
  exact h1
theorem dg_is (N i y : Nat) (h : N / 10 ^ i % 10 = y) : UInt8.ofNat (48 + y) = Lib.dg N i := by unfold Lib.dg; rw [h]
theorem cat_data (a b : ByteArray) : (a ++ b).data.toList = a.data.toList ++ b.data.toList := by simp [ByteArray.data_append]
set_option maxRecDepth 100000 in
set_option maxHeartbeats 2000000 in
theorem numberDecimal_any (N : Nat) (neg : Bool) (hN : N ≤ 9223372036854775808) (w : World) :
    Calls Tryd.prog 28 #[.int .u64 (N : Int), .bool neg] w (DecPost neg N w) := by
  have HN := Lib.hid hN
  clear hN
  go_enter Tryd.func28, Tryd.ntmps28
  go_wp2_with fail
  go_loopg [0, 5] (Lib.nDigits N) (fun G s0 s5 wr => ∃ (i : Nat) (s : ByteArray), Lib.nDigits N - i = G ∧ s0 = .int .u64 ((N / 10 ^ i : Nat) : Int) ∧ s5 = .string s ∧ s.data.toList = dgL N i ∧ i < Lib.nDigits N ∧ (0 < i → 0 < N / 10 ^ i) ∧ Kp w wr)
  case atStart => exact ⟨0, _, rfl, by simp, rfl, rfl, Lib.nDigits_pos N, fun h => absurd h (Nat.lt_irrefl _), Kp.refl w⟩
  case round =>
    obtain ⟨i, s, rfl, rfl, rfl, hs, hi, hp, hk⟩ := hrel
    have HK := Lib.hid hk
    have HS := Lib.hid hs
    have hss : s.size = i := by
      have h1 : s.data.toList.length = s.size := rfl
      rw [← h1, hs, dgL_length]
    have hnd : Lib.nDigits N ≤ 19 := nDigits_le 18 N (by have := HN.out; omega)
    obtain ⟨M, hM⟩ : ∃ M, M = N / 10 ^ i := ⟨_, rfl⟩
    rw [← hM] at hp ⊢
    have hMb : M ≤ 9223372036854775808 := by rw [hM]; exact Nat.le_trans (Nat.div_le_self _ _) HN.out
    have m1 : (M : Int) ≤ 9223372036854775808 := by omega
    have s0 : (s.size : Int) ≤ 19 := by omega
    obtain ⟨y, hy⟩ : ∃ y : Nat, M % 10 = y := ⟨_, rfl⟩
    have y0 : (M : Int) % 10 = (y : Int) := by omega
    have y1 : (y : Int) ≤ 9 := by omega
    have y2 : (0 : Int) ≤ (y : Int) := by omega
    have hE := enc_dig y (by omega)
    obtain ⟨E, hEE⟩ : ∃ E, Utf8.encode (48 + (y : Int)) = E := ⟨_, rfl⟩
    rw [hEE] at hE
    have e0 : E.size = 1 := by
      have h1 : E.data.toList.length = E.size := rfl
      rw [← h1, hE]; rfl
    have e1 : (E.size : Int) ≤ 1 := by omega
    have HDG := Lib.hid (show (E ++ s).data.toList = dgL N (i + 1) from by
      rw [cat_data, hE, hs, dgL_succ, ← dg_is N i y (by rw [← hM]; exact hy)]
      rfl)
    by_cases h10 : 10 ≤ M
    · have c0 : (10 : Int) ≤ (M : Int) := by omega
      have hq : M / 10 = N / 10 ^ (i + 1) := by rw [hM, Nat.pow_succ, Nat.div_div_eq_div_mul]
      obtain ⟨M2, hM2⟩ : ∃ M2, M2 = M / 10 := ⟨_, rfl⟩
      have q0 : (M : Int) / 10 = (M2 : Int) := by omega
      have HQ := Lib.hid (show M2 = N / 10 ^ (i + 1) by rw [hM2, hq])
      have HLT := Lib.hid (show i + 1 < Lib.nDigits N from lt_nDigits (by rw [← hq]; omega))
      have HPS := Lib.hid (show 0 < M2 from by omega)
      clear hs hi hp hk hss hnd hM hMb hy hE e0 h10 hq hM2
      go_wp2_with fail
      go_roundg (Lib.nDigits N - (i + 1))
      case measure => have := HLT.out; omega
      case rel => exact ⟨i + 1, E ++ s, rfl, by rw [← HQ.out], rfl, HDG.out, HLT.out, fun _ => by rw [← HQ.out]; exact HPS.out, HK.out⟩
    · have c0 : ¬ (10 : Int) ≤ (M : Int) := by omega
      have hym : y = M := by omega
      subst hym
      have HI := Lib.hid (show Lib.nDigits N = i + 1 from by
        rcases Nat.eq_zero_or_pos i with h | h
        · subst h
          have h1 : y = N := by rw [hM]; simp
          exact Lib.nDigits_small (by omega)
        · exact Lib.nDigits_unique i N (by
            have := hp h
            rw [hM] at this
            have h2 := Nat.div_mul_le_self N (10 ^ i)
            have h3 := Nat.mul_le_mul_right (10 ^ i) this
            omega) (by
            rw [Nat.pow_succ, Nat.mul_comm]
            have h2 : N / 10 ^ i < 10 := by rw [← hM]; omega
            exact (Nat.div_lt_iff_lt_mul (Nat.pow_pos (by decide))).1 h2))
      have HPOST := Lib.hid (show ∀ wr, Kp w wr → ∀ x : ByteArray, x.data.toList = (if neg then [45] else []) ++ (E ++ s).data.toList → DecPost neg N w (.returned (.string x)) wr from fun wr hk x hx => ⟨x, rfl, by rw [hx, HDG.out, decT, dec_dgL, HI.out], hk⟩)
      clear hs hi hp hk hnd hM hMb hy hE h10 y0
      cases neg
      · go_wp2_with fail
        go_ret
        exact HPOST.out _ HK.out _ rfl
      · go_wp2_with fail
        go_ret
        exact HPOST.out _ HK.out _ (by rw [cat_data]; rfl)
end Go.Proofs.YtcdbnjhkjfimkaaDoor
