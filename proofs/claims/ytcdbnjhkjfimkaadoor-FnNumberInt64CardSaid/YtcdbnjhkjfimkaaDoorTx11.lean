/-
  FnNumberTexts: the law's own walk.
-/
import Derived.Test.YtcdbnjhkjfimkaaDoorTx10
namespace Go.Proofs.YtcdbnjhkjfimkaaDoor
open Go Go.RowKit

theorem natI_dec (neg : Bool) (N D : Nat) (hD : D = Lib.nDigits N) : natI (decT neg N) = (if neg then [45] else []) ++ digI N D := by
  unfold decT natI
  rw [dec_dgL, ← hD, List.map_append]
  cases neg <;> rfl
/-- What the reader gives of an integer's text, and the bytes of that. -/
def DigPost (l : List Int) (w : World) (e : Ending) (w' : World) : Prop := ∃ q m c neg ex, e = .returned (.tuple #[.slice q m c, .bool neg, .int .i64 ex, .bool true]) ∧ Kp w w' ∧
  ∀ w1, Kp w' w1 → Calls Tryd.prog 26 #[.slice q m c, .bool neg, .int .i64 ex] w1 fun r w2 => ∃ v, r = .returned v ∧ BRow w2 w1.heap.size v l.length l ∧ Kp w1 w2
theorem read_enc (n : Int) (l : List Int) (s : ByteArray) (h0 : -9223372036854775808 ≤ n) (h1 : n ≤ 9223372036854775807) (h : EncL n l) (hs : s.data.toList = decT (decide (n < 0)) n.natAbs) (w : World) :
    Calls Tryd.prog 27 #[.string s] w (DigPost l w) := by
  by_cases hn : n = 0
  · subst hn
    have hl := tens_zero h
    have hz : natI s.data.toList = [48] := by
      rw [hs, natI_dec _ _ 1 (by decide +kernel)]
      decide +kernel
    refine (readT_zero s w hz).mono ?_
    rintro e w' ⟨rfl, hk⟩
    refine ⟨none, 0, 0, false, 0, rfl, hk, fun w1 _ => ?_⟩
    rw [hl]
    exact numberBytes_none false 0 none 0 w1
  · obtain ⟨D, m, d1, d2, d3, d4, d5, d6, d7, d8, d9, d10⟩ := enc_digits n l h0 h1 hn h
    have hA := digI_digit n.natAbs D
    have hAl := digI_length n.natAbs D
    have hsI : natI s.data.toList = (if decide (n < 0) then [45] else []) ++ digI n.natAbs D := by rw [hs, natI_dec _ _ D d5]
    have key : ∀ neg : Bool, decide (n < 0) = neg → Calls Tryd.prog 27 #[.string s] w (ReadPost neg (((digT (digI n.natAbs D) [] false).drop 0).take m) (((digI n.natAbs D).length : Int) - 1 - ((0 : Nat) : Int)) w) := fun neg hneg => by
      rw [hneg] at hsI
      cases neg
      · exact readT_pos s (digI n.natAbs D) [] false 0 m w (by rw [hsI]; simp [bodyT]) hA (fun x hx => by cases hx) (by omega) (by omega) (by simp) d3 (by omega) (fun i hi => by omega) d7 (by rw [Nat.zero_add]; exact d8) (fun i hi hi2 => d9 i (by omega) (by omega))
      · exact readT_neg s (digI n.natAbs D) [] false 0 m w (by rw [hsI]; simp [bodyT]) hA (fun x hx => by cases hx) (by omega) (by omega) (by simp) d3 (by omega) (fun i hi => by omega) d7 (by rw [Nat.zero_add]; exact d8) (fun i hi hi2 => d9 i (by omega) (by omega))
    refine (key _ rfl).mono ?_
    rintro e w' ⟨q, c, rfl, hb, hk⟩
    rw [List.drop_zero] at hb
    have hl2 : ((digT (digI n.natAbs D) [] false).take m).length = m := by rw [List.length_take, d6]; omega
    have hex : ((digI n.natAbs D).length : Int) - 1 - ((0 : Nat) : Int) = (D : Int) - 1 := by rw [hAl]; simp
    refine ⟨q, m, c, decide (n < 0), (D : Int) - 1, by rw [List.drop_zero, hl2, hex], hk, fun w1 hk1 => ?_⟩
    rw [hl2] at hb
    refine (numberBytes_any q m c _ (decide (n < 0)) ((D : Int) - 1) w1 (bin_kp hb hk1) hl2 d3 (by omega) (fun x hx => ?_) (by omega) (by omega)).mono ?_
    · have hx2 := List.mem_of_mem_take hx
      unfold digT at hx2
      obtain ⟨y, hy, rfl⟩ := List.mem_map.1 hx2
      simp only [Bool.false_eq_true, if_false, List.append_nil] at hy
      have := hA y hy
      unfold IsDigit at this
      omega
    · rintro r w2 ⟨v, rfl, hrow, hk2⟩
      rw [← d10] at hrow
      exact ⟨v, rfl, hrow, hk2⟩
set_option maxRecDepth 100000 in
set_option maxHeartbeats 2000000 in
theorem fnNumberTexts_any (n : Int) (w : World) (ht : Tab w) (wf : (Lit.int .i64 n).wf = true) :
    Calls Tryd.prog 7 #[.int .i64 n] w fun e w' => e = .returned (.bool true) ∧ Kp w w' := by
  have hb : -9223372036854775808 ≤ n ∧ n ≤ 9223372036854775807 := by
    have e1 : IntKind.i64.min = -9223372036854775808 := rfl
    have e2 : IntKind.i64.max = 9223372036854775807 := rfl
    simp [Lit.wf, e1, e2] at wf
    omega
  have C := Lib.hid (fun w1 (hk : Kp w w1) => numberOf_any n hb.1 hb.2 w1 (ht.kp hk))
  have HT := Lib.hid ht
  have HB := Lib.hid hb
  clear ht wf hb
  go_enter Tryd.func7, Tryd.ntmps7
  go_wp2_with fail
  refine (C.out w (Kp.refl w)).mono ?_
  rintro e w1 ⟨v, l, rfl, hown, hk, hl⟩
  obtain ⟨l1, l2, T, t1, t2, t3, t4⟩ := enc_text n l HB.out.1 HB.out.2 hl
  obtain ⟨g, d, rfl, _, _, hin⟩ := own_pos hown l1
  have CT := Lib.hid (numberText_of (some ⟨g, 0, none⟩) l.length d l T w1 hin rfl l1 (by omega) t3 (by omega) t1)
  have CR := Lib.hid (fun w2 => read_enc n l (strOfNums T) HB.out.1 HB.out.2 hl t2 w2)
  have HK1 := Lib.hid hk
  have HL := Lib.hid hl
  have HL1 := Lib.hid l1
  clear hown hk hl hin l1 l2 t1 t2 t3 t4
  go_wp2_with fail
  refine CT.out.mono ?_
  rintro e w2 ⟨rfl, hk⟩
  have HK2 := Lib.hid (HK1.out.trans hk)
  clear hk CT
  go_wp2_with fail
  refine (CR.out w2).mono ?_
  rintro e w3 ⟨q, m, c, neg, ex, rfl, hk, hcb⟩
  have HK3 := Lib.hid (HK2.out.trans hk)
  have HCB := Lib.hid (hcb w3 (Kp.refl w3))
  clear hk hcb CR
  go_wp2_with fail
  refine HCB.out.mono ?_
  rintro e w4 ⟨v4, rfl, hrow, hk⟩
  obtain ⟨g4, d4, rfl, _, _, hin4⟩ := own_pos hrow HL1.out
  have HK4 := Lib.hid (HK3.out.trans hk)
  have HIN4 := Lib.hid hin4
  clear hk hrow hin4 HCB
  go_wp2_with fail
  refine (C.out w4 HK4.out).mono ?_
  rintro e w5 ⟨v5, l5, rfl, hown, hk, hl5⟩
  obtain rfl : l5 = l := encL_same hl5 HL.out
  obtain ⟨g5, d5, rfl, _, _, hin5⟩ := own_pos hown HL1.out
  have HK5 := Lib.hid (HK4.out.trans hk)
  have CE := Lib.hid (bytes_equal_same w5 (some ⟨g4, 0, none⟩) (some ⟨g5, 0, none⟩) l5.length d4 d5 l5 rfl (bin_kp HIN4.out hk) hin5)
  clear hk hown hl5 hin5
  go_wp2_with fail
  refine CE.out.mono ?_
  rintro e w6 hpe
  obtain ⟨rfl, hw⟩ := hpe
  rw [hw]
  go_wp2_with fail
  refine (numberAwake_any w5 (HT.out.kp HK5.out)).mono ?_
  rintro e w7 ⟨rfl, hk⟩
  have HK7 := Lib.hid (HK5.out.trans hk)
  clear hk
  go_wp2_with fail
  go_ret
  exact ⟨rfl, HK7.out⟩
end Go.Proofs.YtcdbnjhkjfimkaaDoor
