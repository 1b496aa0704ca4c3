/-
  FnNumberRead: the law's own walk.
-/
import Derived.Test.YtcdbnjhkjfimkaaDoorTx14
namespace Go.Proofs.YtcdbnjhkjfimkaaDoor
open Go Go.RowKit

theorem natI_str (T : List Int) (h : ∀ x ∈ T, 0 ≤ x ∧ x < 256) : natI (strOfNums T).data.toList = T := by
  rw [strOfNums_data, natI, List.map_map]
  conv => rhs; rw [← List.map_id T]
  refine List.map_congr_left fun x hx => ?_
  have := h x hx
  simp only [Function.comp_apply, UInt8.toNat_ofNat', id_eq]
  omega
theorem Shape.bytes {neg : Bool} {ds : List Int} {e : Int} {T A B : List Int} {pt : Bool} {z t : Nat} (h : Shape neg ds e T A B pt z t) : (∀ x ∈ T, 0 ≤ x ∧ x < 256) ∧ 1 ≤ T.length ∧ T.length ≤ 500 := by
  have ha := h.hA
  have hb := h.hB
  rw [h.text]
  refine ⟨fun x hx => ?_, ?_, ?_⟩
  · rcases List.mem_append.1 hx with hx | hx
    · split at hx
      · rw [List.mem_singleton] at hx; omega
      · cases hx
    · unfold bodyT at hx
      rcases List.mem_append.1 hx with hx | hx
      · have := ha x hx; unfold IsDigit at this; omega
      · split at hx
        · rcases List.mem_cons.1 hx with hx | hx
          · omega
          · have := hb x hx; unfold IsDigit at this; omega
        · cases hx
  · have := h.a1
    unfold bodyT
    rw [List.length_append, List.length_append]; omega
  · have := h.a2
    have := h.b2
    unfold bodyT
    rw [List.length_append, List.length_append]
    split <;> split <;> simp <;> omega
/-- The reader gives the digits, the sign and the exponent. -/
theorem read_shape {neg : Bool} {ds : List Int} {e : Int} {T A B : List Int} {pt : Bool} {z t : Nat} (h : Shape neg ds e T A B pt z t) (h1 : 1 ≤ ds.length) (hf : ds.getD 0 0 ≠ 0) (hl : ds.getD (ds.length - 1) 0 ≠ 0) (w : World) :
    Calls Tryd.prog 27 #[.string (strOfNums T)] w (ReadPost neg ds e w) := by
  obtain ⟨⟨s1, s2, s3, s4, s5, s6⟩, s7⟩ := strip_of z t ds h1 hf hl
  have hs := natI_str T h.bytes.1
  rw [h.text] at hs
  rw [← h.dig] at s2 s3 s4 s5 s6 s7
  have hx := h.exp
  rw [← s7, ← hx]
  rw [s7]
  cases neg
  · have C := readT_pos (strOfNums T) A B pt z ds.length w (by rw [h.text]; simpa using hs) h.hA h.hB h.a1 h.a2 h.b2 s1 s2 s3 s4 s5 s6
    rw [s7] at C
    exact C
  · have C := readT_neg (strOfNums T) A B pt z ds.length w (by rw [h.text]; simpa using hs) h.hA h.hB h.a1 h.a2 h.b2 s1 s2 s3 s4 s5 s6
    rw [s7] at C
    exact C
theorem tmod61_neg (e : Int) (h : e < 0) : e.tmod 61 = -((-e) % 61) := by
  have h1 : e = -(-e) := by omega
  rw [h1, Int.neg_tmod, Int.tmod_eq_emod_of_nonneg (by omega)]
  simp
set_option maxRecDepth 100000 in
set_option maxHeartbeats 4000000 in
theorem fnNumberRead_main (p : Option Addr) (n c : Nat) (xs : List Int) (neg : Bool) (x e : Int) (w : World) (ht : Tab w) (hi : Lib.BytesIn w p n xs) (hx : xs.length = n) (hr : ∀ y ∈ xs, 0 ≤ y ∧ y < 256) (hn : n ≤ 2147483647) (he0 : -60 ≤ e) (he1 : e ≤ 60)
    (hxe : (0 ≤ x ∧ x ≤ 127 ∧ x % 61 = e) ∨ (x < 0 ∧ -128 ≤ x ∧ x.tmod 61 = e)) :
    Calls Tryd.prog 5 #[.slice p n c, .bool neg, .int .i8 x] w fun e w' => e = .returned (.bool true) ∧ Kp w w' := by
  have C := Lib.hid (digits38_any p n c xs w hi hx hn hr)
  have HT := Lib.hid ht
  have i0 : (n : Int) ≤ 2147483647 := by omega
  have HE := Lib.hid (And.intro he0 he1)
  clear ht hi hx hr hn
  rcases hxe with ⟨x0, x1, xe⟩ | ⟨x0, x1, xe⟩
  all_goals
    go_enter Tryd.func5, Tryd.ntmps5
    go_wp2_with fail
    refine C.out.mono ?_
    rintro r w1 ⟨q, m, d, zs, rfl, hz, hzl, hm, hdr, hk⟩
    have HK1 := Lib.hid hk
    have m38 : (m : Int) ≤ 38 := by omega
    by_cases hm0 : m = 0
    · have mz : (m : Int) = 0 := by omega
      have mz2 : ((m : Int) == 0) = true := by simp; omega
      clear hz hzl hdr hk hm hm0
      go_wp2_with fail
      refine (numberAwake_any w1 (HT.out.kp HK1.out)).mono ?_
      rintro r w2 ⟨rfl, hk⟩
      have HK2 := Lib.hid (HK1.out.trans hk)
      clear hk
      go_wp2_with fail
      go_ret
      exact ⟨rfl, HK2.out⟩
    · have mz2 : ((m : Int) == 0) = false := by simp; omega
      have m1 : (1 : Int) ≤ (m : Int) := by omega
      have hne : zs ≠ [] := fun h => by rw [h] at hzl; simp at hzl; omega
      obtain ⟨hf, hl⟩ := hdr.2.resolve_left hne
      obtain ⟨T, A, B, pt, z, t, hti, hsh⟩ := shape_ex neg zs e hdr.1 (by omega) (by omega) hf hl HE.out.1 HE.out.2
      have CB := Lib.hid (numberBytes_any q m d zs neg e w1 hz hzl (by omega) (by omega) hdr.1 (by omega) (by omega))
      have HTI := Lib.hid hti
      have HB := Lib.hid hsh.bytes
      have CR := Lib.hid (fun w2 => read_shape hsh (by omega) hf hl w2)
      obtain ⟨bq, oq, hq, _⟩ := bin_some hz (by omega)
      subst hq
      have HZ := Lib.hid (And.intro hz hzl)
      obtain ⟨l, hlq⟩ : ∃ l, l = numB neg (e / 2) (prs (evenL e (zs.map (· + 48)))) := ⟨_, rfl⟩
      have hll : 1 ≤ l.length ∧ l.length ≤ 100 := by
        have hlen : (prs (evenL e (zs.map (· + 48)))).length ≤ 20 := by
          rw [prs_length, evenL_length, List.length_map]
          split <;> omega
        rw [hlq]
        unfold numB
        rw [List.length_cons, List.length_append, List.length_map]
        split <;> simp <;> omega
      rw [← hlq] at HTI
      have HLQ := Lib.hid hlq
      have HLL := Lib.hid hll
      clear hz hzl hdr hk hm hm0 hne hf hl hti hsh hlq hll
      go_wp2_with fail
      refine CB.out.mono ?_
      rintro r w2 ⟨v, rfl, hrow, hk⟩
      rw [← HLQ.out] at hrow
      obtain ⟨g2, d2, rfl, _, _, hin⟩ := own_pos hrow HLL.out.1
      have HK2 := Lib.hid (HK1.out.trans hk)
      have HK12 := Lib.hid (show Kp w1 w2 from hk)
      have CT := Lib.hid (numberText_of (some ⟨g2, 0, none⟩) l.length d2 l T w2 hin rfl HLL.out.1 (by have := HLL.out.2; omega) HB.out.2.1 (by have := HB.out.2.2; omega) HTI.out)
      clear hrow hk hin CB
      go_wp2_with fail
      refine CT.out.mono ?_
      rintro r w3 ⟨rfl, hk⟩
      have HK3 := Lib.hid (HK2.out.trans hk)
      have HK13 := Lib.hid (HK12.out.trans hk)
      clear hk CT
      go_wp2_with fail
      refine (CR.out w3).mono ?_
      rintro r w4 ⟨q4, c4, rfl, hb4, hk⟩
      have HK4 := Lib.hid (HK3.out.trans hk)
      have hz4 := bin_kp HZ.out.1 (HK13.out.trans hk)
      rw [HZ.out.2] at hb4 ⊢
      obtain ⟨b4, o4, hq4, _⟩ := bin_some hb4 (by omega)
      subst hq4
      have CS := Lib.hid (numberSame_same b4 o4 bq oq m c4 d zs w4 HZ.out.2 hb4 hz4)
      clear hk hb4 hz4 CR
      go_wp2_with fail
      refine CS.out.mono ?_
      rintro r w5 ⟨rfl, hw⟩
      rw [← hw]
      clear CS hw
      go_wp2_with fail
      refine (numberAwake_any w4 (HT.out.kp HK4.out)).mono ?_
      rintro r w6 ⟨rfl, hk⟩
      have HK6 := Lib.hid (HK4.out.trans hk)
      clear hk
      go_wp2_with fail
      go_ret
      exact ⟨rfl, HK6.out⟩
set_option maxRecDepth 100000 in
theorem fnNumberRead_any (p : Option Addr) (n c : Nat) (xs : List Int) (neg : Bool) (x : Int) (w : World) (ht : Tab w) (hi : Lib.BytesIn w p n xs) (hx : xs.length = n) (hr : ∀ y ∈ xs, 0 ≤ y ∧ y < 256) (hnc : n ≤ c) (hc : c ≤ maxLen) (wf : (Lit.int .i8 x).wf = true) :
    Calls Tryd.prog 5 #[.slice p n c, .bool neg, .int .i8 x] w fun e w' => e = .returned (.bool true) ∧ Kp w w' := by
  have hb : -128 ≤ x ∧ x ≤ 127 := by
    have e1 : IntKind.i8.min = -128 := rfl
    have e2 : IntKind.i8.max = 127 := rfl
    simp [Lit.wf, e1, e2] at wf
    omega
  by_cases hn : n ≤ 2147483647
  · by_cases h0 : 0 ≤ x
    · exact fnNumberRead_main p n c xs neg x (x % 61) w ht hi hx hr hn (by omega) (by omega) (.inl ⟨h0, hb.2, rfl⟩)
    · have h1 := tmod61_neg x (by omega)
      exact fnNumberRead_main p n c xs neg x (x.tmod 61) w ht hi hx hr hn (by omega) (by omega) (.inr ⟨by omega, hb.1, rfl⟩)
  · unfold maxLen at hc
    have i0 : (2147483647 : Int) < (n : Int) := by omega
    have i1 : (n : Int) ≤ 9223372036854775807 := by omega
    clear ht hi hx hr hnc hc wf hb hn
    go_enter Tryd.func5, Tryd.ntmps5
    go_wp2_with fail
    go_ret
    exact ⟨rfl, Kp.refl _⟩
end Go.Proofs.YtcdbnjhkjfimkaaDoor
