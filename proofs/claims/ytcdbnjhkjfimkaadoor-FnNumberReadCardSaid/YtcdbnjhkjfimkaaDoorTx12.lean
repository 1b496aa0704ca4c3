/-
  laws.numberDigits of up to 38 digits.
-/
import Derived.Test.YtcdbnjhkjfimkaaDoorTx9
namespace Go.Proofs.YtcdbnjhkjfimkaaDoor
open Go Go.RowKit

/-- Where the digits that are not noughts begin and end. -/
def Strip (Z : List Int) (z m : Nat) : Prop := 1 ≤ m ∧ z + m ≤ Z.length ∧ (∀ i, i < z → Z.getD i 0 = 0) ∧ Z.getD z 0 ≠ 0 ∧ Z.getD (z + m - 1) 0 ≠ 0 ∧ ∀ i, z + m ≤ i → i < Z.length → Z.getD i 0 = 0
theorem strip_ex : ∀ Z : List Int, (∀ i, i < Z.length → Z.getD i 0 = 0) ∨ ∃ z m, Strip Z z m
  | [] => .inl (fun i h => by cases h)
  | x :: Z => by
    rcases strip_ex Z with h | ⟨z, m, h1, h2, h3, h4, h5, h6⟩
    · by_cases hx : x = 0
      · refine .inl fun i hi => ?_
        cases i with
        | zero => exact hx
        | succ i => rw [List.getD_cons_succ]; exact h i (by simpa using hi)
      · refine .inr ⟨0, 1, Nat.le_refl _, by simp, fun i hi => by omega, hx, hx, fun i hi hi2 => ?_⟩
        obtain ⟨j, rfl⟩ : ∃ j, i = j + 1 := ⟨i - 1, by omega⟩
        rw [List.getD_cons_succ]; exact h j (by simpa using hi2)
    · by_cases hx : x = 0
      · refine .inr ⟨z + 1, m, h1, by rw [List.length_cons]; omega, fun i hi => ?_, by rw [List.getD_cons_succ]; exact h4, ?_, fun i hi hi2 => ?_⟩
        · cases i with
          | zero => exact hx
          | succ i => rw [List.getD_cons_succ]; exact h3 i (by omega)
        · rw [show z + 1 + m - 1 = (z + m - 1) + 1 by omega, List.getD_cons_succ]; exact h5
        · obtain ⟨j, rfl⟩ : ∃ j, i = j + 1 := ⟨i - 1, by omega⟩
          rw [List.getD_cons_succ]; exact h6 j (by omega) (by simpa using hi2)
      · refine .inr ⟨0, z + m + 1, by omega, by rw [List.length_cons]; omega, fun i hi => by omega, hx, ?_, fun i hi hi2 => ?_⟩
        · rw [show 0 + (z + m + 1) - 1 = (z + m - 1) + 1 by omega, List.getD_cons_succ]; exact h5
        · obtain ⟨j, rfl⟩ : ∃ j, i = j + 1 := ⟨i - 1, by omega⟩
          rw [List.getD_cons_succ]; exact h6 j (by omega) (by simpa using hi2)
/-- Digits whose first and last one is not 0 (or none). -/
def DigR (zs : List Int) : Prop := (∀ x ∈ zs, 0 ≤ x ∧ x ≤ 9) ∧ (zs = [] ∨ (zs.getD 0 0 ≠ 0 ∧ zs.getD (zs.length - 1) 0 ≠ 0))
def D38Post (w : World) (e : Ending) (w' : World) : Prop := ∃ q m c zs, e = .returned (.slice q m c) ∧ Lib.BytesIn w' q m zs ∧ zs.length = m ∧ m ≤ 38 ∧ DigR zs ∧ Kp w w'
set_option maxRecDepth 100000 in
set_option maxHeartbeats 4000000 in
theorem digits38_any (p : Option Addr) (n c : Nat) (xs : List Int) (w : World) (hi : Lib.BytesIn w p n xs) (hx : xs.length = n) (hn : n ≤ 2147483647) (hr : ∀ x ∈ xs, 0 ≤ x ∧ x < 256) :
    Calls Tryd.prog 24 #[.slice p n c, .int .i64 38] w (D38Post w) := by
  have HI := Lib.hid hi
  have HX := Lib.hid hx
  have HR := Lib.hid hr
  have i0 : (n : Int) ≤ 2147483647 := by omega
  clear hi hx hr
  go_enter Tryd.func24, Tryd.ntmps24
  go_wp2
  go_loopg [5, 10] n (fun g s5 s10 wr => ∃ (j : Nat) (v : Value) (zs : List Int), n - j = g ∧ j ≤ n ∧ v = s5 ∧ s10 = .int .i64 (j : Int) ∧ BRow wr w.heap.size v zs.length zs ∧ zs.length ≤ 38 ∧ (∀ x ∈ zs, 0 ≤ x ∧ x ≤ 9) ∧ Kp w wr)
  case atStart => exact ⟨0, _, [], rfl, Nat.zero_le _, rfl, rfl, World.ownsRow_nil _ _ _ _, by simp, (fun _ h => absurd h List.not_mem_nil), Kp.refl w⟩
  case round =>
    obtain ⟨j, v, zs, rfl, hj, rfl, rfl, hrow, hm, hdz, hkw⟩ := hrel
    have HKW := Lib.hid hkw
    have HDZ := Lib.hid hdz
    have HM := Lib.hid hm
    obtain ⟨m, hml⟩ : ∃ m, m = zs.length := ⟨_, rfl⟩
    by_cases hlt : j < n
    · obtain ⟨b, o, rfl, hc⟩ := (bin_kp HI.out hkw) (by omega)
      have cc := hc j hlt
      have hb : 0 ≤ xs.getD j 0 ∧ xs.getD j 0 < 256 := by
        rw [List.getD_eq_getElem?_getD, List.getElem?_eq_getElem (show j < xs.length by rw [HX.out]; exact hlt)]
        exact HR.out _ (List.getElem_mem _)
      have i1 : (j : Int) < (n : Int) := by omega
      have HLT := Lib.hid hlt
      generalize xs.getD j 0 = x at cc hb
      have x0 : 0 ≤ x := hb.1
      have x1 : x < 256 := hb.2
      -- the row's own form
      obtain ⟨pv, cv, hv, _⟩ := bin_own hrow
      rw [← hml] at hv hrow hm
      subst hv
      by_cases h38 : m < 38
      · have i2 : (m : Int) < 38 := by omega
        obtain ⟨v1, w5, r1, r2, r3, _⟩ := app_b wr hrow (Kp.refl wr) hkw.size (by omega) (x % 10)
        have HA := Lib.hid r1
        have HA2 := Lib.hid (show BRow w5 w.heap.size v1 (zs ++ [x % 10]).length (zs ++ [x % 10]) from by rw [List.length_append, ← hml]; exact r2)
        have HA3 := Lib.hid (r3 w hkw (Nat.le_refl _))
        have HA4 := Lib.hid (show (zs ++ [x % 10]).length ≤ 38 from by rw [List.length_append, ← hml, List.length_cons, List.length_nil]; omega)
        have HA5 := Lib.hid (show ∀ y ∈ zs ++ [x % 10], 0 ≤ y ∧ y ≤ 9 from fun y hy => by
          rcases List.mem_append.1 hy with h | h
          · exact HDZ.out y h
          · rw [List.mem_singleton] at h; subst h; omega)
        clear hc hb hrow hkw r1 r2 r3 hlt hj hm hml hdz h38
        go_wp2_with (at_builtin; refine Lib.wpList_append_run _ rfl _ _ _ _ rfl _ _ rfl rfl _ _ HA.out ?_)
        go_roundg (n - (j + 1))
        case measure => have := HLT.out; omega
        case rel => exact ⟨j + 1, v1, zs ++ [x % 10], rfl, HLT.out, rfl, by go_num, HA2.out, HA4.out, HA5.out, HA3.out⟩
      · have i2 : ¬ (m : Int) < 38 := by omega
        have HRW := Lib.hid hrow
        have HML := Lib.hid hml
        clear hc hb hrow hkw hlt hj hm hml hdz h38
        go_wp2
        go_roundg (n - (j + 1))
        case measure => have := HLT.out; omega
        case rel => exact ⟨j + 1, _, zs, rfl, HLT.out, rfl, by go_num, by rw [← HML.out]; exact HRW.out, HM.out, HDZ.out, HKW.out⟩
    · have i1 : ¬ (j : Int) < (n : Int) := by omega
      obtain ⟨pv, c1, hv, hin⟩ := bin_own hrow
      have hc1 := own_cap (hv ▸ hrow)
      have hc2 := own_capmax (hv ▸ hrow)
      have hoff : zs.length = 0 ∨ ∃ g, pv = some ⟨g, 0, none⟩ := by
        rcases Nat.eq_zero_or_pos zs.length with h | h
        · exact .inl h
        · obtain ⟨g, d, hv2, _⟩ := own_pos hrow h
          rw [hv] at hv2
          injection hv2 with e1
          exact .inr ⟨g, e1⟩
      subst hv
      have HIN := Lib.hid hin
      have HCC := Lib.hid hc1
      have HCM := Lib.hid hc2
      have HOF := Lib.hid hoff
      clear hrow hkw hlt hj hdz hin hc1 hc2 hoff hm
      obtain ⟨wo, rfl⟩ : ∃ wo : World, wo = wr := ⟨_, rfl⟩
      rcases strip_ex zs with hz | ⟨z, k, hs⟩
      · have HZ := Lib.hid hz
        clear hz
        rw [← hml]
        have HML := Lib.hid hml
        clear hml
        go_wp2
        go_loopg [5] m (fun G s5 wr => ∃ (k r cc : Nat) (q : Option Addr), r = G ∧ k + r = m ∧ s5 = .slice q r cc ∧ (0 < r → ∃ g, pv = some ⟨g, 0, none⟩ ∧ q = some ⟨g, k, none⟩ ∧ k + cc = c1) ∧ wo = wr)
        case atStart => exact ⟨0, m, c1, pv, rfl, by omega, rfl, fun h => (by
          rcases HOF.out with h0 | ⟨g, h0⟩
          · have := HML.out; omega
          · exact ⟨g, h0, h0, by omega⟩), rfl⟩
        case round =>
        obtain ⟨k, r, cc, q, rfl, hkr, rfl, hq, rfl⟩ := hrel
        rcases Nat.eq_zero_or_pos r with hr0 | hr0
        · subst hr0
          clear hq
          go_wp2
          go_loopg [5] 0 (fun G s5 wr => G = 0 ∧ s5 = .slice q 0 cc ∧ wo = wr)
          case atStart => exact ⟨rfl, rfl, rfl⟩
          case round =>
          obtain ⟨rfl, rfl, rfl⟩ := hrel
          go_wp2
          go_ret
          exact ⟨q, 0, cc, [], rfl, fun h => absurd h (Nat.lt_irrefl _), rfl, Nat.zero_le _, ⟨fun x hx => (by cases hx), .inl rfl⟩, HKW.out⟩
        · obtain ⟨g, hg, rfl, hkc⟩ := hq hr0
          subst hg
          have ck := bin_cells HIN.out k (by have := HML.out; omega)
          rw [Nat.zero_add, HZ.out k (by have := HML.out; omega)] at ck
          have r0 : (0 : Int) < (r : Int) := by omega
          have r1 : (1 : Int) ≤ (r : Int) := by omega
          have r2 : (r : Int) ≤ 38 := by have := HM.out; have := HML.out; omega
          have hrc : r ≤ cc := by have := HCC.out; have := HML.out; omega
          have r3 : (r : Int) ≤ (cc : Int) := by omega
          have cm : (cc : Int) ≤ 9223372036854775807 := by have h := HCM.out; unfold maxLen at h; omega
          have k0 : (0 : Int) ≤ (k : Int) := by omega
          have HKC := Lib.hid hkc
          have HKR := Lib.hid hkr
          have HR0 := Lib.hid hr0
          by_cases hcc : cc = 1
          · have c1e : (cc = 1) = True := eq_true hcc
            have HH := Lib.hid (show r = 1 from by omega)
            clear hcc hkc hkr hq hr0 hrc
            go_wp2
            go_roundg (r - 1)
            case measure => have := HR0.out; omega
            case rel => exact ⟨k + 1, r - 1, _, _, rfl, by have := HKR.out; have := HR0.out; omega, rfl, fun h => by have := HH.out; omega, rfl⟩
          · have c1e : (cc = 1) = False := eq_false hcc
            clear hcc hkc hkr hq hr0 hrc
            go_wp2
            go_roundg (r - 1)
            case measure => have := HR0.out; omega
            case rel => exact ⟨k + 1, r - 1, _, _, rfl, by have := HKR.out; have := HR0.out; omega, rfl, fun h => ⟨g, rfl, rfl, by have := HKC.out; omega⟩, rfl⟩
      · have HS := Lib.hid hs
        obtain ⟨g, hg⟩ : ∃ g, pv = some ⟨g, 0, none⟩ := by
          rcases HOF.out with h | h
          · exfalso
            have h1 := hs.1
            have h2 := hs.2.1
            omega
          · exact h
        subst hg
        have HCE := Lib.hid (fun i (hi : i < m) => by
          have h := bin_cells HIN.out i (by rw [← hml]; exact hi)
          rw [Nat.zero_add] at h
          exact h)
        rw [← hml]
        have HML := Lib.hid hml
        clear hs hml
        go_wp2
        go_loopg [5] z (fun G s5 wr => ∃ (a r cc : Nat), z - a = G ∧ a ≤ z ∧ a + r = m ∧ a + cc = c1 ∧ s5 = .slice (some ⟨g, a, none⟩) r cc ∧ wo = wr)
        case atStart => exact ⟨0, m, c1, rfl, Nat.zero_le _, by omega, by omega, rfl, rfl⟩
        case round =>
        obtain ⟨a, r, cc, rfl, ha, har, hac, rfl, rfl⟩ := hrel
        have hzk := HS.out.2.1
        have hk1 := HS.out.1
        rw [← HML.out] at hzk
        have hr1 : k ≤ r := by omega
        have r0 : (0 : Int) < (r : Int) := by omega
        have r1 : (1 : Int) ≤ (r : Int) := by omega
        have r2 : (r : Int) ≤ 38 := by have := HM.out; have := HML.out; omega
        have r3 : (r : Int) ≤ (cc : Int) := by have := HCC.out; have := HML.out; omega
        have cm : (cc : Int) ≤ 9223372036854775807 := by have h := HCM.out; unfold maxLen at h; omega
        by_cases hlt : a < z
        · have ck := HCE.out a (by omega)
          rw [HS.out.2.2.1 a hlt] at ck
          have cc1 : (cc = 1) = False := by
            apply eq_false
            have := HCC.out; have := HML.out; omega
          have HLT := Lib.hid hlt
          have HKR := Lib.hid (show a + 1 + (r - 1) = m from by omega)
          have HKC := Lib.hid (show a + 1 + (cc - 1) = c1 from by have := HCC.out; have := HML.out; omega)
          have k0 : (0 : Int) ≤ (a : Int) := by omega
          have k2 : (a : Int) ≤ 400 := by have := HM.out; have := HML.out; omega
          clear ha har hac hr1 hlt hzk hk1
          go_wp2
          go_roundg (z - (a + 1))
          case measure => have := HLT.out; omega
          case rel => exact ⟨a + 1, r - 1, cc - 1, rfl, HLT.out, HKR.out, HKC.out, rfl, rfl⟩
        obtain rfl : a = z := by omega
        have ck := HCE.out a (by omega)
        obtain ⟨x, hx⟩ : ∃ x, x = zs.getD a 0 := ⟨_, rfl⟩
        have x0 : (x == 0) = false := by
          simp only [beq_eq_false_iff_ne, ne_eq]
          rw [hx]; exact HS.out.2.2.2.1
        rw [← hx] at ck
        have HAR := Lib.hid har
        clear hx ha hlt hr1
        go_wp2
        go_loopg [5] r (fun G s5 wr => ∃ (q : Nat), q = G ∧ k ≤ q ∧ q ≤ r ∧ s5 = .slice (some ⟨g, a, none⟩) q cc ∧ wo = wr)
        case atStart => exact ⟨r, rfl, by omega, Nat.le_refl _, rfl, rfl⟩
        case round =>
        obtain ⟨q, rfl, hq, hqr, rfl, rfl⟩ := hrel
        have q0 : (0 : Int) < (q : Int) := by omega
        have q1 : (1 : Int) ≤ (q : Int) := by omega
        have q2 : ((q : Int) - 1).toNat = q - 1 := by omega
        have q3 : (q : Int) ≤ (cc : Int) := by omega
        have q4 : (q : Int) ≤ 400 := by omega
        have cq := HCE.out (a + (q - 1)) (by omega)
        by_cases hlt : k < q
        · rw [HS.out.2.2.2.2.2 _ (by omega) (by rw [← HML.out]; omega)] at cq
          have HLT := Lib.hid hlt
          have HQR := Lib.hid hqr
          clear hlt hq hqr ck hzk hk1
          go_wp2
          go_roundg (q - 1)
          case measure => have := HLT.out; omega
          case rel => exact ⟨q - 1, rfl, by have := HLT.out; omega, by have := HQR.out; omega, rfl, rfl⟩
        obtain rfl : q = k := by omega
        obtain ⟨x2, hx2⟩ : ∃ x2, x2 = zs.getD (a + (q - 1)) 0 := ⟨_, rfl⟩
        have x3 : (x2 == 0) = false := by
          simp only [beq_eq_false_iff_ne, ne_eq]
          rw [hx2, show a + (q - 1) = a + q - 1 by omega]; exact HS.out.2.2.2.2.1
        rw [← hx2] at cq
        have hlen : ((zs.drop a).take q).length = q := by
          rw [List.length_take, List.length_drop, ← HML.out]; omega
        have hget : ∀ i, i < q → ((zs.drop a).take q).getD i 0 = zs.getD (a + i) 0 := fun i hi => by
          rw [List.getD_eq_getElem?_getD, List.getElem?_take, if_pos hi, List.getElem?_drop, ← List.getD_eq_getElem?_getD]
        have HPO := Lib.hid (show D38Post w (.returned (.slice (some ⟨g, a, none⟩) q cc)) wo from
          ⟨some ⟨g, a, none⟩, q, cc, (zs.drop a).take q, rfl, by
            have h := bin_sub HIN.out a q (by rw [← HML.out]; exact hzk)
            rw [Nat.zero_add] at h
            exact h, hlen, by have := HM.out; have := HML.out; omega, ⟨fun x hx => HDZ.out x (List.mem_of_mem_drop (List.mem_of_mem_take hx)), .inr ⟨by rw [hget 0 (by omega)]; exact HS.out.2.2.2.1, by rw [hlen, hget (q - 1) (by omega), show a + (q - 1) = a + q - 1 by omega]; exact HS.out.2.2.2.2.1⟩⟩, HKW.out⟩)
        clear hx2 hlen hget hlt hq hqr ck hzk hk1
        go_wp2
        go_ret
        exact HPO.out
end Go.Proofs.YtcdbnjhkjfimkaaDoor
