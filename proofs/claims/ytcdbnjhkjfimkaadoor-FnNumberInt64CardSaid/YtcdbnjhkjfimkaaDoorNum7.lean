/-
  numberLetters, numberDigits.
-/
import Derived.Test.YtcdbnjhkjfimkaaDoorNum6
namespace Go.Proofs.YtcdbnjhkjfimkaaDoor
open Go Go.RowKit

theorem own_capmax {w : World} {base : Nat} {e : TypeId} {q : Option Addr} {n d : Nat} {xs : List Value} (h : w.ownsRow base e 1 (.slice q n d) n xs) : d ≤ maxLen := by
  rcases h.2 with ⟨h, h0⟩ | ⟨g, cap, _, hv, _, _, _, hm, _⟩
  · injection h with _ _ h
    omega
  · injection hv with _ _ h
    omega
def Dig (l : List Int) : Prop := ∀ x ∈ l, 0 ≤ x ∧ x ≤ 9
theorem Dig.at {l : List Int} (h : Dig l) (i : Nat) : 0 ≤ l.getD i 0 ∧ l.getD i 0 ≤ 9 := by
  by_cases hi : i < l.length
  · rw [List.getD_eq_getElem?_getD, List.getElem?_eq_getElem hi]; exact h _ (List.getElem_mem hi)
  · simp [List.getD, show l.length ≤ i by omega]

set_option maxRecDepth 100000 in
set_option maxHeartbeats 4000000 in
theorem digits_any (p : Option Addr) (n c : Nat) (xs : List Int) (w : World) (hi : Lib.BytesIn w p n xs) (hx : xs.length = n) (hn : n ≤ 2147483647) (hr : ∀ x ∈ xs, 0 ≤ x ∧ x < 256) :
    Calls Tryd.prog 24 #[.slice p n c, .int .i64 18] w fun r w' => ∃ q m d zs, r = .returned (.slice q m d) ∧ Lib.BytesIn w' q m zs ∧ zs.length = m ∧ m ≤ 18 ∧ Dig zs ∧ Kp w w' := by
  have HI := Lib.hid hi
  have HX := Lib.hid hx
  have HR := Lib.hid hr
  have i0 : (n : Int) ≤ 2147483647 := by omega
  clear hi hx hr
  go_enter Tryd.func24, Tryd.ntmps24
  go_wp2
  go_loopg [5, 10] n (fun g a i wr => ∃ (j : Nat) (q : Option Addr) (m d : Nat) (zs : List Int), j ≤ n ∧ g = n - j ∧ i = .int .i64 (j : Int) ∧ a = .slice q m d ∧ wr.ownsRow w.heap.size 5 1 (.slice q m d) m (zs.map (Value.int .u8)) ∧ zs.length = m ∧ m ≤ 18 ∧ Dig zs ∧ Kp w wr)
  case atStart => exact ⟨0, none, 0, 0, [], Nat.zero_le _, rfl, rfl, rfl, World.ownsRow_nil _ _ _ _, rfl, by omega, (fun _ h => absurd h List.not_mem_nil), Kp.refl w⟩
  case round =>
    obtain ⟨j, q, m, d, zs, hj, rfl, rfl, rfl, hown, hzl, hm, hdz, hkr⟩ := hrel
    have HO := Lib.hid hown
    have HKR := Lib.hid hkr
    have HZL := Lib.hid hzl
    have HDZ := Lib.hid hdz
    clear hown hkr hzl hdz
    by_cases hlt : j < n
    · obtain ⟨b, o, rfl, hc⟩ := (bin_kp HI.out HKR.out) (by omega)
      have cc := hc j hlt
      have hb : 0 ≤ xs.getD j 0 ∧ xs.getD j 0 < 256 := by
        rw [List.getD_eq_getElem?_getD, List.getElem?_eq_getElem (show j < xs.length by rw [HX.out]; exact hlt)]
        exact HR.out _ (List.getElem_mem _)
      have i1 : (j : Int) < (n : Int) := by omega
      generalize xs.getD j 0 = x at *
      by_cases h18 : m < 18
      · have i2 : (m : Int) < 18 := by omega
        have hy0 : 0 ≤ x % 10 ∧ x % 10 ≤ 9 := by omega
        obtain ⟨v1, w1, hrun, hov, hgr, _⟩ := run_append_bytes (wr.alloc (.cells #[.int .u8 (x % 10)] 5)) w.heap.size _ m zs (own_below HO.out ((Kp.refl wr).alloc _)) (some ⟨wr.heap.size, 0, none⟩) 1 1 [x % 10] (by exact bin_new wr [x % 10] _) rfl (by omega) (((HKR.out).alloc _).size)
        obtain ⟨q1, d1, rfl, _⟩ := bin_own hov
        have H1 := Lib.hid hrun
        have HO1 := Lib.hid hov
        have HK1 := Lib.hid ((HKR.out.alloc _).grown hgr (own_ge HO.out))
        have HD1 := Lib.hid (show Dig (zs ++ [x % 10]) from fun y hy => by
          rcases List.mem_append.1 hy with h | h
          · exact HDZ.out y h
          · simp at h; subst h; exact hy0)
        clear hrun hov hgr hc
        go_wp2_with (at_builtin; refine Lib.wpList_append_run _ rfl _ _ _ _ rfl _ _ rfl rfl _ _ H1.out ?_)
        go_roundg (n - (j + 1))
        case measure => omega
        case rel =>
          have hl1 : (zs ++ [x % 10]).length = m + 1 := by rw [List.length_append, HZL.out]; rfl
          first | exact ⟨j + 1, q1, m + 1, d1, zs ++ [x % 10], by omega, rfl, by simp, by simp, HO1.out, hl1, by omega, HD1.out, HK1.out⟩ | ((repeat apply Exists.intro); exact ⟨⟨j + 1, q1, m + 1, d1, zs ++ [x % 10], by omega, rfl, by simp, by simp, HO1.out, hl1, by omega, HD1.out, HK1.out⟩, rfl⟩)
      · have i2 : ¬ (m : Int) < 18 := by omega
        clear hc
        go_wp2
        go_roundg (n - (j + 1))
        case measure => omega
        case rel =>
          first | exact ⟨j + 1, q, m, d, zs, by omega, rfl, by simp, by simp, HO.out, HZL.out, by omega, HDZ.out, HKR.out⟩ | ((repeat apply Exists.intro); exact ⟨⟨j + 1, q, m, d, zs, by omega, rfl, by simp, by simp, HO.out, HZL.out, by omega, HDZ.out, HKR.out⟩, rfl⟩)
    · have q0 : j = n := by omega
      have i1 : ¬ (j : Int) < (n : Int) := by omega
      have HB := Lib.hid (bin_of_own HO.out)
      have hmd := own_cap HO.out
      have hdm := own_capmax HO.out
      clear HO
      go_wp2
      go_loopg [5] m (fun g a wq => ∃ (k' : Nat) (q' : Option Addr) (d' : Nat) (zs' : List Int), k' = g ∧ a = .slice q' g d' ∧ Lib.BytesIn wr q' g zs' ∧ zs'.length = g ∧ g ≤ 18 ∧ g ≤ d' ∧ d' ≤ maxLen ∧ Dig zs' ∧ wr = wq)
      case atStart => exact ⟨m, q, d, zs, rfl, rfl, HB.out, HZL.out, hm, hmd, hdm, HDZ.out, rfl⟩
      case round =>
        obtain ⟨g2, q2, d2, zs2, rfl, rfl, hb2, hl2, h182, hcd2, hdm2, hdz2, rfl⟩ := hrel
        have HB2 := Lib.hid hb2
        have HL2 := Lib.hid hl2
        have HDZ2 := Lib.hid hdz2
        clear hb2 hl2 hdz2
        by_cases hg2 : g2 = 0
        · subst hg2
          go_wp2
          go_loopg [5] 0 (fun g a wq => ∃ (k' : Nat) (q' : Option Addr) (d' : Nat) (zs' : List Int), k' = g ∧ a = .slice q' g d' ∧ Lib.BytesIn wr q' g zs' ∧ zs'.length = g ∧ g ≤ 18 ∧ g ≤ d' ∧ d' ≤ maxLen ∧ Dig zs' ∧ wr = wq)
          case atStart => exact ⟨0, q2, d2, zs2, rfl, rfl, HB2.out, HL2.out, h182, hcd2, hdm2, HDZ2.out, rfl⟩
          case round =>
            obtain ⟨g3, q3, d3, zs3, rfl, rfl, hb3, hl3, h183, hcd3, hdm3, hdz3, rfl⟩ := hrel
            have HB3 := Lib.hid hb3
            have HL3 := Lib.hid hl3
            have HDZ3 := Lib.hid hdz3
            clear hb3 hl3 hdz3
            by_cases hg3 : g3 = 0
            · subst hg3
              go_wp2
              go_ret
              first | exact ⟨_, _, _, zs3, rfl, HB3.out, HL3.out, by omega, HDZ3.out, HKR.out⟩ | (refine ⟨_, _, ⟨_, rfl⟩, zs3, HB3.out, HL3.out, by omega, HDZ3.out, HKR.out⟩)
            · obtain ⟨b3, o3, rfl, hc3⟩ := HB3.out (by omega)
              have cc3 := hc3 (g3 - 1) (by omega)
              have hz3 := HDZ3.out.at (g3 - 1)
              generalize zs3.getD (g3 - 1) 0 = z3 at *
              have k1 : (0 : Int) < (g3 : Int) := by omega
              have k2 : ((g3 : Int) - 1).toNat = g3 - 1 := by omega
              have k3 : (1 : Int) ≤ (g3 : Int) := by omega
              have k4 : (g3 : Int) ≤ 18 := by omega
              by_cases hz30 : z3 = 0
              · subst hz30
                have hd4 : Dig (zs3.take (g3 - 1)) := fun x hx => HDZ3.out x (List.mem_of_mem_take hx)
                have hl4 : (zs3.take (g3 - 1)).length = g3 - 1 := by rw [List.length_take, HL3.out]; omega
                have HB4 := Lib.hid (bin_take HB3.out (show g3 - 1 ≤ g3 by omega))
                have HD4 := Lib.hid hd4
                have HL4 := Lib.hid hl4
                clear hc3 hd4 hl4
                go_wp2
                go_roundg (g3 - 1)
                case measure => omega
                case rel => first | exact ⟨g3 - 1, some ⟨b3, o3, none⟩, d3, zs3.take (g3 - 1), rfl, rfl, HB4.out, HL4.out, by omega, by omega, hdm3, HD4.out, rfl⟩ | ((repeat apply Exists.intro); exact ⟨⟨g3 - 1, some ⟨b3, o3, none⟩, d3, zs3.take (g3 - 1), rfl, rfl, HB4.out, HL4.out, by omega, by omega, hdm3, HD4.out, rfl⟩, rfl⟩)
              · have k5 : (z3 == 0) = false := by simpa using hz30
                clear hc3
                go_wp2
                go_ret
                first | exact ⟨_, _, _, zs3, rfl, HB3.out, HL3.out, by omega, HDZ3.out, HKR.out⟩ | (refine ⟨_, _, ⟨_, rfl⟩, zs3, HB3.out, HL3.out, by omega, HDZ3.out, HKR.out⟩)
        · obtain ⟨b2, o2, rfl, hc2⟩ := HB2.out (by omega)
          have cc2 := hc2 0 (by omega)
          rw [Nat.add_zero] at cc2
          have hz2 := HDZ2.out.at 0
          generalize zs2.getD 0 0 = z2 at *
          have k1 : (0 : Int) < (g2 : Int) := by omega
          have k3 : (1 : Int) ≤ (g2 : Int) := by omega
          have k4 : (g2 : Int) ≤ 18 := by omega
          by_cases hz20 : z2 = 0
          · subst hz20
            have HD4 := Lib.hid (show Dig ((zs2.drop 1).take (g2 - 1)) from fun x hx => HDZ2.out x (List.mem_of_mem_drop (List.mem_of_mem_take hx)))
            have HL4 := Lib.hid (show ((zs2.drop 1).take (g2 - 1)).length = g2 - 1 by rw [List.length_take, List.length_drop, HL2.out]; omega)
            by_cases hd1 : d2 = 1
            · subst hd1
              have hg1 : g2 = 1 := by omega
              subst hg1
              clear hc2
              go_wp2
              go_roundg 0
              case measure => omega
              case rel => first | exact ⟨_, _, _, _, rfl, rfl, (fun h => absurd h (by decide)), HL4.out, by omega, by omega, by unfold maxLen; omega, HD4.out, rfl⟩ | ((repeat apply Exists.intro); exact ⟨⟨_, _, _, _, rfl, rfl, (fun h => absurd h (by decide)), HL4.out, by omega, by omega, by unfold maxLen; omega, HD4.out, rfl⟩, rfl⟩)
            · have k6 : (d2 = 1) = False := by simpa using hd1
              have HB4 := Lib.hid (bin_sub (show Lib.BytesIn wr (some ⟨b2, o2, none⟩) g2 zs2 from HB2.out) 1 (g2 - 1) (by omega))
              clear hc2
              go_wp2
              go_roundg (g2 - 1)
              case measure => omega
              case rel => first | exact ⟨_, _, _, _, rfl, rfl, HB4.out, HL4.out, by omega, by omega, by omega, HD4.out, rfl⟩ | ((repeat apply Exists.intro); exact ⟨⟨_, _, _, _, rfl, rfl, HB4.out, HL4.out, by omega, by omega, by omega, HD4.out, rfl⟩, rfl⟩)
          · have k5 : (z2 == 0) = false := by simpa using hz20
            clear hc2
            go_wp2
            go_loopg [5] g2 (fun g a wq => ∃ (k' : Nat) (q' : Option Addr) (d' : Nat) (zs' : List Int), k' = g ∧ a = .slice q' g d' ∧ Lib.BytesIn wr q' g zs' ∧ zs'.length = g ∧ g ≤ 18 ∧ g ≤ d' ∧ d' ≤ maxLen ∧ Dig zs' ∧ wr = wq)
            case atStart => exact ⟨g2, some ⟨b2, o2, none⟩, d2, zs2, rfl, rfl, HB2.out, HL2.out, h182, hcd2, hdm2, HDZ2.out, rfl⟩
            case round =>
              obtain ⟨g3, q3, d3, zs3, rfl, rfl, hb3, hl3, h183, hcd3, hdm3, hdz3, rfl⟩ := hrel
              have HB3 := Lib.hid hb3
              have HL3 := Lib.hid hl3
              have HDZ3 := Lib.hid hdz3
              clear hb3 hl3 hdz3
              by_cases hg3 : g3 = 0
              · subst hg3
                go_wp2
                go_ret
                first | exact ⟨_, _, _, zs3, rfl, HB3.out, HL3.out, by omega, HDZ3.out, HKR.out⟩ | (refine ⟨_, _, ⟨_, rfl⟩, zs3, HB3.out, HL3.out, by omega, HDZ3.out, HKR.out⟩)
              · obtain ⟨b3, o3, rfl, hc3⟩ := HB3.out (by omega)
                have cc3 := hc3 (g3 - 1) (by omega)
                have hz3 := HDZ3.out.at (g3 - 1)
                generalize zs3.getD (g3 - 1) 0 = z3 at *
                have k1 : (0 : Int) < (g3 : Int) := by omega
                have k2 : ((g3 : Int) - 1).toNat = g3 - 1 := by omega
                have k3 : (1 : Int) ≤ (g3 : Int) := by omega
                have k4 : (g3 : Int) ≤ 18 := by omega
                by_cases hz30 : z3 = 0
                · subst hz30
                  have hd4 : Dig (zs3.take (g3 - 1)) := fun x hx => HDZ3.out x (List.mem_of_mem_take hx)
                  have hl4 : (zs3.take (g3 - 1)).length = g3 - 1 := by rw [List.length_take, HL3.out]; omega
                  have HB4 := Lib.hid (bin_take HB3.out (show g3 - 1 ≤ g3 by omega))
                  have HD4 := Lib.hid hd4
                  have HL4 := Lib.hid hl4
                  clear hc3 hd4 hl4
                  go_wp2
                  go_roundg (g3 - 1)
                  case measure => omega
                  case rel => first | exact ⟨g3 - 1, some ⟨b3, o3, none⟩, d3, zs3.take (g3 - 1), rfl, rfl, HB4.out, HL4.out, by omega, by omega, hdm3, HD4.out, rfl⟩ | ((repeat apply Exists.intro); exact ⟨⟨g3 - 1, some ⟨b3, o3, none⟩, d3, zs3.take (g3 - 1), rfl, rfl, HB4.out, HL4.out, by omega, by omega, hdm3, HD4.out, rfl⟩, rfl⟩)
                · have k5 : (z3 == 0) = false := by simpa using hz30
                  clear hc3
                  go_wp2
                  go_ret
                  first | exact ⟨_, _, _, zs3, rfl, HB3.out, HL3.out, by omega, HDZ3.out, HKR.out⟩ | (refine ⟨_, _, ⟨_, rfl⟩, zs3, HB3.out, HL3.out, by omega, HDZ3.out, HKR.out⟩)
end Go.Proofs.YtcdbnjhkjfimkaaDoor
