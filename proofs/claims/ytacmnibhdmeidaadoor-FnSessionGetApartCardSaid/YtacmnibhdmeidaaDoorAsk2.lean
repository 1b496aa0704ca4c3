/-
  slices.Concat of two rows of readings.
-/
import Derived.Test.YtacmnibhdmeidaaDoorAsk1
import Derived.Test.YtacmnibhdmeidaaDoorSes25
namespace Go.Proofs.YtacmnibhdmeidaaDoor
open Go Go.RowKit

def catQ {α : Type} (n : Nat) (R S : Nat → α) : Nat → α := fun r => if r < n then R r else S (r - n)
theorem catQ_self {α : Type} (n : Nat) (V : Nat → α) : catQ n V (fun r => V (n + r)) = V := by
  funext r
  unfold catQ
  split
  · rfl
  · show V (n + (r - n)) = V r
    congr 1; omega
theorem gotRow_cat (n : Nat) (Q1 Q2 : Nat → GPlace) (V1 V2 : Nat → GRec) : ∀ m, gotRow (catQ n Q1 Q2) (catQ n V1 V2) (n + m) = gotRow Q1 V1 n ++ gotRow Q2 V2 m
  | 0 => by
    have h : ∀ k, k ≤ n → gotRow (catQ n Q1 Q2) (catQ n V1 V2) k = gotRow Q1 V1 k := by
      intro k
      induction k with
      | zero => intro _; rfl
      | succ k ih =>
        intro hk
        simp only [gotRow, ih (by omega)]
        rw [show catQ n Q1 Q2 k = Q1 k from by unfold catQ; rw [if_pos (by omega)], show catQ n V1 V2 k = V1 k from by unfold catQ; rw [if_pos (by omega)]]
    simp [gotRow, h n (Nat.le_refl _)]
  | m + 1 => by
    rw [← Nat.add_assoc]
    simp only [gotRow, gotRow_cat n Q1 Q2 V1 V2 m]
    rw [show catQ n Q1 Q2 (n + m) = Q2 m from by unfold catQ; rw [if_neg (by omega), Nat.add_sub_cancel_left], show catQ n V1 V2 (n + m) = V2 m from by unfold catQ; rw [if_neg (by omega), Nat.add_sub_cancel_left], List.append_assoc]
theorem gotRow_len (Q : Nat → GPlace) (V : Nat → GRec) : ∀ k, (gotRow Q V k).length = k * 5
  | 0 => rfl
  | k + 1 => by simp only [gotRow, List.length_append, gotRow_len Q V k, gotCells, List.length_cons, List.length_nil]; omega
theorem gotRow_one (Q : Nat → GPlace) (V : Nat → GRec) : ∀ k, ∀ u ∈ gotRow Q V k, u.oneCell' = true
  | 0, u, h => by cases h
  | k + 1, u, h => by
    simp only [gotRow, List.mem_append] at h
    rcases h with h | h
    · exact gotRow_one Q V k u h
    · simp only [gotCells, List.mem_cons, List.not_mem_nil, or_false] at h
      rcases h with rfl | rfl | rfl | rfl | rfl <;> rfl
theorem gotRow_at (Q : Nat → GPlace) (V : Nat → GRec) : ∀ k i u, (gotRow Q V k)[i]? = some u → ∃ r j, r < k ∧ i = r * 5 + j ∧ (gotCells (Q r) (V r))[j]? = some u
  | 0, i, u, h => by simp [gotRow] at h
  | k + 1, i, u, h => by
    simp only [gotRow] at h
    rcases Nat.lt_or_ge i (k * 5) with hi | hi
    · rw [List.getElem?_append_left (by rw [gotRow_len]; exact hi)] at h
      obtain ⟨r, j, h1, h2, h3⟩ := gotRow_at Q V k i u h
      exact ⟨r, j, by omega, h2, h3⟩
    · rw [List.getElem?_append_right (by rw [gotRow_len]; exact hi), gotRow_len] at h
      exact ⟨k, i - k * 5, by omega, by omega, h⟩
set_option maxRecDepth 100000 in
/-- Readings in memory are appended. -/
theorem app_gots (w : World) (base : Nat) (v : Value) (n : Nat) (xs : List Value) (hown : w.ownsRow base 46 5 v n xs) (A : Option Addr) (m c : Nat) (Q : Nat → GPlace) (V : Nat → GRec) (hin : GotAt w A m Q V) (hn : n ≤ 1000) (hm : m ≤ 1000) (hbase : base ≤ w.heap.size) :
    ∃ v' w', (Builtin.append_ #[48, 48] 48 #[v, .slice A m c]).run Tryd.prog w = .ok v' w' ∧ w'.ownsRow base 46 5 v' (n + m) (xs ++ gotRow Q V m) ∧ w.grownBy w' v.ownBlock := by
  obtain ⟨i0, hi, hz0, hz1, hz2⟩ := info_parts infoGot
  cases A with
  | none =>
    have hm0 : m = 0 := by
      rcases Nat.eq_zero_or_pos m with h | h
      · exact h
      · obtain ⟨b, o, he, _⟩ := hin 0 h; cases he
    subst hm0
    exact ⟨v, w, run_append_of_nil w base 48 48 46 i0 5 Tryd.underlying48 hi v n _ hown c, by simpa [gotRow] using hown, World.grownBy.refl w _⟩
  | some a =>
    obtain ⟨v', w', h1, h2, h3, _, _⟩ := run_append_own_at (P := Tryd.prog) w base 48 48 46 i0 _ 5 80 Tryd.underlying48 hi hz0 hz1 hz2 rfl (by decide) v n _ hown a m c (gotRow Q V m) (gotRow_len Q V m)
      (fun j x hj => by
        obtain ⟨r, i, hr, rfl, hx⟩ := gotRow_at Q V m j x hj
        obtain ⟨b, o, he, hc⟩ := hin r hr
        injection he with he
        subst he
        rw [Go.WideShapes.add_plain, ← Nat.add_assoc]
        exact hc i x hx) (gotRow_one Q V m) (by unfold maxLen; omega) (by omega) hbase
    exact ⟨v', w', h1, h2, h3⟩
/-- append of so many zeros onto nil, cut back. -/
theorem grow_got (w : World) (n : Nat) (h0 : 0 < n) (hn : n ≤ 1000) : ∃ c w', (Builtin.append_ #[48, 3] 48 #[.slice none 0 0, .int .i64 n]).run Tryd.prog w = .ok (.slice (some ⟨w.heap.size, 0, none⟩) n c) w' ∧
    w'.ownsRow w.heap.size 46 5 (.slice (some ⟨w.heap.size, 0, none⟩) 0 c) 0 [] ∧ n ≤ c ∧ c ≤ maxLen ∧ Below w.heap.size w w' := by
  obtain ⟨i0, hi, hz0, hz1, hz2⟩ := info_parts infoGot
  have h := Lib.run_append_nil_zeros (P := Tryd.prog) w 48 3 48 46 i0 _ .i64 .i64 Tryd.underlying48 Tryd.underlying3 hi hz0 n h0 (by omega) (by omega) (by rw [hz2]; omega)
  rw [hz1] at *
  refine ⟨grownCap w n 0 46, _, h, ?_, grownCap_ge w _ 0 _, grownCap_le_maxLen w _ 0 _ (by unfold maxLen; omega), ((Below.refl _ w).drew).alloc (Nat.le_refl _) _⟩
  refine ⟨rfl, .inr ⟨w.heap.size, grownCap w n 0 46, _, rfl, Nat.le_refl _, heap_alloc_new w.drew _, Nat.zero_le _, grownCap_le_maxLen w _ 0 _ (by unfold maxLen; omega), ?_, rfl⟩⟩
  have hge := grownCap_ge w n 0 46
  simp [Builtin.zeroCells, Value.cells]
  omega
set_option maxRecDepth 100000 in
set_option maxHeartbeats 2000000 in
theorem gotGrow_any (n : Nat) (w : World) (hn : n ≤ 1000) :
    Calls Tryd.prog 35 #[.slice none 0 0, .int .i64 n] w fun e w' => ∃ v, e = .returned v ∧ w'.ownsRow w.heap.size 46 5 v 0 [] ∧ Below w.heap.size w w' := by
  have i0 : (0 : Int) ≤ (n : Int) := by omega
  have i1 : (n : Int) ≤ 1000 := by omega
  rcases Nat.eq_zero_or_pos n with h0 | h0
  · subst h0
    go_enter Tryd.func35, Tryd.ntmps35
    go_wp2_with fail
    go_ret
    exact ⟨_, rfl, World.ownsRow_nil _ _ _ _, Below.refl _ _⟩
  · have i2 : (0 : Int) < (n : Int) := by omega
    obtain ⟨c, w', hr, hown, hc, hcm, hb⟩ := grow_got w n h0 hn
    have HR := Lib.hid hr
    have HO := Lib.hid hown
    have HB := Lib.hid hb
    have i3 : (0 : Int) ≤ (c : Int) := by omega
    clear hr hown hb h0 hn
    go_enter Tryd.func35, Tryd.ntmps35
    go_wp2_with (at_builtin; refine Lib.wpList_append_run _ rfl _ _ _ _ rfl _ _ rfl rfl _ _ HR.out ?_)
    go_ret
    exact ⟨_, rfl, HO.out, HB.out⟩

set_option maxRecDepth 100000 in
set_option maxHeartbeats 4000000 in
theorem gconcat_any (b : Nat) (A1 A2 : Option Addr) (n1 n2 c1 c2 : Nat) (Q1 Q2 : Nat → GPlace) (V1 V2 : Nat → GRec) (w : World) (h1 : w.cell? ⟨b, 0, none⟩ = some (.slice A1 n1 c1)) (h2 : w.cell? ⟨b, 1, none⟩ = some (.slice A2 n2 c2)) (g1 : GotAt w A1 n1 Q1 V1) (g2 : GotAt w A2 n2 Q2 V2) (hn1 : n1 ≤ 100) (hn2 : n2 ≤ 100) :
    Calls Tryd.prog 16 #[.slice (some ⟨b, 0, none⟩) 2 2] w fun e w' => ∃ v, e = .returned v ∧ w'.ownsRow w.heap.size 46 5 v (n1 + n2) (gotRow (catQ n1 Q1 Q2) (catQ n1 V1 V2) (n1 + n2)) ∧ Kp w w' := by
  have i0 : (0 : Int) ≤ (n1 : Int) := by omega
  have i1 : (n1 : Int) ≤ 100 := by omega
  have i2 : (0 : Int) ≤ (n2 : Int) := by omega
  have i3 : (n2 : Int) ≤ 100 := by omega
  have HG1 := Lib.hid g1
  have HG2 := Lib.hid g2
  have H1 := Lib.hid h1
  have H2 := Lib.hid h2
  have hb := heap_lt_of_cell h1
  clear g1 g2 hn1 hn2
  go_enter Tryd.func16, Tryd.ntmps16
  go_wp2_with fail
  refine wp_loop_rounds 3 ?_
  rw [rounds_succ]
  go_wp2_with fail
  rw [rounds_succ]
  go_wp2_with fail
  rw [rounds_succ]
  go_wp2_with fail
  have C := gotGrow_any (n1 + n2) w (by omega)
  rw [show ((n1 + n2 : Nat) : Int) = (n1 : Int) + (n2 : Int) from by omega] at C
  refine C.mono ?_
  rintro e w1 ⟨v1, rfl, hown, hb1⟩
  have k1 : w1.cell? ⟨b, 0, none⟩ = some (.slice A1 n1 c1) := (hb1.cell (p := ⟨b, 0, none⟩) hb).trans H1.out
  have k2 : w1.cell? ⟨b, 1, none⟩ = some (.slice A2 n2 c2) := (hb1.cell (p := ⟨b, 1, none⟩) hb).trans H2.out
  have hk1 : Kp w w1 := hb1
  obtain ⟨v2, w2, r2, o2, gr2⟩ := app_gots w1 w.heap.size v1 0 [] hown A1 n1 c1 Q1 V1 (HG1.out.kp hk1) (by omega) (by omega) hk1.size
  have hk2 : Kp w w2 := hk1.grown gr2 (own_ge hown)
  have m2 : w2.cell? ⟨b, 1, none⟩ = some (.slice A2 n2 c2) := (hk2.below.cell (p := ⟨b, 1, none⟩) hb).trans H2.out
  rw [Nat.zero_add, List.nil_append] at o2
  obtain ⟨v3, w3, r3, o3, gr3⟩ := app_gots w2 w.heap.size v2 n1 _ o2 A2 n2 c2 Q2 V2 (HG2.out.kp hk2) (by omega) (by omega) hk2.size
  have hk3 : Kp w w3 := hk2.grown gr3 (own_ge o2)
  have R2 := Lib.hid r2
  have R3 := Lib.hid r3
  have O3 := Lib.hid o3
  have K3 := Lib.hid hk3
  clear C hown hb1 hk1 r2 o2 gr2 hk2 r3 o3 gr3 hk3 h1 h2
  go_wp2_with fail
  refine wp_loop_rounds 3 ?_
  rw [rounds_succ]
  go_wp2_with (at_builtin; refine Lib.wpList_append_run _ rfl _ _ _ _ rfl _ _ rfl rfl _ _ R2.out ?_)
  rw [rounds_succ]
  go_wp2_with (at_builtin; refine Lib.wpList_append_run _ rfl _ _ _ _ rfl _ _ rfl rfl _ _ R3.out ?_)
  rw [rounds_succ]
  go_wp2_with fail
  go_ret
  exact ⟨v3, rfl, by rw [gotRow_cat]; exact O3.out, K3.out⟩
end Go.Proofs.YtacmnibhdmeidaaDoor
