/-
  Rows of steps: cloned, one behind the other.
-/
import Derived.Test.YtacmnibhdmeidaaDoorAsk0
import Derived.Lib.SliceRun
namespace Go.Proofs.YtacmnibhdmeidaaDoor
open Go Go.RowKit

/-- Steps, one behind the other. -/
def catG (n : Nat) (R S : Nat → GStep) : Nat → GStep := fun r => if r < n then R r else S (r - n)
theorem catG_flat (n : Nat) (R S : Nat → GStep) : ∀ m, flatR GStep.cells (catG n R S) (n + m) = flatR GStep.cells R n ++ flatR GStep.cells S m
  | 0 => by
    have h : ∀ k, k ≤ n → flatR GStep.cells (catG n R S) k = flatR GStep.cells R k := by
      intro k
      induction k with
      | zero => intro _; rfl
      | succ k ih =>
        intro hk
        simp only [flatR, ih (by omega)]
        rw [show catG n R S k = R k from by unfold catG; rw [if_pos (by omega)]]
    simp [flatR, h n (Nat.le_refl _)]
  | m + 1 => by
    rw [← Nat.add_assoc]
    simp only [flatR, catG_flat n R S m]
    rw [show catG n R S (n + m) = S m from by unfold catG; rw [if_neg (by omega), Nat.add_sub_cancel_left], List.append_assoc]
theorem flatG_len (R : Nat → GStep) : ∀ k, (flatR GStep.cells R k).length = k * 4
  | 0 => rfl
  | k + 1 => by simp only [flatR, List.length_append, flatG_len R k, GStep.cells, List.length_cons, List.length_nil]; omega
theorem flatG_one (R : Nat → GStep) : ∀ k, ∀ u ∈ flatR GStep.cells R k, u.oneCell' = true
  | 0, u, h => by cases h
  | k + 1, u, h => by
    simp only [flatR, List.mem_append] at h
    rcases h with h | h
    · exact flatG_one R k u h
    · exact GStep.one _ u h
theorem flatG_at (R : Nat → GStep) : ∀ k i u, (flatR GStep.cells R k)[i]? = some u → ∃ r j, r < k ∧ i = r * 4 + j ∧ (R r).cells[j]? = some u
  | 0, i, u, h => by simp [flatR] at h
  | k + 1, i, u, h => by
    simp only [flatR] at h
    rcases Nat.lt_or_ge i (k * 4) with hi | hi
    · rw [List.getElem?_append_left (by rw [flatG_len]; exact hi)] at h
      obtain ⟨r, j, h1, h2, h3⟩ := flatG_at R k i u h
      exact ⟨r, j, by omega, h2, h3⟩
    · rw [List.getElem?_append_right (by rw [flatG_len]; exact hi), flatG_len] at h
      exact ⟨k, i - k * 4, by omega, by omega, h⟩
set_option maxRecDepth 100000 in
/-- Steps in memory are appended. -/
theorem app_gets (w : World) (base : Nat) (v : Value) (n : Nat) (R : Nat → GStep) (hown : w.ownsRow base 44 4 v n (flatR GStep.cells R n)) (A : Option Addr) (m c : Nat) (S : Nat → GStep) (hin : GetsIn w A m S) (hn : n ≤ 1000) (hm : m ≤ 1000) (hbase : base ≤ w.heap.size) :
    ∃ v' w', (Builtin.append_ #[40, 40] 40 #[v, .slice A m c]).run Tryd.prog w = .ok v' w' ∧ w'.ownsRow base 44 4 v' (n + m) (flatR GStep.cells (catG n R S) (n + m)) ∧ w.grownBy w' v.ownBlock := by
  obtain ⟨i0, hi, hz0, hz1, hz2⟩ := info_parts infoGet
  rw [catG_flat]
  cases A with
  | none =>
    have hm0 : m = 0 := by
      rcases Nat.eq_zero_or_pos m with h | h
      · exact h
      · obtain ⟨b, o, he, _⟩ := hin 0 h; cases he
    subst hm0
    exact ⟨v, w, run_append_of_nil w base 40 40 44 i0 4 Tryd.underlying40 hi v n _ hown c, by simpa [flatR] using hown, World.grownBy.refl w _⟩
  | some a =>
    obtain ⟨v', w', h1, h2, h3, _, _⟩ := run_append_own_at (P := Tryd.prog) w base 40 40 44 i0 _ 4 24 Tryd.underlying40 hi hz0 hz1 hz2 rfl (by decide) v n _ hown a m c (flatR GStep.cells S m) (flatG_len S m)
      (fun j x hj => by
        obtain ⟨r, i, hr, rfl, hx⟩ := flatG_at S m j x hj
        obtain ⟨b, o, he, hc⟩ := hin r hr
        injection he with he
        subst he
        rw [Go.WideShapes.add_plain, ← Nat.add_assoc]
        exact hc i x hx) (flatG_one S m) (by unfold maxLen; omega) (by omega) hbase
    exact ⟨v', w', h1, h2, h3⟩
theorem gets_own {w : World} {B : Nat} {v : Value} {n : Nat} {R : Nat → GStep} (h : w.ownsRow B 44 4 v n (flatR GStep.cells R n)) : ∃ a c, v = .slice a n c ∧ GetsIn w a n R :=
  GColl.gets (B := B) (w := w) (k := n) (v := v) (R := R) ⟨h, fun _ _ _ ht => absurd ht List.not_mem_nil, fun _ _ _ ht => absurd ht List.not_mem_nil⟩
set_option maxRecDepth 100000 in
set_option maxHeartbeats 1000000 in
/-- slices.Clone of steps. -/
theorem gclone_any (w : World) (q : Option Addr) (m d : Nat) (S : Nat → GStep) (hi : GetsIn w q m S) (hm : m ≤ 1000) (hq : q = none → m = 0 ∧ d = 0) :
    Calls Tryd.prog 12 #[.slice q m d] w fun e w' => ∃ v, e = .returned v ∧ w'.ownsRow w.heap.size 44 4 v m (flatR GStep.cells S m) ∧ Kp w w' := by
  have HI := Lib.hid hi
  have HM := Lib.hid hm
  have q22 : ∀ (w : World) (a : Option Addr) (n c n' c' : Nat), (binOp .eql 40 (.slice a n c) (.slice none n' c')).run Tryd.prog w = .ok (.bool a.isNone) w := fun w a n c n' c' => Lib.run_eql_slice_nil w _ _ a n c n' c' Tryd.underlying40
  clear hi hm
  cases q with
  | none =>
    obtain ⟨rfl, rfl⟩ := hq rfl
    go_enter Tryd.func12, Tryd.ntmps12
    go_wp2_with fail
    go_ret
    exact ⟨_, rfl, World.ownsRow_nil _ _ _ _, Kp.refl w⟩
  | some a =>
    have hown : (w.alloc (.cells #[] 44)).ownsRow w.heap.size 44 4 (.slice (some ⟨w.heap.size, 0, none⟩) 0 0) 0 (flatR GStep.cells S 0) :=
      World.ownsRow_made w #[] 0 (Nat.le_refl _) (Nat.zero_le _) (by simp)
    obtain ⟨v', w', hrun, hov, hgr⟩ := app_gets (w.alloc (.cells #[] 44)) w.heap.size _ 0 S hown (some a) m d S (HI.out.kp ((Kp.refl w).alloc _)) (by omega) HM.out (by simp)
    have HR := Lib.hid hrun
    have HK := Lib.hid (show Kp w w' from ((Kp.refl w).alloc _).grown hgr (own_ge hown))
    have hcat : catG 0 S S = S := by funext r; unfold catG; rw [if_neg (by omega), Nat.sub_zero]
    rw [Nat.zero_add, hcat] at hov
    have HO := Lib.hid hov
    clear hrun hov hgr hown hq hcat
    go_enter Tryd.func12, Tryd.ntmps12
    go_wp2_with (at_builtin; refine Lib.wpList_append_run _ rfl _ _ _ _ rfl _ _ rfl rfl _ _ HR.out ?_)
    go_ret
    exact ⟨v', rfl, HO.out, HK.out⟩
end Go.Proofs.YtacmnibhdmeidaaDoor
