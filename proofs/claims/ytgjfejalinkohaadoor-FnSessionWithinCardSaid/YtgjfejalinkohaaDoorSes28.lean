/-
  A step ahead of collected ones.
-/
import Derived.Test.YtgjfejalinkohaaDoorSes26
namespace Go.Proofs.YtgjfejalinkohaaDoor
open Go Go.RowKit

theorem own_one_blk {w : World} {B : Nat} {e : TypeId} {size : Nat} {b : Nat} {xs : List Value} (h : w.ownsRow B e size (.slice (some ⟨b, 0, none⟩) 1 1) 1 xs) : Blk w b e xs.toArray := by
  rcases h.2 with ⟨h1, _⟩ | ⟨g, cap, cur, h1, _, hg, _, _, hcs, ht⟩
  · cases h1
  · injection h1 with h3 _ h4
    injection h3 with h3
    injection h3 with h3
    subst h3 h4
    have : cur = xs.toArray := by
      apply Array.ext'
      rw [← ht, List.take_of_length_le (by simp [hcs])]
    rw [this] at hg
    exact hg
theorem own_blk {w : World} {b : Nat} {e : TypeId} {size : Nat} {cs : List Value} (h : Blk w b e cs.toArray) (hl : cs.length = size) : w.ownsRow b e size (.slice (some ⟨b, 0, none⟩) 1 1) 1 cs :=
  ⟨by rw [hl, Nat.one_mul], .inr ⟨b, 1, _, rfl, Nat.le_refl _, h, Nat.le_refl _, by unfold maxLen; omega, by simp [hl], by simp only [Nat.one_mul]; exact List.take_of_length_le (by simp [hl])⟩⟩
set_option maxHeartbeats 1000000 in
theorem front_app {ty e : TypeId} {z : Value} {size bytes : Nat} (ht : Tryd.prog.underlying ty = some (.slice e)) (hinfo : (Tryd.prog.info? e).map (fun i => (i.zero, i.size, i.bytes)) = some (some z, size, bytes)) (hzs : z.cells.size = size) (hsz : 0 < size) (hby : bytes ≤ 1000)
    (w : World) (b : Nat) (cs : List Value) (hB : Blk w b e cs.toArray) (hl : cs.length = size) (B : Nat) (v : Value) (m : Nat) (ys : List Value) (hv : w.ownsRow B e size v m ys) (h1 : ∀ u ∈ ys, u.oneCell' = true) (hm : m ≤ 1000) :
    ∃ v' w', (Builtin.append_ #[ty, ty] ty #[.slice (some ⟨b, 0, none⟩) 1 1, v]).run Tryd.prog w = .ok v' w' ∧ w'.ownsRow b e size v' (1 + m) (cs ++ ys) ∧ Kp w w' := by
  obtain ⟨i0, hi, hz0, hz1, hz2⟩ := info_parts hinfo
  have hown := own_blk hB hl
  have hbb : b ≤ w.heap.size := Nat.le_of_lt hB.lt
  rcases hv.2 with ⟨rfl, rfl⟩ | ⟨g, cap, cur, rfl, hBg, hg, hnc, hcm, hcs, htk⟩
  · have hy : ys = [] := List.eq_nil_of_length_eq_zero (by simpa using hv.1)
    subst hy
    exact ⟨_, w, run_append_owned_none w b ty ty e i0 size ht hi _ 1 cs hown, by simpa using hown, Kp.refl w⟩
  · have hcell := hv.cells (g := g) rfl
    have hbm : (1 + m) * bytes ≤ 1001 * 1000 := Nat.mul_le_mul (by omega) hby
    obtain ⟨v', w', hr, ho, hgr, _⟩ := run_append_own_at (P := Tryd.prog) w b ty ty e i0 z size bytes ht hi hz0 hz1 hz2 hzs hsz _ 1 cs hown ⟨g, 0, none⟩ m cap ys hv.1 hcell h1 (by unfold maxLen; omega) (by omega) hbb
    refine ⟨v', w', hr, ho, ?_⟩
    rcases Nat.eq_zero_or_pos m with h0 | h0
    · subst h0
      have hy : ys = [] := List.eq_nil_of_length_eq_zero (by simpa using hv.1)
      subst hy
      obtain ⟨w2, hr2, ho2, _⟩ := run_append_fits (P := Tryd.prog) w b ty ty e i0 size ht hi hz1 b 1 1 cs hown ⟨g, 0, none⟩ 0 cap [] (by simp) (fun j u hu => by simp at hu) (fun u hu => absurd hu List.not_mem_nil) (by omega)
      rw [hr2] at hr
      injection hr with e1 e2
      subst e1 e2
      have hb2 := own_one_blk (by simpa using ho2)
      refine ⟨hgr.os, hgr.tape, hgr.output, hgr.size, fun k hk => ?_⟩
      by_cases e : k = b
      · subst e
        unfold Blk at hb2 hB
        rw [hb2, hB]
      · exact hgr.block k hk (fun h => e (by simpa [Value.ownBlock] using h))
    · have hr2 := run_append_grow (P := Tryd.prog) w ty ty e i0 z ht hi hz0 ⟨b, 0, none⟩ 1 1 cs (by rw [hz1, hl, Nat.one_mul]) (hown.cells (g := b) rfl) ⟨g, 0, none⟩ m cap ys (by rw [hz1]; exact hv.1) hcell (by omega) (by omega) (growslice_fits (by omega) (by rw [hz2]; omega))
      rw [hr2] at hr
      injection hr with e1 e2
      subst e2
      exact (Kp.refl w).drew.alloc _

theorem flatR_one {ρ : Type} {cells : ρ → List Value} {R : Nat → ρ} (h : ∀ x : ρ, ∀ u ∈ cells x, u.oneCell' = true) : ∀ n, ∀ u ∈ flatR cells R n, u.oneCell' = true
  | 0, u, hu => absurd hu List.not_mem_nil
  | n + 1, u, hu => by
    rcases List.mem_append.1 hu with hu | hu
    · exact flatR_one h n u hu
    · exact h _ u hu
/-- One ahead of the others. -/
def ahead {ρ : Type} (x : ρ) (R : Nat → ρ) : Nat → ρ
  | 0 => x
  | r + 1 => R r
theorem flatR_ahead {ρ : Type} {cells : ρ → List Value} {R : Nat → ρ} {x : ρ} : ∀ n, flatR cells (ahead x R) (n + 1) = cells x ++ flatR cells R n
  | 0 => by simp [flatR, ahead]
  | n + 1 => by
    rw [flatR, flatR_ahead n]
    simp [flatR, ahead]
theorem puts_ahead {w : World} {B : Nat} {v : Value} {n : Nat} {x : PStep} {R : Nat → PStep} (h : w.ownsRow B 31 9 v (1 + n) (x.cells ++ flatR PStep.cells R n)) (h1 : Lib.BytesIn w x.q1 x.k1 x.ys) (h2 : Lib.BytesIn w x.q2 x.k2 x.zs) (hr : ∀ r, r < n → Lib.BytesIn w (R r).q1 (R r).k1 (R r).ys ∧ Lib.BytesIn w (R r).q2 (R r).k2 (R r).zs) :
    ∃ a c, v = .slice a (n + 1) c ∧ PutsIn w a (n + 1) (ahead x R) := by
  rw [← flatR_ahead n, Nat.add_comm] at h
  obtain ⟨g, cap, rfl, _, _, _, _, hc⟩ := own_form h (by omega)
  refine ⟨_, cap, rfl, fun r hr' => ⟨g, 0, rfl, fun j u hu => by rw [Nat.zero_add]; exact hc _ _ (flatR_at (size := 9) (fun _ => rfl) (n + 1) r j u hr' hu), ?_, ?_⟩⟩
  · cases r with
    | zero => exact h1
    | succ r => exact (hr r (by omega)).1
  · cases r with
    | zero => exact h2
    | succ r => exact (hr r (by omega)).2
theorem gets_ahead {w : World} {B : Nat} {v : Value} {n : Nat} {x : GStep} {R : Nat → GStep} (h : w.ownsRow B 33 4 v (1 + n) (x.cells ++ flatR GStep.cells R n)) :
    ∃ a c, v = .slice a (n + 1) c ∧ GetsIn w a (n + 1) (ahead x R) := by
  rw [← flatR_ahead n, Nat.add_comm] at h
  obtain ⟨g, cap, rfl, _, _, _, _, hc⟩ := own_form h (by omega)
  exact ⟨_, cap, rfl, fun r hr' => ⟨g, 0, rfl, fun j u hu => by rw [Nat.zero_add]; exact hc _ _ (flatR_at (size := 4) (fun _ => rfl) (n + 1) r j u hr' hu)⟩⟩
theorem putL_ahead (big : Bool) (chunk : Nat) (x : PStep) (R : Nat → PStep) : ∀ n, putL big chunk (ahead x R) (n + 1) = stepW big chunk x ++ putL big chunk R n
  | 0 => by simp [putL, ahead]
  | n + 1 => by
    rw [putL, putL_ahead big chunk x R n]
    simp [putL, ahead]
theorem ok_ahead {x : PStep} {R : Nat → PStep} {n : Nat} (h : x.Ok) (hr : ∀ r, r < n → (R r).Ok) : ∀ r, r < n + 1 → (ahead x R r).Ok := fun r h' => by
  cases r with
  | zero => exact h
  | succ r => exact hr r (by omega)
theorem run_ahead {big : Bool} {n : Nat} {x : GStep} {G : Nat → GStep} {l : List Int} {L : Nat → List Int} {u : GRec} {V : Nat → GRec} (h : StepR big x.kind x.size x.big x.comp l u (L 0)) (hr : RunR big n G L V) : RunR big (n + 1) (ahead x G) (ahead l L) (ahead u V) := fun r h' => by
  cases r with
  | zero => exact h
  | succ r => exact hr r (by omega)
end Go.Proofs.YtgjfejalinkohaaDoor
