/-
  Rows of records that the text collects by append: what they hold, and the bytes that they point to.
-/
import Derived.Test.YtacmnibhdmeidaaDoorSes15
namespace Go.Proofs.YtacmnibhdmeidaaDoor
open Go Go.RowKit

structure BRow where
  q : Option Addr
  k : Nat
  xs : List Int
def BRow.In (w : World) (b : BRow) : Prop := Lib.BytesIn w b.q b.k b.xs
def BRow.Far (w : World) (v : Value) (b : BRow) : Prop := ∀ a, b.q = some a → a.block < w.heap.size ∧ v.ownBlock ≠ some a.block
section
variable {ρ : Type} {cells : ρ → List Value} {rows : ρ → List BRow} {B : Nat} {e : TypeId} {size : Nat} {w w' : World} {k : Nat} {v v' : Value} {R : Nat → ρ} {x : ρ}
def flatR (cells : ρ → List Value) (R : Nat → ρ) : Nat → List Value
  | 0 => []
  | k + 1 => flatR cells R k ++ cells (R k)
/-- So many records have been collected. -/
structure Coll (cells : ρ → List Value) (rows : ρ → List BRow) (B : Nat) (e : TypeId) (size : Nat) (w : World) (k : Nat) (v : Value) (R : Nat → ρ) : Prop where
  own : w.ownsRow B e size v k (flatR cells R k)
  byt : ∀ r, r < k → ∀ t ∈ rows (R r), BRow.In w t
  far : ∀ r, r < k → ∀ t ∈ rows (R r), BRow.Far w v t
theorem Coll.start (R : Nat → ρ) : Coll cells rows B e size w 0 (.slice none 0 0) R :=
  ⟨World.ownsRow_nil _ _ _ _, fun r hr => absurd hr (by omega), fun r hr => absurd hr (by omega)⟩
theorem Coll.kp (h : Coll cells rows B e size w k v R) (hk : Kp w w') : Coll cells rows B e size w' k v R :=
  ⟨own_below h.own hk, fun r hr t ht => bin_kp (h.byt r hr t ht) hk, fun r hr t ht a ha => ⟨Nat.lt_of_lt_of_le (h.far r hr t ht a ha).1 hk.size, (h.far r hr t ht a ha).2⟩⟩
theorem flatR_put : ∀ k j, j ≤ k → flatR cells (fun r => if r = k then x else R r) j = flatR cells R j
  | _, 0, _ => rfl
  | k, j + 1, h => by
    simp only [flatR, flatR_put k j (by omega)]
    rw [if_neg (by omega)]
theorem Coll.app (h : Coll cells rows B e size w k v R) (hown : w'.ownsRow B e size v' (k + 1) (flatR cells R k ++ cells x)) (hg : w.grownBy w' v.ownBlock) (hv : v'.ownBlock = v.ownBlock ∨ v'.ownBlock = some w.heap.size)
    (hin : ∀ t ∈ rows x, BRow.In w t) (hf : ∀ t ∈ rows x, BRow.Far w v t) : Coll cells rows B e size w' (k + 1) v' (fun r => if r = k then x else R r) := by
  have hsz := hg.size
  have fv : ∀ b, b < w.heap.size → v.ownBlock ≠ some b → v'.ownBlock ≠ some b := fun b hb hne e => by
    rcases hv with hv | hv
    · rw [hv] at e; exact hne e
    · rw [hv] at e; injection e; omega
  have keep : ∀ t : BRow, BRow.In w t → BRow.Far w v t → BRow.In w' t := fun t hi hfa hl => by
    obtain ⟨b, o, he, hc⟩ := hi hl
    obtain ⟨f1, f2⟩ := hfa _ he
    dsimp only at f1 f2
    exact ⟨b, o, he, fun j hj => (World.cell?_of_block (hg.block b f1 (fun e => f2 e.symm))).trans (hc j hj)⟩
  refine ⟨?_, ?_, ?_⟩
  · simp only [flatR, flatR_put k k (Nat.le_refl _), if_pos]
    exact hown
  · intro r hr
    by_cases e : r = k
    · subst e
      simp only [if_pos]
      exact fun t ht => keep t (hin t ht) (hf t ht)
    · simp only [if_neg e]
      exact fun t ht => keep t (h.byt r (by omega) t ht) (h.far r (by omega) t ht)
  · intro r hr
    by_cases e : r = k
    · subst e
      simp only [if_pos]
      exact fun t ht a ha => ⟨by have := (hf t ht a ha).1; omega, fv _ (hf t ht a ha).1 (hf t ht a ha).2⟩
    · simp only [if_neg e]
      exact fun t ht a ha => ⟨by have := (h.far r (by omega) t ht a ha).1; omega, fv _ (h.far r (by omega) t ht a ha).1 (h.far r (by omega) t ht a ha).2⟩
theorem flatR_at (hs : ∀ x : ρ, (cells x).length = size) : ∀ k r j u, r < k → (cells (R r))[j]? = some u → (flatR cells R k)[r * size + j]? = some u
  | 0, r, j, u, hr, _ => by omega
  | k + 1, r, j, u, hr, hu => by
    have hl : ∀ k, (flatR cells R k).length = k * size := fun k => by
      induction k with
      | zero => simp [flatR]
      | succ k ih => simp only [flatR, List.length_append, ih, hs, Nat.succ_mul]
    have hj : j < size := by have := (List.getElem?_eq_some_iff.1 hu).1; rw [hs] at this; exact this
    by_cases e : r = k
    · subst e
      rw [flatR, List.getElem?_append_right (by rw [hl]; omega), hl, Nat.add_sub_cancel_left]
      exact hu
    · have h1 : (r + 1) * size ≤ k * size := Nat.mul_le_mul_right _ (by omega)
      rw [Nat.succ_mul] at h1
      rw [flatR, List.getElem?_append_left (by rw [hl]; omega)]
      exact flatR_at hs k r j u (by omega) hu
/-- The cells of what has been collected. -/
theorem Coll.cell (h : Coll cells rows B e size w k v R) (hs : ∀ x : ρ, (cells x).length = size) (hk : 0 < k) : ∃ g cap, v = .slice (some ⟨g, 0, none⟩) k cap ∧ k ≤ cap ∧ cap ≤ maxLen ∧ g < w.heap.size ∧ B ≤ g ∧ ∀ r j u, r < k → (cells (R r))[j]? = some u → w.cell? ⟨g, r * size + j, none⟩ = some u := by
  obtain ⟨g, cap, rfl, h1, h2, h3, h4, hc⟩ := own_form h.own hk
  exact ⟨g, cap, rfl, h1, h2, h3, h4, fun r j u hr hu => hc _ _ (flatR_at hs k r j u hr hu)⟩
end

/-- append of one record of whatever struct. -/
theorem app_rec {ty e : TypeId} {z : Value} {size bytes : Nat} (ht : Tryd.prog.underlying ty = some (.slice e)) (hinfo : (Tryd.prog.info? e).map (fun i => (i.zero, i.size, i.bytes)) = some (some z, size, bytes)) (hzs : z.cells.size = size) (hsz : 0 < size) (hby : bytes ≤ 1000)
    (w : World) (base : Nat) (v : Value) (n : Nat) (xs : List Value) (hown : w.ownsRow base e size v n xs) (g : Nat) (cs : List Value) (hg : Blk w g e cs.toArray) (hl : cs.length = size) (h1 : ∀ u ∈ cs, u.oneCell' = true) (hn : n ≤ 1000000) (hbase : base ≤ w.heap.size) :
    ∃ v' w', (Builtin.append_ #[ty, ty] ty #[v, .slice (some ⟨g, 0, none⟩) 1 1]).run Tryd.prog w = .ok v' w' ∧ w'.ownsRow base e size v' (n + 1) (xs ++ cs) ∧ w.grownBy w' v.ownBlock ∧ (v'.ownBlock = v.ownBlock ∨ v'.ownBlock = some w.heap.size) := by
  obtain ⟨i0, hi, hz0, hz1, hz2⟩ := info_parts hinfo
  have hb : (n + 1) * bytes ≤ 1000001 * 1000 := Nat.mul_le_mul (by omega) hby
  obtain ⟨v', w', h1, h2, h3, _, h5⟩ := run_append_own_at (P := Tryd.prog) w base ty ty e i0 z size bytes ht hi hz0 hz1 hz2 hzs hsz v n xs hown ⟨g, 0, none⟩ 1 1 cs (by omega)
    (fun j x hj => by rw [Go.WideShapes.add_plain, Nat.zero_add, hg.cell j, ← hj]; simp) h1 (by unfold maxLen; omega) (by omega) hbase
  exact ⟨v', w', h1, h2, h3, h5⟩
theorem infoPut : (Tryd.prog.info? 77).map (fun i => (i.zero, i.size, i.bytes)) = some (some (.agg #[.int .i64 0, .slice none 0 0, .slice none 0 0, .int .i64 0, .int .u64 0, .int .u8 0, .int .u8 0, .bool false, .bool false]), 9, 80) := by kernel_rfl
theorem infoGet : (Tryd.prog.info? 44).map (fun i => (i.zero, i.size, i.bytes)) = some (some (.agg #[.int .i64 0, .int .i64 0, .bool false, .bool false]), 4, 24) := by kernel_rfl

def PStep.rows (s : PStep) : List BRow := [⟨s.q1, s.k1, s.ys⟩, ⟨s.q2, s.k2, s.zs⟩]
theorem PStep.one (s : PStep) : ∀ u ∈ s.cells, u.oneCell' = true := fun u hu => by
  simp only [PStep.cells, List.mem_cons, List.not_mem_nil, or_false] at hu
  rcases hu with rfl | rfl | rfl | rfl | rfl | rfl | rfl | rfl | rfl <;> rfl
theorem GStep.one (s : GStep) : ∀ u ∈ s.cells, u.oneCell' = true := fun u hu => by
  simp only [GStep.cells, List.mem_cons, List.not_mem_nil, or_false] at hu
  rcases hu with rfl | rfl | rfl | rfl <;> rfl
/-- Steps of a writer that have been collected. -/
def PColl (B : Nat) (w : World) (k : Nat) (v : Value) (R : Nat → PStep) : Prop := Coll PStep.cells PStep.rows B 77 9 w k v R
def GColl (B : Nat) (w : World) (k : Nat) (v : Value) (R : Nat → GStep) : Prop := Coll GStep.cells (fun _ => []) B 44 4 w k v R
theorem PColl.puts {B : Nat} {w : World} {k : Nat} {v : Value} {R : Nat → PStep} (h : PColl B w k v R) : ∃ a c, v = .slice a k c ∧ PutsIn w a k R := by
  rcases Nat.eq_zero_or_pos k with h0 | h0
  · subst h0
    obtain ⟨p, c, rfl⟩ : ∃ p c, v = .slice p 0 c := by
      rcases h.own.2 with ⟨rfl, _⟩ | ⟨_, _, _, rfl, _⟩
      · exact ⟨_, _, rfl⟩
      · exact ⟨_, _, rfl⟩
    exact ⟨p, c, rfl, fun r hr => absurd hr (by omega)⟩
  · obtain ⟨g, cap, rfl, _, _, _, _, hc⟩ := Coll.cell h (fun _ => rfl) h0
    exact ⟨_, cap, rfl, fun r hr => ⟨g, 0, rfl, fun j u hu => by rw [Nat.zero_add]; exact hc r j u hr hu, h.byt r hr ⟨(R r).q1, (R r).k1, (R r).ys⟩ (by simp [PStep.rows]), h.byt r hr ⟨(R r).q2, (R r).k2, (R r).zs⟩ (by simp [PStep.rows])⟩⟩
theorem GColl.gets {B : Nat} {w : World} {k : Nat} {v : Value} {R : Nat → GStep} (h : GColl B w k v R) : ∃ a c, v = .slice a k c ∧ GetsIn w a k R := by
  rcases Nat.eq_zero_or_pos k with h0 | h0
  · subst h0
    obtain ⟨p, c, rfl⟩ : ∃ p c, v = .slice p 0 c := by
      rcases h.own.2 with ⟨rfl, _⟩ | ⟨_, _, _, rfl, _⟩
      · exact ⟨_, _, rfl⟩
      · exact ⟨_, _, rfl⟩
    exact ⟨p, c, rfl, fun r hr => absurd hr (by omega)⟩
  · obtain ⟨g, cap, rfl, _, _, _, _, hc⟩ := Coll.cell h (fun _ => rfl) h0
    exact ⟨_, cap, rfl, fun r hr => ⟨g, 0, rfl, fun j u hu => by rw [Nat.zero_add]; exact hc r j u hr hu⟩⟩
end Go.Proofs.YtacmnibhdmeidaaDoor
