/-
  Small laws on bytes in memory, of no program: a row of bytes is still there behind new blocks, draws, and stores elsewhere.
-/
import Derived.Shelf.Bytes.SlSmallAll
import Derived.OwnWalk
import Derived.Below
import Derived.Deep.Draws
import Derived.Laws.AppendOwn
import Derived.Laws.OwnMore
import Derived.Laws.Rows
namespace Go.Proofs.YtacmnibhdmeidaaDoor
open Go Go.RowKit

theorem heap_lt_of_cell {w : World} {a : Addr} {v : Value} (h : w.cell? a = some v) : a.block < w.heap.size := by
  rcases Nat.lt_or_ge a.block w.heap.size with hlt | hge
  · exact hlt
  · simp [World.cell?, Array.getElem?_eq_none hge] at h

/-- A cell that was there still reads so. -/
theorem below_some {w w' : World} (hb : Below w.heap.size w w') {a : Addr} {v : Value} (h : w.cell? a = some v) : w'.cell? a = some v := (hb.cell (heap_lt_of_cell h)).trans h

theorem bin_keep {w w' : World} {p : Option Addr} {n : Nat} {xs : List Int} (h : Lib.BytesIn w p n xs) (hk : ∀ a : Addr, a.block < w.heap.size → w'.cell? a = w.cell? a) : Lib.BytesIn w' p n xs := fun hn => by
  obtain ⟨b, o, rfl, hc⟩ := h hn
  exact ⟨b, o, rfl, fun i hi => (hk _ (heap_lt_of_cell (hc i hi))).trans (hc i hi)⟩

theorem bin_below {w w' : World} {p : Option Addr} {n : Nat} {xs : List Int} (h : Lib.BytesIn w p n xs) (hb : Below w.heap.size w w') : Lib.BytesIn w' p n xs :=
  bin_keep h fun _ ha => hb.cell ha

theorem bin_alloc {w : World} {p : Option Addr} {n : Nat} {xs : List Int} (h : Lib.BytesIn w p n xs) (o : Obj) : Lib.BytesIn (w.alloc o) p n xs :=
  bin_keep h fun a ha => World.cell?_alloc_lt w o a ha

theorem bin_take {w : World} {p : Option Addr} {n : Nat} {xs : List Int} (h : Lib.BytesIn w p n xs) {k : Nat} (hk : k ≤ n) : Lib.BytesIn w p k (xs.take k) := fun hn => by
  obtain ⟨b, o, rfl, hc⟩ := h (by omega)
  exact ⟨b, o, rfl, fun i hi => by rw [hc i (by omega)]; simp [List.getD, hi]⟩

/-- A row of the call's own, read as bytes. -/
theorem bin_own {w : World} {base : Nat} {e : TypeId} {v : Value} {n : Nat} {xs : List Int} (h : w.ownsRow base e 1 v n (xs.map (Value.int .u8))) :
    ∃ p c, v = .slice p n c ∧ Lib.BytesIn w p n xs := by
  rcases h.2 with ⟨rfl, rfl⟩ | ⟨g, cap, cur, hv, _, hh, _⟩
  · exact ⟨none, 0, rfl, Lib.BytesIn.nil _ _ _⟩
  · refine ⟨some ⟨g, 0, none⟩, cap, hv, fun hn => ⟨g, 0, rfl, fun i hi => ?_⟩⟩
    have hl : xs.length = n := by simpa using h.1
    subst hv
    have := h.cellAt i (by omega)
    rw [Nat.zero_add, this]
    simp [List.getD, List.getElem?_eq_getElem (show i < xs.length by omega)]

theorem own_below {w w' : World} {base : Nat} {e : TypeId} {size : Nat} {v : Value} {n : Nat} {xs : List Value} (h : w.ownsRow base e size v n xs) (hb : Below w.heap.size w w') : w'.ownsRow base e size v n xs := by
  obtain ⟨h1, h2⟩ := h
  refine ⟨h1, ?_⟩
  rcases h2 with h2 | ⟨g, cap, cur, hv, hg, hh, r⟩
  · exact .inl h2
  · have hlt : g < w.heap.size := by
      rcases Nat.lt_or_ge g w.heap.size with hlt | hge
      · exact hlt
      · rw [Array.getElem?_eq_none hge] at hh; cases hh
    exact .inr ⟨g, cap, cur, hv, hg, (hb.block g hlt).trans hh, r⟩

theorem own_base {w : World} {base base' : Nat} {e : TypeId} {size : Nat} {v : Value} {n : Nat} {xs : List Value} (h : w.ownsRow base e size v n xs) (hb : base' ≤ base) : w.ownsRow base' e size v n xs := by
  obtain ⟨h1, h2⟩ := h
  refine ⟨h1, ?_⟩
  rcases h2 with h2 | ⟨g, cap, cur, hv, hg, r⟩
  · exact .inl h2
  · exact .inr ⟨g, cap, cur, hv, by omega, r⟩

/-- All old cells and all old marks read as before: for the walk. -/
theorem bcell {W w1 : World} (hb : Below W.heap.size W w1) : (∀ b o, b < W.heap.size → w1.cell? ⟨b, o, none⟩ = W.cell? ⟨b, o, none⟩) ∧ (∀ b o, b < W.heap.size → w1.frozen? ⟨b, o, none⟩ = W.frozen? ⟨b, o, none⟩) :=
  ⟨fun b o h => hb.cell (p := ⟨b, o, none⟩) h, fun b o h => hb.frozen (p := ⟨b, o, none⟩) h⟩

/-- A new block of bytes. -/
theorem bin_new (w : World) (xs : List Int) (t : TypeId) : Lib.BytesIn (w.alloc (.cells (xs.map (Value.int .u8)).toArray t)) (some ⟨w.heap.size, 0, none⟩) xs.length xs := fun _ =>
  ⟨w.heap.size, 0, rfl, fun i hi => by
    rw [Nat.zero_add, cell_of_row _ w.heap.size i _ t (0, 0) (heap_alloc_new w _)]
    simp [List.getD, List.getElem?_eq_getElem hi]⟩

theorem bin_new_m (w : World) (xs : List Int) (t : TypeId) (m : Nat × Nat) : Lib.BytesIn (w.alloc (.cells (xs.map (Value.int .u8)).toArray t m)) (some ⟨w.heap.size, 0, none⟩) xs.length xs := fun _ =>
  ⟨w.heap.size, 0, rfl, fun i hi => by
    rw [Nat.zero_add, cell_of_row _ w.heap.size i _ t m (heap_alloc_new w _)]
    simp [List.getD, List.getElem?_eq_getElem hi]⟩

theorem own_new (w : World) (xs : List Int) (t : TypeId) (hm : xs.length ≤ maxLen) : (w.alloc (.cells (xs.map (Value.int .u8)).toArray t)).ownsRow w.heap.size t 1 (.slice (some ⟨w.heap.size, 0, none⟩) xs.length xs.length) xs.length (xs.map (Value.int .u8)) :=
  ⟨by simp, .inr ⟨w.heap.size, xs.length, _, rfl, Nat.le_refl _, heap_alloc_new w _, Nat.le_refl _, hm, by simp, by simp only [Nat.mul_one]; exact List.take_of_length_le (by simp)⟩⟩

theorem below_drewN {B : Nat} {a w : World} (h : Below B a w) (n : Nat) : Below B a (w.drewN n) := ⟨h.os, h.tape, h.output, h.size, h.block⟩

end Go.Proofs.YtacmnibhdmeidaaDoor
