/-
  append of bytes onto a row of the call's own, the source nil, empty or not; equations of the operation.
-/
import Derived.Test.YtacmnibhdmeidaaDoorPut
import Derived.Maps.AppendAt
import Derived.Lib.AppendZeros
namespace Go.Proofs.YtacmnibhdmeidaaDoor
open Go Go.RowKit

theorem run_append_of_nil {P : Program} (w : World) (base : Nat) (t ty e : TypeId) (i : TypeInfo) (size : Nat) (ht : P.underlying t = some (.slice e)) (hi : P.info? e = some i)
    (v : Value) (n : Nat) (xs : List Value) (hown : w.ownsRow base e size v n xs) (c : Nat) : (Builtin.append_ #[t, t] ty #[v, .slice none 0 c]).run P w = .ok v w := by
  rcases hown.2 with ⟨rfl, rfl⟩ | ⟨g, cap, cur, rfl, _, _, hnc, _⟩
  · simp [Builtin.append_, run_underlying ht, sizeOf, typeInfo, hi, Builtin.lenOf, Builtin.firstCells]
  · simp [Builtin.append_, run_underlying ht, sizeOf, typeInfo, hi, Builtin.lenOf, Builtin.firstCells, hnc, storeCells]

set_option maxRecDepth 100000 in
theorem run_append_bytes (w : World) (base : Nat) (v : Value) (n : Nat) (xs : List Int) (hown : w.ownsRow base 5 1 v n (xs.map (Value.int .u8)))
    (A : Option Addr) (m c : Nat) (ys : List Int) (hin : Lib.BytesIn w A m ys) (hy : ys.length = m) (hb : n + m ≤ 70368744177664) (hbase : base ≤ w.heap.size) :
    ∃ v' w', (Builtin.append_ #[26, 26] 26 #[v, .slice A m c]).run Tryd.prog w = .ok v' w' ∧ w'.ownsRow base 5 1 v' (n + m) ((xs ++ ys).map (Value.int .u8)) ∧ w.grownBy w' v.ownBlock ∧
      (v'.ownBlock = v.ownBlock ∨ v'.ownBlock = some w.heap.size) := by
  obtain ⟨i0, hi, hz0, hz1, hz2⟩ := info_parts info5
  rcases A with _ | a
  · have hm : m = 0 := by
      rcases Nat.eq_zero_or_pos m with h0 | h0
      · exact h0
      · obtain ⟨b, o, h, _⟩ := hin h0
        cases h
    subst hm
    have hn : ys = [] := List.eq_nil_of_length_eq_zero hy
    subst hn
    exact ⟨v, w, run_append_of_nil w base 26 26 5 i0 1 Tryd.underlying26 hi v n _ hown c, by simpa using hown, World.grownBy.refl w _, .inl rfl⟩
  · have hcells : ∀ j u, (ys.map (Value.int .u8))[j]? = some u → w.cell? (a.add j) = some u := by
      intro j u hu
      have hj : j < ys.length := by have := (List.getElem?_eq_some_iff.1 hu).1; simpa using this
      obtain ⟨b, o, h, hc⟩ := hin (by omega)
      obtain rfl : a = ⟨b, o, none⟩ := Option.some.inj h
      rw [Go.WideShapes.add_plain, hc j (by omega)]
      simpa [List.getD, List.getElem?_eq_getElem hj] using hu
    obtain ⟨v', w', hrun, h2, h3, _, h5⟩ := run_append_own_at (P := Tryd.prog) w base 26 26 5 i0 (.int .u8 0) 1 1 Tryd.underlying26 hi hz0 hz1 hz2 rfl (by decide) v n _ hown a m c (ys.map (Value.int .u8)) (by simpa using hy) hcells
      (fun u hu => by obtain ⟨x, _, rfl⟩ := List.mem_map.1 hu; rfl) (by unfold maxLen; omega) (by omega) hbase
    exact ⟨v', w', hrun, by rw [List.map_append]; exact h2, h3, h5⟩
end Go.Proofs.YtacmnibhdmeidaaDoor
