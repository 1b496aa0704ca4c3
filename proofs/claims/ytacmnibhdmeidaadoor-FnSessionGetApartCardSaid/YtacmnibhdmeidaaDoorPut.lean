/-
  Numbers put into a row of bytes of the call's own, and the zeros that an append of a fresh slice lays behind a row.
-/
import Derived.Test.YtacmnibhdmeidaaDoorKit
import Derived.Test.YtacmnibhdmeidaaDoorShelf
import Derived.Lib.AppendZerosOnto
import Derived.Laws.MakeOwn
import Derived.Laws.IdiomCopy
import Derived.WalkKit
import Derived.WalkLawsBesides
import Derived.WalkSpells
import Derived.Outline
import Derived.Lib.Hide
import Derived.Deep.RegionHeld3
import Derived.Deep.QuietTactic
import Derived.BigQuiet
namespace Go.Proofs.YtacmnibhdmeidaaDoor
open Go Go.RowKit

/-- A list with other things put in from a place on. -/
def setAll {α : Type} : List α → Nat → List α → List α
  | xs, _, [] => xs
  | xs, o, v :: vs => setAll (xs.set o v) (o + 1) vs

theorem setAll_length {α : Type} : ∀ (vs : List α) (xs : List α) (o : Nat), (setAll xs o vs).length = xs.length
  | [], _, _ => rfl
  | v :: vs, xs, o => by rw [setAll, setAll_length vs]; simp

theorem setAll_map {α β : Type} (f : α → β) : ∀ (vs : List α) (xs : List α) (o : Nat), setAll (xs.map f) o (vs.map f) = (setAll xs o vs).map f
  | [], _, _ => rfl
  | v :: vs, xs, o => by rw [List.map_cons, setAll, setAll, ← setAll_map f vs, List.map_set]

theorem grown_trans {a b c : World} {row : Option Nat} (h : a.grownBy b row) (k : b.grownBy c row) : a.grownBy c row :=
  ⟨k.os.trans h.os, k.tape.trans h.tape, k.output.trans h.output, Nat.le_trans h.size k.size, fun i hi hn => (k.block i (Nat.lt_of_lt_of_le hi h.size) hn).trans (h.block i hi hn)⟩
theorem grown_alloc {a w : World} {row : Option Nat} (h : a.grownBy w row) (o : Obj) : a.grownBy (w.alloc o) row :=
  ⟨h.os, h.tape, h.output, Nat.le_trans h.size (by simp), fun i hi hne => (Below.heap_alloc w o i (Nat.lt_of_lt_of_le hi h.size)).trans (h.block i hi hne)⟩
theorem grown_drewN {a w : World} {row : Option Nat} (h : a.grownBy w row) (n : Nat) : a.grownBy (w.drewN n) row := ⟨h.os, h.tape, h.output, h.size, h.block⟩
theorem grown_drew {a w : World} {row : Option Nat} (h : a.grownBy w row) : a.grownBy w.drew row := ⟨h.os, h.tape, h.output, h.size, h.block⟩
theorem grown_below {a w : World} (h : Below a.heap.size a w) (row : Option Nat) : a.grownBy w row := ⟨h.os, h.tape, h.output, h.size, fun i hi _ => h.block i hi⟩
theorem below_grown {B g : Nat} {a w : World} (h : a.grownBy w (some g)) (hB : B ≤ g) (hs : B ≤ a.heap.size) : Below B a w :=
  ⟨h.os, h.tape, h.output, h.size, fun i hi => h.block i (by omega) (fun e => by injection e; omega)⟩

theorem grown_cell {w w' : World} {g : Nat} (h : w.grownBy w' (some g)) {a : Addr} {v : Value} (hc : w.cell? a = some v) (hne : a.block ≠ g) : w'.cell? a = some v :=
  (World.cell?_of_block (h.block _ (heap_lt_of_cell hc) (fun e => by injection e with e; exact hne e))).trans hc

theorem own_store {w : World} {base : Nat} {e : TypeId} {g n cap : Nat} {xs : List Int} (h : w.ownsRow base e 1 (.slice (some ⟨g, 0, none⟩) n cap) n (xs.map (Value.int .u8))) (j : Nat) (x : Int) :
    (w.setCell ⟨g, j, none⟩ (.int .u8 x)).ownsRow base e 1 (.slice (some ⟨g, 0, none⟩) n cap) n ((xs.set j x).map (Value.int .u8)) ∧ w.grownBy (w.setCell ⟨g, j, none⟩ (.int .u8 x)) (some g) := by
  rw [List.map_set]
  exact h.stored j _

theorem own_setCells {base : Nat} {e : TypeId} {g n cap : Nat} : ∀ (vs : List Value) (o : Nat) (w : World) (xs : List Value), w.ownsRow base e 1 (.slice (some ⟨g, 0, none⟩) n cap) n xs →
    (w.setCells g o vs).ownsRow base e 1 (.slice (some ⟨g, 0, none⟩) n cap) n (setAll xs o vs) ∧ w.grownBy (w.setCells g o vs) (some g)
  | [], _, w, _, h => ⟨h, World.grownBy.refl w _⟩
  | v :: vs, o, w, xs, h => by
    obtain ⟨h1, g1⟩ := h.stored o v
    obtain ⟨h2, g2⟩ := own_setCells vs (o + 1) _ _ h1
    exact ⟨h2, grown_trans g1 g2⟩

/-- The bytes of a number, the greatest first. -/
def be2 (v : Int) : List Int := [v / 256 % 256, v % 256]
def be4 (v : Int) : List Int := [v / 16777216 % 256, v / 65536 % 256, v / 256 % 256, v % 256]

theorem u8_nat (n : Nat) : (((n % 256).toUInt8).toNat : Int) = (n : Int) % 256 := by rw [Lib.toUInt8_mod]; omega
theorem beBytes2 (v : Nat) : Lib.byteCells (Lib.beBytes 2 v) = (be2 (v : Int)).map (Value.int .u8) := by
  simp only [Lib.byteCells, Lib.beBytes, Lib.leBytes, List.reverse_cons, List.reverse_nil, List.nil_append, List.cons_append, List.map_cons, List.map_nil, be2, u8_nat]
  simp
theorem beBytes4 (v : Nat) : Lib.byteCells (Lib.beBytes 4 v) = (be4 (v : Int)).map (Value.int .u8) := by
  simp only [Lib.byteCells, Lib.beBytes, Lib.leBytes, List.reverse_cons, List.reverse_nil, List.nil_append, List.cons_append, List.map_cons, List.map_nil, be4, u8_nat]
  have e1 : (((v / 256 / 256 / 256 : Nat) : Int)) = (v : Int) / 16777216 := by omega
  have e2 : (((v / 256 / 256 : Nat) : Int)) = (v : Int) / 65536 := by omega
  have e3 : (((v / 256 : Nat) : Int)) = (v : Int) / 256 := by omega
  rw [e1, e2, e3]

theorem own_cell {w : World} {base : Nat} {e : TypeId} {g n cap : Nat} {xs : List Int} (h : w.ownsRow base e 1 (.slice (some ⟨g, 0, none⟩) n cap) n (xs.map (Value.int .u8))) (j : Nat) (hj : j < n) :
    w.cell? ⟨g, j, none⟩ = some (.int .u8 (xs.getD j 0)) := by
  have hl : xs.length = n := by simpa using h.1
  rw [h.cellAt j (by omega)]
  simp [List.getD, List.getElem?_eq_getElem (show j < xs.length by omega)]

/-- Zeros, as cells. -/
def zeroA (n : Nat) : Array Value := ((List.replicate n 0).map (Value.int .u8)).toArray
theorem made_zero (n : Nat) : madeCells #[.int .u8 0] n = zeroA n := by
  apply Array.ext'
  rw [toList_madeCells_one]
  simp [zeroA]
theorem own_zero (w : World) (n cap : Nat) (t : TypeId) (hc : n ≤ cap) (hm : cap ≤ maxLen) : (w.alloc (.cells (zeroA cap) t)).ownsRow w.heap.size t 1 (.slice (some ⟨w.heap.size, 0, none⟩) n cap) n ((List.replicate n 0).map (Value.int .u8)) :=
  ⟨by simp, .inr ⟨w.heap.size, cap, _, rfl, Nat.le_refl _, heap_alloc_new w _, hc, hm, by simp [zeroA], by simp [zeroA, List.take_replicate, Nat.min_eq_left hc]⟩⟩

theorem info5 : (Tryd.prog.info? 5).map (fun i => (i.zero, i.size, i.bytes)) = some (some (.int .u8 0), 1, 1) := by kernel_rfl

/-- make([]byte, n, c). -/
theorem run_make_bytes (kl kc : IntKind) (n c : Nat) (hc : n ≤ c) (hb : c ≤ 281474976710656) (w : World) :
    (Instr.makeSlice 26 (.int kl n) (.int kc c)).run Tryd.prog w = .ok (.slice (some ⟨w.heap.size, 0, none⟩) n c) (w.alloc (.cells (zeroA c) 5)) := by
  obtain ⟨i0, hi, hz0, hz1, hz2⟩ := info_parts info5
  have h := run_make (P := Tryd.prog) w 26 5 i0 (.int .u8 0) Tryd.underlying26 hi hz0 kl kc n c (by omega) (by omega) (by rw [hz2]; omega) (by omega)
  rw [h, hz1, ← made_zero]
  simp [Value.cells]

theorem own_lt {w : World} {base : Nat} {e : TypeId} {g n cap : Nat} {xs : List Value} (h : w.ownsRow base e 1 (.slice (some ⟨g, 0, none⟩) n cap) n xs) : base ≤ g ∧ g < w.heap.size := h.lt g rfl

theorem put16_own (base g o n cap m c : Nat) (v : Int) (xs : List Int) (w : World) (h : w.ownsRow base 5 1 (.slice (some ⟨g, 0, none⟩) n cap) n (xs.map (Value.int .u8))) (hm : 2 ≤ m) (ho : o + 2 ≤ n) (h0 : 0 ≤ v) (h1 : v < 65536) :
    Calls Tryd.prog 69 #[.agg #[], .slice (some ⟨g, o, none⟩) m c, .int .u16 v] w fun e w' => e = .returned (.tuple #[]) ∧
      w'.ownsRow base 5 1 (.slice (some ⟨g, 0, none⟩) n cap) n ((setAll xs o (be2 v)).map (Value.int .u8)) ∧ w.grownBy w' (some g) := by
  obtain ⟨k, rfl⟩ := Int.eq_ofNat_of_zero_le h0
  refine (Tryd.binary_BE_PutUint16 g o m c k (by omega) _ _ w hm (own_cell h o (by omega)) (own_cell h (o + 1) (by omega)) (h.frozenAt _) (h.frozenAt _)).mono ?_
  rintro e w' ⟨rfl, rfl⟩
  obtain ⟨a1, a2⟩ := own_setCells (Lib.byteCells (Lib.beBytes 2 k)) o _ _ (h.alloc (.cells #[] 131))
  rw [beBytes2, setAll_map] at a1
  exact ⟨rfl, by rw [beBytes2]; exact a1, grown_trans (grown_alloc (World.grownBy.refl w _) _) a2⟩

theorem put32_own (base g o n cap m c : Nat) (v : Int) (xs : List Int) (w : World) (h : w.ownsRow base 5 1 (.slice (some ⟨g, 0, none⟩) n cap) n (xs.map (Value.int .u8))) (hm : 4 ≤ m) (ho : o + 4 ≤ n) (h0 : 0 ≤ v) (h1 : v < 4294967296) :
    Calls Tryd.prog 70 #[.agg #[], .slice (some ⟨g, o, none⟩) m c, .int .u32 v] w fun e w' => e = .returned (.tuple #[]) ∧
      w'.ownsRow base 5 1 (.slice (some ⟨g, 0, none⟩) n cap) n ((setAll xs o (be4 v)).map (Value.int .u8)) ∧ w.grownBy w' (some g) := by
  obtain ⟨k, rfl⟩ := Int.eq_ofNat_of_zero_le h0
  refine (Tryd.binary_BE_PutUint32 g o m c k (by omega) _ _ _ _ w hm (own_cell h o (by omega)) (own_cell h (o + 1) (by omega)) (own_cell h (o + 2) (by omega)) (own_cell h (o + 3) (by omega)) (h.frozenAt _) (h.frozenAt _) (h.frozenAt _) (h.frozenAt _)).mono ?_
  rintro e w' ⟨rfl, rfl⟩
  obtain ⟨a1, a2⟩ := own_setCells (Lib.byteCells (Lib.beBytes 4 k)) o _ _ (h.alloc (.cells #[] 131))
  rw [beBytes4, setAll_map] at a1
  exact ⟨rfl, by rw [beBytes4]; exact a1, grown_trans (grown_alloc (World.grownBy.refl w _) _) a2⟩
end Go.Proofs.YtacmnibhdmeidaaDoor
