/-
  bytes.Buffer, wherever it lies, with the row that it owns: Write, WriteByte, Bytes: what is written, and that no block but the buffer's own and its row's has changed.
-/
import Derived.Test.YtacmnibhdmeidaaDoorGen
import Derived.Test.YtacmnibhdmeidaaDoorApp
import Derived.Laws.CopyRow
import Derived.Deep.RegionWith
import Derived.BigCall
import Derived.BigGuard
namespace Go.Proofs.YtacmnibhdmeidaaDoor
open Go Go.RowKit

/-- A buffer at o of block b that holds the bytes bs, and its row: none yet, or a block. -/
def BufP (w : World) (T : TypeId) (R : Nat → Option Value) (b o : Nat) (bs : List Int) (row : Option Nat) : Prop := ∃ v lr, LibA.Three w b o T R v (.int .i64 0) (.int .i8 lr) ∧
  ((bs = [] ∧ row = none ∧ v = .slice none 0 0) ∨ ∃ g cap cur, row = some g ∧ g ≠ b ∧ v = .slice (some ⟨g, 0, none⟩) bs.length cap ∧ 0 < bs.length ∧ w.heap[g]? = some (.cells cur 5 (0, 0)) ∧ bs.length ≤ cap ∧ cap ≤ maxLen ∧ cur.size = cap ∧ cur.toList.take bs.length = bs.map (Value.int .u8))

/-- What a writer does to memory: block b and the row have changed, and there may be a new row. -/
structure Stp (b : Nat) (row row' : Option Nat) (w w' : World) : Prop where
  os : w'.os = w.os
  tape : w'.tape = w.tape
  output : w'.output = w.output
  size : w.heap.size ≤ w'.heap.size
  block : ∀ i, i < w.heap.size → i ≠ b → some i ≠ row → w'.heap[i]? = w.heap[i]?
  next : row' = row ∨ ∃ k, row' = some k ∧ w.heap.size ≤ k

section
variable {b o : Nat} {row row1 row2 : Option Nat} {w w1 w2 : World} {T : TypeId} {R : Nat → Option Value} {bs : List Int}
theorem Stp.refl (b : Nat) (row : Option Nat) (w : World) : Stp b row row w w := ⟨rfl, rfl, rfl, Nat.le_refl _, fun _ _ _ _ => rfl, .inl rfl⟩
theorem Stp.trans (h : Stp b row row1 w w1) (k : Stp b row1 row2 w1 w2) : Stp b row row2 w w2 where
  os := k.os.trans h.os
  tape := k.tape.trans h.tape
  output := k.output.trans h.output
  size := Nat.le_trans h.size k.size
  block := fun i hi hb hr => (k.block i (Nat.lt_of_lt_of_le hi h.size) hb (by
    rcases h.next with rfl | ⟨j, rfl, hj⟩
    · exact hr
    · intro e; injection e; omega)).trans (h.block i hi hb hr)
  next := by
    rcases k.next with rfl | ⟨j, rfl, hj⟩
    · exact h.next
    · exact .inr ⟨j, rfl, Nat.le_trans h.size hj⟩
theorem Stp.of_grown (h : w.grownBy w1 (some b)) : Stp b row row w w1 := ⟨h.os, h.tape, h.output, h.size, fun i hi hb _ => h.block i hi (fun e => by injection e; omega), .inl rfl⟩
theorem Stp.of_kp (h : Kp w w1) : Stp b row row w w1 := ⟨h.os, h.tape, h.output, h.size, fun i hi _ _ => h.block i hi, .inl rfl⟩
theorem Stp.kp (h : Stp b row row1 w w1) (hk : Kp w1 w2) : Stp b row row1 w w2 := h.trans (Stp.of_kp hk)
theorem Stp.below {B : Nat} (h : Stp b row row1 w w1) (hb : B ≤ b) (hr : ∀ k, row = some k → B ≤ k) (hs : B ≤ w.heap.size) : Below B w w1 :=
  ⟨h.os, h.tape, h.output, h.size, fun i hi => h.block i (by omega) (by omega) (fun e => by have := hr i e.symm; omega)⟩
theorem Stp.row_ge {B : Nat} (h : Stp b row row1 w w1) (hr : ∀ k, row = some k → B ≤ k) (hs : B ≤ w.heap.size) : ∀ k, row1 = some k → B ≤ k := fun k hk => by
  rcases h.next with rfl | ⟨j, rfl, hj⟩
  · exact hr k hk
  · injection hk; omega
theorem Stp.bin {n : Nat} {ys : List Int} {q : Option Addr} (h : Stp b row row1 w w1) (hi : Lib.BytesIn w q n ys) (hq : ∀ a, q = some a → a.block ≠ b ∧ some a.block ≠ row) : Lib.BytesIn w1 q n ys := fun hn => by
  obtain ⟨g, o, rfl, hc⟩ := hi hn
  obtain ⟨h1, h2⟩ := hq _ rfl
  exact ⟨g, o, rfl, fun j hj => (World.cell?_of_block (h.block g (heap_lt_of_cell (hc j hj)) h1 h2)).trans (hc j hj)⟩
theorem Stp.far {a : Addr} (h : Stp b row row1 w w1) (ha : a.block < w.heap.size) (hq : a.block ≠ b ∧ some a.block ≠ row) : a.block ≠ b ∧ some a.block ≠ row1 := by
  refine ⟨hq.1, ?_⟩
  rcases h.next with rfl | ⟨j, rfl, hj⟩
  · exact hq.2
  · intro e; injection e; omega
theorem BufP.kp (h : BufP w T R b o bs row) (hk : Kp w w1) : BufP w1 T R b o bs row := by
  obtain ⟨v, lr, h3, h4⟩ := h
  refine ⟨v, lr, h3.of_heap (hk.block b h3.lt), ?_⟩
  rcases h4 with h4 | ⟨g, cap, cur, a1, a2, a3, a4, a5, a6⟩
  · exact .inl h4
  · have hlt : g < w.heap.size := by
      rcases Nat.lt_or_ge g w.heap.size with hlt | hge
      · exact hlt
      · rw [Array.getElem?_eq_none hge] at a5; cases a5
    exact .inr ⟨g, cap, cur, a1, a2, a3, a4, (hk.block g hlt).trans a5, a6⟩
theorem BufP.drewN (h : BufP w T R b o bs row) (k : Nat) : BufP (w.drewN k) T R b o bs row := h
theorem BufP.lt (h : BufP w T R b o bs row) : b < w.heap.size := by obtain ⟨v, lr, h3, _⟩ := h; exact h3.lt
theorem BufP.row_lt (h : BufP w T R b o bs row) : ∀ k, row = some k → k < w.heap.size ∧ k ≠ b := fun k hk => by
  obtain ⟨v, lr, h3, h4⟩ := h
  rcases h4 with ⟨_, h, _⟩ | ⟨g, cap, cur, h, hne, _, _, h5, _⟩
  · rw [h] at hk; cases hk
  · rw [h] at hk; injection hk with hk; subst hk
    refine ⟨?_, hne⟩
    rcases Nat.lt_or_ge g w.heap.size with hlt | hge
    · exact hlt
    · rw [Array.getElem?_eq_none hge] at h5; cases h5
theorem BufP.last (h : BufP w T R b o bs row) : BufP (w.setCell ⟨b, o + 2, none⟩ (.int .i8 0)) T R b o bs row ∧ w.grownBy (w.setCell ⟨b, o + 2, none⟩ (.int .i8 0)) (some b) := by
  refine ⟨?_, Lib.grownBy_setCell w b (o + 2) _⟩
  obtain ⟨v, lr, h3, h4⟩ := h
  refine ⟨v, 0, h3.set2 _, ?_⟩
  rcases h4 with h4 | ⟨g, cap, cur, a1, a2, a3, a4, a5, a6⟩
  · exact .inl h4
  · exact .inr ⟨g, cap, cur, a1, a2, a3, a4, (Below.heap_setCell _ _ _ _ a2).trans a5, a6⟩
theorem BufP.is (h : BufP w T R b o bs row) : LibA.IsBuffer T R 5 0 b o (bs.map (Value.int .u8)) w := by
  obtain ⟨v, lr, h3, h4⟩ := h
  refine ⟨Nat.zero_le _, v, lr, h3, ?_⟩
  rcases h4 with ⟨rfl, _, rfl⟩ | ⟨g, cap, cur, a1, a2, rfl, a4, a5, a6, a7, a8, a9⟩
  · exact ⟨World.ownsRow_nil _ _ _ _, by simp [Value.ownBlock]⟩
  · exact ⟨⟨by simp, .inr ⟨g, cap, cur, by simp, Nat.zero_le _, a5, by simpa using a6, a7, by simpa using a8, by simpa using a9⟩⟩, by simp [Value.ownBlock]; exact a2⟩
/-- A buffer that holds nothing yet. -/
theorem BufP.zero {lr : Int} (h : LibA.Three w b o T R (.slice none 0 0) (.int .i64 0) (.int .i8 lr)) : BufP w T R b o [] none := ⟨_, lr, h, .inl ⟨rfl, rfl, rfl⟩⟩
theorem BufP.fresh (w : World) (T : TypeId) : BufP (w.alloc (.cells #[.slice none 0 0, .int .i64 0, .int .i8 0] T)) T (fun _ => none) w.heap.size 0 [] none :=
  BufP.zero (LibA.three_whole (heap_alloc_new w _))
end

theorem oneInts (l : List Int) : ∀ v ∈ l.map (Value.int .u8), v.oneCell' = true := fun v hv => by obtain ⟨x, _, rfl⟩ := List.mem_map.1 hv; rfl
theorem eqlNil (w : World) (a : Option Addr) (n c n' c' : Nat) : (binOp .eql 26 (.slice a n c) (.slice none n' c')).run Tryd.prog w = .ok (.bool a.isNone) w := Lib.run_eql_slice_nil w _ _ a n c n' c' Tryd.underlying26

/-- What grow leaves: a new row with room, in it the old bytes. -/
def Grew (T : TypeId) (R : Nat → Option Value) (b o : Nat) (bs : List Int) (n : Nat) (w : World) (e : Ending) (w' : World) : Prop :=
  ∃ cap cur lr, e = .returned (.int .i64 (bs.length : Int)) ∧ LibA.Three w' b o T R (.slice (some ⟨w.heap.size, 0, none⟩) (bs.length + n) cap) (.int .i64 0) (.int .i8 lr) ∧ w'.heap[w.heap.size]? = some (.cells cur 5 (0, 0)) ∧
    bs.length + n ≤ cap ∧ cap ≤ maxLen ∧ cur.size = cap ∧ cur.toList.take bs.length = bs.map (Value.int .u8) ∧ w.grownBy w' (some b)

theorem grew_end {T : TypeId} {R : Nat → Option Value} {b o n cap2 k l m : Nat} {bs : List Int} {v u : Value} {lr : Int} {w W1 w2 : World} {cells : Array Value} {e : Ending} (hl : bs.length = l) (hlm : l + n = m) (he : e = .returned (.int .i64 (l : Int))) (hW : W1 = w.drewN k)
    (h : LibA.Three w b o T R v (.int .i64 0) (.int .i8 lr)) (hN : w2.heap[W1.heap.size]? = some (.cells cells 5))
    (hsz : cells.size = cap2) (htk : cells.toList.take l = bs.map (Value.int .u8)) (hcap : l + n ≤ cap2) (hm : cap2 ≤ maxLen) (hb : Kp W1 w2) :
    Grew T R b o bs n w e (((w2.setCell ⟨b, o, none⟩ u).setCell ⟨b, o + 1, none⟩ (.int .i64 0)).setCell ⟨b, o, none⟩ (.slice (some ⟨W1.heap.size, 0, none⟩) m cap2)) := by
  subst hl hlm he
  have hs : W1.heap.size = w.heap.size := by rw [hW]; rfl
  have hk : Kp w w2 := Kp.trans (w := w) (a := W1) (by rw [hW]; exact (Kp.refl w).drewN k) hb
  have hlt := h.lt
  have hne : w.heap.size ≠ b := by omega
  have h3 := (((h.of_heap (hk.block b hlt)).set0 u).set1 (.int .i64 0)).set0 (.slice (some ⟨W1.heap.size, 0, none⟩) (bs.length + n) cap2)
  rw [hs] at h3 hN ⊢
  refine ⟨cap2, cells, lr, rfl, h3, ?_, hcap, hm, hsz, htk, grown_trans (grown_trans (grown_trans (grown_below hk _) (Lib.grownBy_setCell _ b o _)) (Lib.grownBy_setCell _ b (o + 1) _)) (Lib.grownBy_setCell _ b o _)⟩
  rw [Below.heap_setCell _ _ _ _ hne, Below.heap_setCell _ _ _ _ hne, Below.heap_setCell _ _ _ _ hne]
  exact hN

end Go.Proofs.YtacmnibhdmeidaaDoor
