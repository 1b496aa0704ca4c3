/-
  Packets of data, read back: what the walks of FnPacketData and FnPacketLength share.
-/
import Derived.Test.YtacmnibhdmeidaaDoorSpecData
import Derived.Deep.DeepCutAuto
namespace Go.Proofs.YtacmnibhdmeidaaDoor
open Go Go.RowKit

theorem bytes_equal_any (w : World) (p1 p2 : Option Addr) (n c m d : Nat) (xs ys : List Int) (hx : xs.length = n) (hy : ys.length = m) (h1 : Lib.BytesIn w p1 n xs) (h2 : Lib.BytesIn w p2 m ys) :
    Calls Tryd.prog 18 #[.slice p1 n c, .slice p2 m d] w fun e w' => e = .returned (.bool (Lib.bytesOf xs == Lib.bytesOf ys)) ∧ w' = w := Tryd.bytes_Equal_all p1 p2 n c m d xs ys w hx hy h1 h2
theorem bytes_equal_same (w : World) (p1 p2 : Option Addr) (n c d : Nat) (xs : List Int) (hx : xs.length = n) (h1 : Lib.BytesIn w p1 n xs) (h2 : Lib.BytesIn w p2 n xs) :
    Calls Tryd.prog 18 #[.slice p1 n c, .slice p2 n d] w fun e w' => e = .returned (.bool true) ∧ w' = w :=
  (bytes_equal_any w p1 p2 n c n d xs xs hx hx h1 h2).mono (by rintro e w' ⟨rfl, rfl⟩; simp)

/-- What DataRead returns of a packet with m bytes of data. -/
def DRM (len x5 y8 : Int) (m : Nat) (ys : List Int) (w : World) (e : Ending) (w' : World) : Prop := ∃ q d, e = .returned (.tuple #[.agg #[.int .u32 len, .int .u8 6, .int .u8 x5, .int .u16 10], .int .u16 y8, .slice q m d, .bool true]) ∧
  w'.ownsRow w.heap.size 5 1 (.slice q m d) m (ys.map (Value.int .u8)) ∧ Below w.heap.size w w'
theorem drm_eq (len x5 y8 : Int) (n : Nat) (ys : List Int) (w : World) : DataReadPost len x5 y8 (10 + n) ys w = DRM len x5 y8 n ys w := by
  unfold DataReadPost DRM headV
  rw [show 10 + n - 10 = n by omega]

/-- A row of the call's own that is not empty, with the block in which it lies. -/
theorem own_pos {w : World} {base : Nat} {e : TypeId} {v : Value} {n : Nat} {xs : List Int} (h : w.ownsRow base e 1 v n (xs.map (Value.int .u8))) (hn : 0 < n) :
    ∃ g d, v = .slice (some ⟨g, 0, none⟩) n d ∧ n ≤ d ∧ d ≤ maxLen ∧ Lib.BytesIn w (some ⟨g, 0, none⟩) n xs := by
  obtain ⟨p, c, rfl, hin⟩ := bin_own h
  have hc := own_cap h
  rcases h.2 with ⟨h, h0⟩ | ⟨g, cap, _, hv, _, _, _, hm, _⟩
  · omega
  · injection hv with hp h1 h2
    subst hp h2
    exact ⟨g, c, rfl, hc, hm, hin⟩
theorem bin_cells {w : World} {g n : Nat} {xs : List Int} (h : Lib.BytesIn w (some ⟨g, 0, none⟩) n xs) : ∀ i, i < n → w.cell? ⟨g, 0 + i, none⟩ = some (.int .u8 (xs.getD i 0)) := fun i hi => by
  obtain ⟨b, o, he, hc⟩ := h (by omega)
  injection he with he
  injection he with h1 h2
  subst h1 h2
  exact hc i hi

theorem blk_set4 {w : World} {b : Nat} {t : TypeId} {z0 z1 z2 z3 : Value} (h : Blk w b t #[z0, z1, z2, z3]) (v0 v1 v2 v3 : Value) :
    Blk ((((w.setCell ⟨b, 0, none⟩ v0).setCell ⟨b, 1, none⟩ v1).setCell ⟨b, 2, none⟩ v2).setCell ⟨b, 3, none⟩ v3) b t #[v0, v1, v2, v3] := by
  have := (((h.set_ 0 v0).set_ 1 v1).set_ 2 v2).set_ 3 v3
  simpa using this
theorem below_set4 {B b : Nat} {a w : World} (h : Below B a w) (hp : B ≤ b) (v0 v1 v2 v3 : Value) :
    Below B a ((((w.setCell ⟨b, 0, none⟩ v0).setCell ⟨b, 1, none⟩ v1).setCell ⟨b, 2, none⟩ v2).setCell ⟨b, 3, none⟩ v3) :=
  (((h.setCell (p := ⟨b, 0, none⟩) hp v0).setCell (p := ⟨b, 1, none⟩) hp v1).setCell (p := ⟨b, 2, none⟩) hp v2).setCell (p := ⟨b, 3, none⟩) hp v3
theorem own_set4 {w : World} {base b : Nat} {e : TypeId} {v : Value} {n : Nat} {xs : List Value} (h : w.ownsRow base e 1 v n xs) (hb : b < base) (v0 v1 v2 v3 : Value) :
    ((((w.setCell ⟨b, 0, none⟩ v0).setCell ⟨b, 1, none⟩ v1).setCell ⟨b, 2, none⟩ v2).setCell ⟨b, 3, none⟩ v3).ownsRow base e 1 v n xs :=
  ownsRow_setCell_below (ownsRow_setCell_below (ownsRow_setCell_below (ownsRow_setCell_below h (a := ⟨b, 0, none⟩) hb v0) (a := ⟨b, 1, none⟩) hb v1) (a := ⟨b, 2, none⟩) hb v2) (a := ⟨b, 3, none⟩) hb v3

/-- What is known behind the reading: the head's block, the data, the packet's bytes, the context's box, and that nothing old has changed. -/
def CutD (w : World) (c : Cx) (len : Int) (n : Nat) (xs zs : List Int) (q : Option Addr) (p : Option Addr) (s6 s7 s8 s9 : Value) (wx : World) : Prop :=
  ∃ hb r d, s6 = .pointer (some ⟨hb, 0, none⟩) ∧ s7 = .int .u16 0 ∧ s8 = .slice r n d ∧ s9 = .bool true ∧ Blk wx hb 25 #[.int .u32 len, .int .u8 6, .int .u8 0, .int .u16 10] ∧ Lib.BytesIn wx r n xs ∧
    Lib.BytesIn wx q (10 + n) zs ∧ Lib.BytesIn wx p n xs ∧ Blk wx w.heap.size 58 #[.int .u16 c.v, .int .u16 c.lo, .int .u16 c.op, .int .u16 c.oo, .int .u16 c.hi, .int .u8 c.a0, .int .u8 c.a1, .int .u32 c.su, .int .u32 c.tu, .bool c.cp] ∧ Below w.heap.size w wx

theorem cutD_mk {w w2 wx : World} {c : Cx} {len : Int} {n : Nat} {xs zs : List Int} {q p : Option Addr} {hb : Nat} {r : Option Addr} {d : Nat} (hk : Blk w2 w.heap.size 58 #[.int .u16 c.v, .int .u16 c.lo, .int .u16 c.op, .int .u16 c.oo, .int .u16 c.hi, .int .u8 c.a0, .int .u8 c.a1, .int .u32 c.su, .int .u32 c.tu, .bool c.cp])
    (hp : Lib.BytesIn w2 p n xs) (hB : Below w.heap.size w w2) (hq : Lib.BytesIn w2 q (10 + n) zs) (hx : Below w2.heap.size w2 wx) (hh : Blk wx hb 25 #[.int .u32 len, .int .u8 6, .int .u8 0, .int .u16 10]) (hr : Lib.BytesIn wx r n xs) :
    CutD w c len n xs zs q p (.pointer (some ⟨hb, 0, none⟩)) (.int .u16 0) (.slice r n d) (.bool true) wx :=
  ⟨hb, r, d, rfl, rfl, rfl, rfl, hh, hr, bin_below hq hx, bin_below hp hx, hk.old hx, hB.trans (hx.mono hB.size)⟩

theorem cx_cells {w : World} {g : Nat} {t : TypeId} {c : Cx} (h : Blk w g t #[.int .u16 c.v, .int .u16 c.lo, .int .u16 c.op, .int .u16 c.oo, .int .u16 c.hi, .int .u8 c.a0, .int .u8 c.a1, .int .u32 c.su, .int .u32 c.tu, .bool c.cp]) :
    w.cell? ⟨g, 0, none⟩ = some (.int .u16 c.v) ∧ w.cell? ⟨g, 1, none⟩ = some (.int .u16 c.lo) ∧ w.cell? ⟨g, 2, none⟩ = some (.int .u16 c.op) ∧ w.cell? ⟨g, 3, none⟩ = some (.int .u16 c.oo) ∧ w.cell? ⟨g, 4, none⟩ = some (.int .u16 c.hi) ∧ w.cell? ⟨g, 5, none⟩ = some (.int .u8 c.a0) ∧ w.cell? ⟨g, 6, none⟩ = some (.int .u8 c.a1) ∧ w.cell? ⟨g, 7, none⟩ = some (.int .u32 c.su) ∧ w.cell? ⟨g, 8, none⟩ = some (.int .u32 c.tu) ∧ w.cell? ⟨g, 9, none⟩ = some (.bool c.cp) :=
  ⟨h.cell 0, h.cell 1, h.cell 2, h.cell 3, h.cell 4, h.cell 5, h.cell 6, h.cell 7, h.cell 8, h.cell 9⟩
theorem head_cells {w : World} {g n : Nat} {t : TypeId} (h : Blk w g t #[.int .u32 ((n : Int) + 10), .int .u8 6, .int .u8 0, .int .u16 10]) :
    w.cell? ⟨g, 0, none⟩ = some (.int .u32 ((n : Int) + 10)) ∧ w.cell? ⟨g, 1, none⟩ = some (.int .u8 6) ∧ w.cell? ⟨g, 2, none⟩ = some (.int .u8 0) ∧ w.cell? ⟨g, 3, none⟩ = some (.int .u16 10) :=
  ⟨h.cell 0, h.cell 1, h.cell 2, h.cell 3⟩
end Go.Proofs.YtacmnibhdmeidaaDoor
