/-
  impl.got: a step of a reader.
-/
import Derived.Test.YtacmnibhdmeidaaDoorSes10
import Derived.Deep.RegionWith
import Derived.Deep.DeepCutAuto
import Derived.Deep.CutBlock
namespace Go.Proofs.YtacmnibhdmeidaaDoor
open Go Go.RowKit

/-- What a step gives: bytes, other bytes, a number, a text. -/
structure GRec where
  d1 : List Int
  d2 : List Int
  x : Int
  tx : ByteArray
def noText : ByteArray := ⟨#[]⟩
def GotG (g : Nat) (p : Option Addr) (n c : Nat) (xs : List Int) (big : Bool) (r : List Int) (v : GRec) (w : World) (e : Ending) (w' : World) : Prop :=
  ∃ q1 k1 m1 q2 k2 m2 i, e = .returned (.agg #[.bool true, .slice q1 k1 m1, .slice q2 k2 m2, .int .i64 v.x, .string v.tx]) ∧ v.d1.length = k1 ∧ Lib.BytesIn w' q1 k1 v.d1 ∧ v.d2.length = k2 ∧ Lib.BytesIn w' q2 k2 v.d2 ∧ RS w' g p n c xs big i ∧ r = xs.drop i ∧ w.grownBy w' (some g) ∧
    (∀ a, q1 = some a → w.heap.size ≤ a.block ∧ a.block < w'.heap.size) ∧ (∀ a, q2 = some a → w.heap.size ≤ a.block ∧ a.block < w'.heap.size)
/-- A step of a reader: kind, size, with the most significant byte ahead, compressed; what it reads of what is left. -/
def StepR (big : Bool) (kd sz : Nat) (bg cm : Bool) (l : List Int) (v : GRec) (r : List Int) : Prop :=
  (kd = 0 ∧ ∃ b, l = b :: r ∧ v = ⟨[], [], b, noText⟩) ∨ (kd = 1 ∧ sz ≤ l.length ∧ v = ⟨l.take sz, [], 0, noText⟩ ∧ r = l.drop sz) ∨ (kd = 2 ∧ ∃ d, RdClr big l d r ∧ v = ⟨d, [], 0, noText⟩) ∨
  (kd = 3 ∧ ∃ d, RdDlc big l d r ∧ v = ⟨d, [], 0, noText⟩) ∨ ((kd = 4 ∨ kd = 5) ∧ (cm = false → 0 < sz ∧ sz ≤ 8) ∧ ∃ x, RdInt sz cm bg l x r ∧ v = ⟨[], [], x, noText⟩) ∨ (kd = 6 ∧ ∃ d1 d2 x, RdKv big l d1 d2 x r ∧ v = ⟨d1, d2, x, noText⟩) ∨
  (kd = 8 ∧ ∃ d, RdFixed l d r ∧ v = ⟨d, [], 0, noText⟩) ∨ (kd = 9 ∧ sz ≤ l.length ∧ v = ⟨l.take sz, [], 0, noText⟩ ∧ r = l)

/-- Behind the reading: the boxes and the session. -/
def GotC (G Rb g : Nat) (p : Option Addr) (n c : Nat) (xs : List Int) (big : Bool) (r : List Int) (v : GRec) (w : World) (wx : World) : Prop :=
  ∃ q1 k1 m1 q2 k2 m2 i, Blk wx G 46 #[.bool false, .slice q1 k1 m1, .slice q2 k2 m2, .int .i64 v.x, .string v.tx] ∧ Blk wx Rb 46 #[.bool false, .slice none 0 0, .slice none 0 0, .int .i64 0, .string noText] ∧
    v.d1.length = k1 ∧ Lib.BytesIn wx q1 k1 v.d1 ∧ v.d2.length = k2 ∧ Lib.BytesIn wx q2 k2 v.d2 ∧ RS wx g p n c xs big i ∧ r = xs.drop i ∧ w.grownBy wx (some g) ∧ v.d1.length ≤ 1099511627776 ∧ v.d2.length ≤ 1099511627776

theorem RS.dlen {w : World} {g n c i : Nat} {p : Option Addr} {xs : List Int} {big : Bool} (h : RS w g p n c xs big i) : (xs.drop i).length ≤ 1099511627776 := by
  have := h.len; have := h.nm; simp; omega
theorem parts_len {big : Bool} {l d r : List Int} (h : Parts big l d r) : d.length ≤ l.length := by
  induction h with
  | done h => simp
  | part h h0 hk t ih =>
    have := rdHead_len h
    simp at *
    omega
theorem rdClr_len {big : Bool} {l d r : List Int} (h : RdClr big l d r) : d.length ≤ l.length := by
  obtain ⟨b, t, rfl, ⟨_, rfl, _⟩ | ⟨_, hp⟩ | ⟨_, hl, rfl, _⟩⟩ := h
  · simp
  · have := parts_len hp; simp; omega
  · simp; omega
theorem rdPacked_len {l r : List Int} {x : Int} (h : RdPacked l x r) : r.length ≤ l.length := by
  obtain ⟨b, t, rfl, _, _, rfl, _⟩ := h
  simp; omega
theorem parts_rest {big : Bool} {l d r : List Int} (h : Parts big l d r) : r.length ≤ l.length := by
  induction h with
  | done h => have := rdHead_len h; omega
  | part h h0 hk t ih => have := rdHead_len h; simp at ih; omega
theorem rdClr_rest {big : Bool} {l d r : List Int} (h : RdClr big l d r) : r.length ≤ l.length := by
  obtain ⟨b, t, rfl, ⟨_, _, rfl⟩ | ⟨_, hp⟩ | ⟨_, hl, _, rfl⟩⟩ := h
  · simp
  · have := parts_rest hp; simp; omega
  · simp; omega
theorem rdDlc_len {big : Bool} {l d r : List Int} (h : RdDlc big l d r) : d.length ≤ l.length ∧ r.length ≤ l.length := by
  obtain ⟨v, t, hp, _, _, ⟨_, rfl, rfl⟩ | ⟨_, d', hc, rfl⟩⟩ := h
  · have := rdPacked_len hp; simp; omega
  · have := rdPacked_len hp; have := rdClr_len hc; have := rdClr_rest hc; simp; omega
theorem rdFixed_len {l d r : List Int} (h : RdFixed l d r) : d.length ≤ l.length := by
  obtain ⟨b, t, rfl, ⟨_, rfl, _⟩ | ⟨_, _, _, rfl, _⟩ | ⟨_, hl, rfl, _⟩⟩ := h
  · simp
  · simp; omega
  · simp; omega
/-- The cells of what a step gives. -/
def gotA (ok : Bool) (q1 : Option Addr) (k1 m1 : Nat) (q2 : Option Addr) (k2 m2 : Nat) (x : Int) (s : ByteArray) : Array Value := #[.bool ok, .slice q1 k1 m1, .slice q2 k2 m2, .int .i64 x, .string s]
theorem gotA_nb (ok : Bool) (q1 : Option Addr) (k1 m1 : Nat) (q2 : Option Addr) (k2 m2 : Nat) (x : Int) (s : ByteArray) (o : Nat) (y : Int) : (gotA ok q1 k1 m1 q2 k2 m2 x s)[o]? ≠ some (.int .u8 y) := by
  unfold gotA
  match o with
  | 0 => simp
  | 1 => simp
  | 2 => simp
  | 3 => simp
  | 4 => simp
  | o + 5 => simp
theorem bin_nb {w w' : World} {G : Nat} {t : TypeId} {cs : Array Value} {q : Option Addr} {l : Nat} {d : List Int} (h : Blk w G t cs) (hn : ∀ (o : Nat) (y : Int), cs[o]? ≠ some (.int .u8 y)) (hin : Lib.BytesIn w q l d) (hk : ∀ b, b < w.heap.size → b ≠ G → w'.heap[b]? = w.heap[b]?) : Lib.BytesIn w' q l d := fun hl => by
  obtain ⟨b, o, rfl, hc⟩ := hin hl
  have hne : b ≠ G := by
    rintro rfl
    have h0 := hc 0 hl
    rw [h.cell] at h0
    exact hn _ _ h0
  exact ⟨b, o, rfl, fun j hj => (World.cell?_of_block (hk b (heap_lt_of_cell (hc j hj)) hne)).trans (hc j hj)⟩
theorem grown_set {w a : World} {g : Nat} (h : w.grownBy a (some g)) {p : Addr} (hp : w.heap.size ≤ p.block) (v : Value) : w.grownBy (a.setCell p v) (some g) :=
  ⟨h.os, h.tape, h.output, by simpa [World.setCell] using h.size, fun i hi hn => (Below.heap_setCell a p v i (by omega)).trans (h.block i hi hn)⟩
section
variable {w W wx : World} {g G Rb n c i l m l2 m2 : Nat} {p q q2 : Option Addr} {xs r d d2 : List Int} {big : Bool} {x : Int}
/-- What stands ahead of the reading. -/
structure Pre (w W : World) (g G Rb : Nat) : Prop where
  gw : g < w.heap.size
  hG : w.heap.size ≤ G
  hR : w.heap.size ≤ Rb
  ne : Rb ≠ G
  bG : Blk W G 46 (gotA false none 0 0 none 0 0 0 noText)
  bR : Blk W Rb 46 (gotA false none 0 0 none 0 0 0 noText)
  kp : Kp w W
/-- The boxes behind a reading that has changed the session alone. -/
theorem Pre.on (h : Pre w W g G Rb) (hg : W.grownBy wx (some g)) : Blk wx G 46 (gotA false none 0 0 none 0 0 0 noText) ∧ Blk wx Rb 46 (gotA false none 0 0 none 0 0 0 noText) ∧ w.grownBy wx (some g) :=
  ⟨h.bG.grown hg (fun e => by injection e; have := h.gw; have := h.hG; omega), h.bR.grown hg (fun e => by injection e; have := h.gw; have := h.hR; omega), grown_trans (grown_below h.kp _) hg⟩
theorem gotC_b (h : Pre w W g G Rb) (hl : d.length = l) (hin : Lib.BytesIn wx q l d) (hRS : RS wx g p n c xs big i) (hr : r = xs.drop i) (hg : W.grownBy wx (some g)) (hd : d.length ≤ 1099511627776) :
    GotC G Rb g p n c xs big r ⟨d, [], 0, noText⟩ w (wx.setCell ⟨G, 1, none⟩ (.slice q l m)) := by
  obtain ⟨b1, b2, hw⟩ := h.on hg
  have b3 := b1.set_ 1 (.slice q l m)
  have b4 : Blk (wx.setCell ⟨G, 1, none⟩ (.slice q l m)) Rb 46 _ := (Below.heap_setCell _ _ _ _ h.ne).trans b2
  have hG := h.hG
  have hgw := h.gw
  exact ⟨q, l, m, none, 0, 0, i, by simpa [gotA] using b3, b4, hl, bin_nb b1 (gotA_nb _ _ _ _ _ _ _ _ _) hin (fun b _ hb => Below.heap_setCell _ _ _ _ hb), rfl, Lib.BytesIn.nil _ _ _, hRS.grown (Lib.grownBy_setCell wx G 1 _) (by omega), hr, grown_set hw (by exact hG) _, hd, by simp⟩
theorem gotC_n (h : Pre w W g G Rb) (hRS : RS wx g p n c xs big i) (hr : r = xs.drop i) (hg : W.grownBy wx (some g)) :
    GotC G Rb g p n c xs big r ⟨[], [], x, noText⟩ w (wx.setCell ⟨G, 3, none⟩ (.int .i64 x)) := by
  obtain ⟨b1, b2, hw⟩ := h.on hg
  have b3 := b1.set_ 3 (.int .i64 x)
  have b4 : Blk (wx.setCell ⟨G, 3, none⟩ (.int .i64 x)) Rb 46 _ := (Below.heap_setCell _ _ _ _ h.ne).trans b2
  have hG := h.hG
  have hgw := h.gw
  exact ⟨none, 0, 0, none, 0, 0, i, by simpa [gotA] using b3, b4, rfl, Lib.BytesIn.nil _ _ _, rfl, Lib.BytesIn.nil _ _ _, hRS.grown (Lib.grownBy_setCell wx G 3 _) (by omega), hr, grown_set hw (by exact hG) _, by simp, by simp⟩
theorem gotC_kv (h : Pre w W g G Rb) (hl : d.length = l) (hin : Lib.BytesIn wx q l d) (hl2 : d2.length = l2) (hin2 : Lib.BytesIn wx q2 l2 d2) (hRS : RS wx g p n c xs big i) (hr : r = xs.drop i) (hg : W.grownBy wx (some g)) (hd : d.length ≤ 1099511627776) (hd2 : d2.length ≤ 1099511627776) :
    GotC G Rb g p n c xs big r ⟨d, d2, x, noText⟩ w (((wx.setCell ⟨G, 1, none⟩ (.slice q l m)).setCell ⟨G, 2, none⟩ (.slice q2 l2 m2)).setCell ⟨G, 3, none⟩ (.int .i64 x)) := by
  obtain ⟨b1, b2, hw⟩ := h.on hg
  have b3 := ((b1.set_ 1 (.slice q l m)).set_ 2 (.slice q2 l2 m2)).set_ 3 (.int .i64 x)
  have hk : ∀ b, b ≠ G → (((wx.setCell ⟨G, 1, none⟩ (.slice q l m)).setCell ⟨G, 2, none⟩ (.slice q2 l2 m2)).setCell ⟨G, 3, none⟩ (.int .i64 x)).heap[b]? = wx.heap[b]? := fun b hb => (Below.heap_setCell _ ⟨G, 3, none⟩ _ _ hb).trans ((Below.heap_setCell _ ⟨G, 2, none⟩ _ _ hb).trans (Below.heap_setCell _ ⟨G, 1, none⟩ _ _ hb))
  have hG := h.hG
  have hgw := h.gw
  exact ⟨q, l, m, q2, l2, m2, i, by simpa [gotA] using b3, (hk _ h.ne).trans b2, hl, bin_nb b1 (gotA_nb _ _ _ _ _ _ _ _ _) hin (fun b _ hb => hk b hb), hl2, bin_nb b1 (gotA_nb _ _ _ _ _ _ _ _ _) hin2 (fun b _ hb => hk b hb),
    ((hRS.grown (Lib.grownBy_setCell wx G 1 _) (by omega)).grown (Lib.grownBy_setCell _ G 2 _) (by omega)).grown (Lib.grownBy_setCell _ G 3 _) (by omega), hr, grown_set (grown_set (grown_set hw (by exact hG) _) (by exact hG) _) (by exact hG) _, hd, hd2⟩
theorem own_fresh {w : World} {base k d : Nat} {q : Option Addr} {xs : List Value} (h : w.ownsRow base 5 1 (.slice q k d) k xs) : ∀ a, q = some a → base ≤ a.block ∧ a.block < w.heap.size := fun a ha => by
  subst ha
  rcases h.2 with ⟨h, _⟩ | ⟨g', cap, cur, h, hb, hh, _⟩
  · cases h
  · injection h with h1
    injection h1 with h1
    subst h1
    refine ⟨hb, ?_⟩
    rcases Nat.lt_or_ge g' w.heap.size with hlt | hge
    · exact hlt
    · rw [Array.getElem?_eq_none hge] at hh; cases hh
/-- A result's box, filled. -/
def filled (Y : World) (Rb : Nat) (q1 : Option Addr) (k1 m1 : Nat) (q2 : Option Addr) (k2 m2 : Nat) (x : Int) (s : ByteArray) : World :=
  ((((Y.setCell ⟨Rb, 0, none⟩ (.bool true)).setCell ⟨Rb, 1, none⟩ (.slice q1 k1 m1)).setCell ⟨Rb, 2, none⟩ (.slice q2 k2 m2)).setCell ⟨Rb, 3, none⟩ (.int .i64 x)).setCell ⟨Rb, 4, none⟩ (.string s)
theorem filled_blk {Y : World} {q1 q2 : Option Addr} {k1 m1 k2 m2 : Nat} {x : Int} {s : ByteArray} (h : Blk Y Rb 46 (gotA false none 0 0 none 0 0 0 noText)) : Blk (filled Y Rb q1 k1 m1 q2 k2 m2 x s) Rb 46 (gotA true q1 k1 m1 q2 k2 m2 x s) := by
  have := ((((h.set_ 0 (.bool true)).set_ 1 (.slice q1 k1 m1)).set_ 2 (.slice q2 k2 m2)).set_ 3 (.int .i64 x)).set_ 4 (.string s)
  unfold filled
  simpa [gotA] using this
theorem filled_heap {Y : World} {q1 q2 : Option Addr} {k1 m1 k2 m2 : Nat} {x : Int} {s : ByteArray} (b : Nat) (hb : b ≠ Rb) : (filled Y Rb q1 k1 m1 q2 k2 m2 x s).heap[b]? = Y.heap[b]? :=
  (Below.heap_setCell _ ⟨Rb, 4, none⟩ _ _ hb).trans ((Below.heap_setCell _ ⟨Rb, 3, none⟩ _ _ hb).trans ((Below.heap_setCell _ ⟨Rb, 2, none⟩ _ _ hb).trans ((Below.heap_setCell _ ⟨Rb, 1, none⟩ _ _ hb).trans (Below.heap_setCell _ ⟨Rb, 0, none⟩ _ _ hb))))
theorem filled_got {Y : World} {q1 q2 : Option Addr} {k1 m1 k2 m2 : Nat} {v : GRec} {e : Ending} (he : e = .returned (.agg #[.bool true, .slice q1 k1 m1, .slice q2 k2 m2, .int .i64 v.x, .string v.tx])) (h : Blk Y Rb 46 (gotA false none 0 0 none 0 0 0 noText)) (hg : g < w.heap.size) (hR : w.heap.size ≤ Rb) (hl1 : v.d1.length = k1) (hin1 : Lib.BytesIn Y q1 k1 v.d1) (hl2 : v.d2.length = k2) (hin2 : Lib.BytesIn Y q2 k2 v.d2) (hRS : RS Y g p n c xs big i) (hr : r = xs.drop i) (hw : w.grownBy Y (some g))
    (hf1 : ∀ a, q1 = some a → w.heap.size ≤ a.block ∧ a.block < Y.heap.size) (hf2 : ∀ a, q2 = some a → w.heap.size ≤ a.block ∧ a.block < Y.heap.size) :
    GotG g p n c xs big r v w e (filled Y Rb q1 k1 m1 q2 k2 m2 v.x v.tx) := by
  have hz : (filled Y Rb q1 k1 m1 q2 k2 m2 v.x v.tx).heap.size = Y.heap.size := by simp [filled, World.setCell]
  have hk := fun b (_ : b < Y.heap.size) (hb : b ≠ Rb) => filled_heap (Y := Y) (q1 := q1) (k1 := k1) (m1 := m1) (q2 := q2) (k2 := k2) (m2 := m2) (x := v.x) (s := v.tx) b hb
  refine ⟨q1, k1, m1, q2, k2, m2, i, he, hl1, bin_nb h (gotA_nb _ _ _ _ _ _ _ _ _) hin1 hk, hl2, bin_nb h (gotA_nb _ _ _ _ _ _ _ _ _) hin2 hk, ?_, hr, ?_, fun a ha => by rw [hz]; exact hf1 a ha, fun a ha => by rw [hz]; exact hf2 a ha⟩
  · exact ((((hRS.grown (Lib.grownBy_setCell Y Rb 0 _) (by omega)).grown (Lib.grownBy_setCell _ Rb 1 _) (by omega)).grown (Lib.grownBy_setCell _ Rb 2 _) (by omega)).grown (Lib.grownBy_setCell _ Rb 3 _) (by omega)).grown (Lib.grownBy_setCell _ Rb 4 _) (by omega)
  · exact grown_set (grown_set (grown_set (grown_set (grown_set hw (by exact hR) _) (by exact hR) _) (by exact hR) _) (by exact hR) _) (by exact hR) _
end

set_option maxRecDepth 100000 in
set_option maxHeartbeats 64000000 in
theorem got_any (g : Nat) (p : Option Addr) (n c : Nat) (xs : List Int) (big : Bool) (i kd sz : Nat) (bg cm : Bool) (v : GRec) (r : List Int) (w : World) (h : RS w g p n c xs big i) (hs : StepR big kd sz bg cm (xs.drop i) v r) :
    Calls Tryd.prog 33 #[.pointer (some ⟨g, 0, none⟩), .agg #[.int .i64 (kd : Int), .int .i64 (sz : Int), .bool bg, .bool cm]] w (GotG g p n c xs big r v w) := by
  have hlt := h.blk.lt
  have H := Lib.hid h
  have HS := Lib.hid hs
  have i0 : (0 : Int) ≤ (sz : Int) := by omega
  clear h hs
  go_enter Tryd.func33, Tryd.ntmps33
  go_upto_block 0 with (fail)
  generalize hW : ((w.alloc (.cells #[.int .i64 (kd : Int), .int .i64 (sz : Int), .bool bg, .bool cm] 44)).alloc (.cells #[.bool false, .slice none 0 0, .slice none 0 0, .int .i64 0, .string { data := #[] }] 46)).alloc (.cells #[.bool false, .slice none 0 0, .slice none 0 0, .int .i64 0, .string { data := #[] }] 46) = W
  obtain ⟨G, hG⟩ : ∃ G, G = w.heap.size + 1 + 1 := ⟨_, rfl⟩
  obtain ⟨Rb, hRb⟩ : ∃ Rb, Rb = w.heap.size + 1 := ⟨_, rfl⟩
  obtain ⟨Sb, hSb⟩ : ∃ Sb, Sb = w.heap.size := ⟨_, rfl⟩
  have HX := Lib.hid (show Blk W Sb 44 #[.int .i64 (kd : Int), .int .i64 (sz : Int), .bool bg, .bool cm] from by rw [hSb, ← hW]; exact ((Blk.new w _ _).alloc _).alloc _)
  have HPre := Lib.hid (show Pre w W g G Rb from ⟨hlt, by omega, by omega, by omega,
    by rw [hG, ← hW]; have := Blk.new2 (w.alloc (.cells #[.int .i64 (kd : Int), .int .i64 (sz : Int), .bool bg, .bool cm] 44)) (.cells #[.bool false, .slice none 0 0, .slice none 0 0, .int .i64 0, .string { data := #[] }] 46) 46 #[.bool false, .slice none 0 0, .slice none 0 0, .int .i64 0, .string { data := #[] }]; rw [World.size_alloc] at this; exact this,
    by rw [hRb, ← hW]; exact (Blk.new2 w _ _ _).alloc _,
    by rw [← hW]; exact (((Kp.refl w).alloc _).alloc _).alloc _⟩)
  have HRS := Lib.hid (H.out.kp HPre.out.kp)
  have hSG : Sb ≠ g := by omega
  have HSG := Lib.hid hSG
  rw [← hG, ← hRb, ← hSb]
  clear hW hG hRb hSb hSG
  go_cut [1, 6, 15] (fun _ s6 _ wx => s6 = .nilIface ∧ GotC G Rb g p n c xs big r v w wx)
  case first =>
    have x1 : W.cell? ⟨Sb, 1, none⟩ = some (.int .i64 (sz : Int)) := HX.out.cell 1
    have x2 : W.cell? ⟨Sb, 2, none⟩ = some (.bool bg) := HX.out.cell 2
    have x3 : W.cell? ⟨Sb, 3, none⟩ = some (.bool cm) := HX.out.cell 3
    rcases HS.out with ⟨hk, b, hl, hv⟩ | ⟨hk, hsz, hv, hr⟩ | ⟨hk, d, hd, hv⟩ | ⟨hk, d, hd, hv⟩ | ⟨hk, hsz, x, hd, hv⟩ | ⟨hk, d1, d2, x, hd, hv⟩ | ⟨hk, d, hd, hv⟩ | ⟨hk, hsz, hv, hr⟩
    · have e : (kd : Int) = 0 := by omega
      have HL := Lib.hid hl
      have hb := H.out.byt b (List.mem_of_mem_drop (i := i) (by rw [hl]; simp))
      have j0 : 0 ≤ b := hb.1
      have j1 : b < 256 := hb.2
      subst hv
      clear hk hl hb
      go_wp2_with fail
      refine (getByte_any g p n c xs big i b r W HRS.out HL.out).mono ?_
      rintro e w1 ⟨i1, rfl, hR, hr1, hg1⟩
      have HR := Lib.hid hR
      have HRR := Lib.hid hr1
      have HG1 := Lib.hid hg1
      have y3 : w1.cell? ⟨G, 3, none⟩ = some (.int .i64 0) := (HPre.out.on HG1.out).1.cell 3
      have f3 : w1.frozen? ⟨G, 3, none⟩ = false := (HPre.out.on HG1.out).1.frozen 3
      clear hR hr1 hg1 x1 x2 x3
      go_wp2_with fail
      go_meet
      exact ⟨rfl, gotC_n HPre.out HR.out HRR.out HG1.out⟩
    · have e : (kd : Int) = 1 := by omega
      have HZ := Lib.hid hsz
      subst hr
      clear hsz
      subst hv
      clear hk
      go_wp2_with fail
      refine ((getBytes_any g p n c xs big i sz W HRS.out (by have := H.out.len; have := H.out.le; have := HZ.out; simp at this; omega)).mono fun e w1 h => gotB_of_R h).mono ?_
      rintro e w1 ⟨q, l, m, i1, rfl, hl, hin, hlm, hmm, hR, hr1, hg1⟩
      have HL := Lib.hid hl
      have HIN := Lib.hid hin
      have HR := Lib.hid hR
      have HRR := Lib.hid hr1
      have HG1 := Lib.hid hg1
      have y1 : w1.cell? ⟨G, 1, none⟩ = some (.slice none 0 0) := (HPre.out.on HG1.out).1.cell 1
      have f1 : w1.frozen? ⟨G, 1, none⟩ = false := (HPre.out.on HG1.out).1.frozen 1
      clear hl hin hR hr1 hg1 x1 x2 x3 hlm hmm
      go_wp2_with fail
      go_meet
      exact ⟨rfl, gotC_b HPre.out HL.out HIN.out HR.out (by rw [List.drop_drop]; exact HRR.out) HG1.out (Nat.le_trans (by simp; omega) H.out.dlen)⟩
    · have e : (kd : Int) = 2 := by omega
      have HD := Lib.hid hd
      clear hd
      subst hv
      clear hk
      go_wp2_with fail
      refine (getClr_any g p n c xs big i d r W HRS.out HD.out).mono ?_
      rintro e w1 ⟨q, l, m, i1, rfl, hl, hin, hlm, hmm, hR, hr1, hg1⟩
      have HL := Lib.hid hl
      have HIN := Lib.hid hin
      have HR := Lib.hid hR
      have HRR := Lib.hid hr1
      have HG1 := Lib.hid hg1
      have y1 : w1.cell? ⟨G, 1, none⟩ = some (.slice none 0 0) := (HPre.out.on HG1.out).1.cell 1
      have f1 : w1.frozen? ⟨G, 1, none⟩ = false := (HPre.out.on HG1.out).1.frozen 1
      clear hl hin hR hr1 hg1 x1 x2 x3 hlm hmm
      go_wp2_with fail
      go_meet
      exact ⟨rfl, gotC_b HPre.out HL.out HIN.out HR.out HRR.out HG1.out (Nat.le_trans (rdClr_len HD.out) H.out.dlen)⟩
    · have e : (kd : Int) = 3 := by omega
      have HD := Lib.hid hd
      obtain ⟨b, t, hbt, hb8⟩ : ∃ b t, xs.drop i = b :: t ∧ (b % 128).toNat ≤ 8 := by obtain ⟨_, _, ⟨b, t, h1, h2, _⟩, _⟩ := hd; exact ⟨b, t, h1, h2⟩
      have HBT := Lib.hid hbt
      have HB8 := Lib.hid hb8
      subst hv
      clear hk hd hbt hb8
      go_wp2_with fail
      refine (long_no g p n c xs big i b t W HRS.out HBT.out HB8.out).mono ?_
      rintro e w0 ⟨rfl, hR0, hg0⟩
      have HR0 := Lib.hid hR0
      have HG0 := Lib.hid hg0
      clear hR0 hg0 x1 x2 x3
      go_wp2_with fail
      refine (getDlc_any g p n c xs big i d r w0 HR0.out HD.out).mono ?_
      rintro e w1 ⟨q, l, m, i1, rfl, hl, hin, hlm, hmm, hR, hr1, hg1⟩
      have HL := Lib.hid hl
      have HIN := Lib.hid hin
      have HR := Lib.hid hR
      have HRR := Lib.hid hr1
      have HG1 := Lib.hid (grown_trans HG0.out hg1)
      have y1 : w1.cell? ⟨G, 1, none⟩ = some (.slice none 0 0) := (HPre.out.on HG1.out).1.cell 1
      have f1 : w1.frozen? ⟨G, 1, none⟩ = false := (HPre.out.on HG1.out).1.frozen 1
      clear hl hin hR hr1 hg1 hlm hmm
      go_wp2_with fail
      go_meet
      exact ⟨rfl, gotC_b HPre.out HL.out HIN.out HR.out HRR.out HG1.out (Nat.le_trans ((rdDlc_len HD.out).1) H.out.dlen)⟩
    · have HD := Lib.hid hd
      have HZ := Lib.hid hsz
      subst hv
      clear hsz
      cases cm
      · have j0 : (0 : Int) < (sz : Int) := by have := (HZ.out (by simp)).1; omega
        have j1 : (sz : Int) ≤ 8 := by have := (HZ.out (by simp)).2; omega
        clear hd
        rcases hk with hk | hk
        · have e : (kd : Int) = 4 := by omega
          clear hk
          have x0 : W.cell? ⟨Sb, 0, none⟩ = some (.int .i64 (kd : Int)) := HX.out.cell 0
          go_wp2_with fail
          refine (getInt64_any g p n c xs big false bg i sz x r W HRS.out (fun _ => HZ.out (by simp)) HD.out).mono ?_
          rintro e w1 ⟨i1, rfl, hR, hr1, hg1⟩
          have HR := Lib.hid hR
          have HRR := Lib.hid hr1
          have HG1 := Lib.hid (hg1)
          have y3 : w1.cell? ⟨G, 3, none⟩ = some (.int .i64 0) := (HPre.out.on HG1.out).1.cell 3
          have f3 : w1.frozen? ⟨G, 3, none⟩ = false := (HPre.out.on HG1.out).1.frozen 3
          clear hR hr1 hg1 x0 x1 x2 x3
          go_wp2_with fail
          go_meet
          exact ⟨rfl, gotC_n HPre.out HR.out HRR.out HG1.out⟩
        · have e : (kd : Int) = 5 := by omega
          clear hk
          have x0 : W.cell? ⟨Sb, 0, none⟩ = some (.int .i64 (kd : Int)) := HX.out.cell 0
          go_wp2_with fail
          refine (getInt_any g p n c xs big false bg i sz x r W HRS.out (fun _ => HZ.out (by simp)) HD.out).mono ?_
          rintro e w1 ⟨i1, rfl, hR, hr1, hg1⟩
          have HR := Lib.hid hR
          have HRR := Lib.hid hr1
          have HG1 := Lib.hid (hg1)
          have y3 : w1.cell? ⟨G, 3, none⟩ = some (.int .i64 0) := (HPre.out.on HG1.out).1.cell 3
          have f3 : w1.frozen? ⟨G, 3, none⟩ = false := (HPre.out.on HG1.out).1.frozen 3
          clear hR hr1 hg1 x0 x1 x2 x3
          go_wp2_with fail
          go_meet
          exact ⟨rfl, gotC_n HPre.out HR.out HRR.out HG1.out⟩
      · obtain ⟨b, t, hbt, hb8⟩ : ∃ b t, xs.drop i = b :: t ∧ (b % 128).toNat ≤ 8 := by obtain ⟨b, t, h1, h2, _⟩ := hd; exact ⟨b, t, h1, h2⟩
        have HBT := Lib.hid hbt
        have HB8 := Lib.hid hb8
        clear hd hbt hb8
        rcases hk with hk | hk
        · have e : (kd : Int) = 4 := by omega
          clear hk
          go_wp2_with fail
          refine (long_no g p n c xs big i b t W HRS.out HBT.out HB8.out).mono ?_
          rintro e w0 ⟨rfl, hR0, hg0⟩
          have HR0 := Lib.hid hR0
          have HG0 := Lib.hid hg0
          have HXX := Lib.hid (HX.out.grown hg0 (fun e => HSG.out (by injection e)))
          have x0 : w0.cell? ⟨Sb, 0, none⟩ = some (.int .i64 (kd : Int)) := HXX.out.cell 0
          have x1 : w0.cell? ⟨Sb, 1, none⟩ = some (.int .i64 (sz : Int)) := HXX.out.cell 1
          have x2 : w0.cell? ⟨Sb, 2, none⟩ = some (.bool bg) := HXX.out.cell 2
          have x3 : w0.cell? ⟨Sb, 3, none⟩ = some (.bool true) := HXX.out.cell 3
          clear hR0 hg0
          go_wp2_with fail
          refine (getInt64_any g p n c xs big true bg i sz x r w0 HR0.out (fun h => by cases h) HD.out).mono ?_
          rintro e w1 ⟨i1, rfl, hR, hr1, hg1⟩
          have HR := Lib.hid hR
          have HRR := Lib.hid hr1
          have HG1 := Lib.hid (grown_trans HG0.out hg1)
          have y3 : w1.cell? ⟨G, 3, none⟩ = some (.int .i64 0) := (HPre.out.on HG1.out).1.cell 3
          have f3 : w1.frozen? ⟨G, 3, none⟩ = false := (HPre.out.on HG1.out).1.frozen 3
          clear hR hr1 hg1 x0 x1 x2 x3
          go_wp2_with fail
          go_meet
          exact ⟨rfl, gotC_n HPre.out HR.out HRR.out HG1.out⟩
        · have e : (kd : Int) = 5 := by omega
          clear hk
          go_wp2_with fail
          refine (long_no g p n c xs big i b t W HRS.out HBT.out HB8.out).mono ?_
          rintro e w0 ⟨rfl, hR0, hg0⟩
          have HR0 := Lib.hid hR0
          have HG0 := Lib.hid hg0
          have HXX := Lib.hid (HX.out.grown hg0 (fun e => HSG.out (by injection e)))
          have x0 : w0.cell? ⟨Sb, 0, none⟩ = some (.int .i64 (kd : Int)) := HXX.out.cell 0
          have x1 : w0.cell? ⟨Sb, 1, none⟩ = some (.int .i64 (sz : Int)) := HXX.out.cell 1
          have x2 : w0.cell? ⟨Sb, 2, none⟩ = some (.bool bg) := HXX.out.cell 2
          have x3 : w0.cell? ⟨Sb, 3, none⟩ = some (.bool true) := HXX.out.cell 3
          clear hR0 hg0
          go_wp2_with fail
          refine (getInt_any g p n c xs big true bg i sz x r w0 HR0.out (fun h => by cases h) HD.out).mono ?_
          rintro e w1 ⟨i1, rfl, hR, hr1, hg1⟩
          have HR := Lib.hid hR
          have HRR := Lib.hid hr1
          have HG1 := Lib.hid (grown_trans HG0.out hg1)
          have y3 : w1.cell? ⟨G, 3, none⟩ = some (.int .i64 0) := (HPre.out.on HG1.out).1.cell 3
          have f3 : w1.frozen? ⟨G, 3, none⟩ = false := (HPre.out.on HG1.out).1.frozen 3
          clear hR hr1 hg1 x0 x1 x2 x3
          go_wp2_with fail
          go_meet
          exact ⟨rfl, gotC_n HPre.out HR.out HRR.out HG1.out⟩
    · have e : (kd : Int) = 6 := by omega
      have HD := Lib.hid hd
      subst hv
      clear hk hd
      go_wp2_with fail
      refine (getKv_any g p n c xs big i d1 d2 r x W HRS.out HD.out).mono ?_
      rintro e w1 ⟨q1, l1, m1, q2, l2, m2, i1, rfl, hl1, hin1, hl2, hin2, hR, hr1, hg1⟩
      have HL1 := Lib.hid hl1
      have HIN1 := Lib.hid hin1
      have HL2 := Lib.hid hl2
      have HIN2 := Lib.hid hin2
      have HR := Lib.hid hR
      have HRR := Lib.hid hr1
      have HG1 := Lib.hid hg1
      have y1 : w1.cell? ⟨G, 1, none⟩ = some (.slice none 0 0) := (HPre.out.on HG1.out).1.cell 1
      have f1 : w1.frozen? ⟨G, 1, none⟩ = false := (HPre.out.on HG1.out).1.frozen 1
      have y2 : w1.cell? ⟨G, 2, none⟩ = some (.slice none 0 0) := (HPre.out.on HG1.out).1.cell 2
      have f2 : w1.frozen? ⟨G, 2, none⟩ = false := (HPre.out.on HG1.out).1.frozen 2
      have y3 : w1.cell? ⟨G, 3, none⟩ = some (.int .i64 0) := (HPre.out.on HG1.out).1.cell 3
      have f3 : w1.frozen? ⟨G, 3, none⟩ = false := (HPre.out.on HG1.out).1.frozen 3
      clear hl1 hin1 hl2 hin2 hR hr1 hg1 x1 x2 x3
      go_wp2_with fail
      go_meet
      have hlen : d1.length ≤ (xs.drop i).length ∧ d2.length ≤ (xs.drop i).length := by
        obtain ⟨t, u, h1, h2, _⟩ := HD.out
        have a1 := rdDlc_len h1
        have a2 := rdDlc_len h2
        omega
      exact ⟨rfl, gotC_kv HPre.out HL1.out HIN1.out HL2.out HIN2.out HR.out HRR.out HG1.out (Nat.le_trans hlen.1 H.out.dlen) (Nat.le_trans hlen.2 H.out.dlen)⟩
    · have e : (kd : Int) = 8 := by omega
      have HD := Lib.hid hd
      clear hd
      subst hv
      clear hk
      go_wp2_with fail
      refine (getFixed_any g p n c xs big i d r W HRS.out HD.out).mono ?_
      rintro e w1 ⟨q, l, m, i1, rfl, hl, hin, hlm, hmm, hR, hr1, hg1⟩
      have HL := Lib.hid hl
      have HIN := Lib.hid hin
      have HR := Lib.hid hR
      have HRR := Lib.hid hr1
      have HG1 := Lib.hid hg1
      have y1 : w1.cell? ⟨G, 1, none⟩ = some (.slice none 0 0) := (HPre.out.on HG1.out).1.cell 1
      have f1 : w1.frozen? ⟨G, 1, none⟩ = false := (HPre.out.on HG1.out).1.frozen 1
      clear hl hin hR hr1 hg1 x1 x2 x3 hlm hmm
      go_wp2_with fail
      go_meet
      exact ⟨rfl, gotC_b HPre.out HL.out HIN.out HR.out HRR.out HG1.out (Nat.le_trans (rdFixed_len HD.out) H.out.dlen)⟩
    · have e : (kd : Int) = 9 := by omega
      have HZ := Lib.hid hsz
      subst hr
      clear hsz
      subst hv
      clear hk
      go_wp2_with fail
      refine (peek_any g p n c xs big i sz W HRS.out (by have := H.out.len; have := H.out.le; have := HZ.out; simp at this; omega)).mono ?_
      rintro e w1 ⟨q, l, m, i1, rfl, hl, hin, hlm, hmm, hR, hr1, hg1⟩
      have HL := Lib.hid hl
      have HIN := Lib.hid hin
      have HR := Lib.hid hR
      have HRR := Lib.hid hr1
      have HG1 := Lib.hid hg1
      have y1 : w1.cell? ⟨G, 1, none⟩ = some (.slice none 0 0) := (HPre.out.on HG1.out).1.cell 1
      have f1 : w1.frozen? ⟨G, 1, none⟩ = false := (HPre.out.on HG1.out).1.frozen 1
      clear hl hin hR hr1 hg1 x1 x2 x3 hlm hmm
      go_wp2_with fail
      go_meet
      exact ⟨rfl, gotC_b HPre.out HL.out HIN.out HR.out HRR.out HG1.out (Nat.le_trans (by simp; omega) H.out.dlen)⟩
  case rest =>
    obtain ⟨rfl, q1, k1, m1, q2, k2, m2, i2, b1, b2, hl1, hin1, hl2, hin2, hR, hr, hg, hd1, hd2⟩ := hcut
    have HB1 := Lib.hid b1
    have HB2 := Lib.hid b2
    have HL1 := Lib.hid hl1
    have HIN1 := Lib.hid hin1
    have HL2 := Lib.hid hl2
    have HIN2 := Lib.hid hin2
    have HR := Lib.hid hR
    have HRR := Lib.hid hr
    have HG := Lib.hid hg
    have HD1 := Lib.hid hd1
    have HD2 := Lib.hid hd2
    have y0 : wc.cell? ⟨G, 0, none⟩ = some (.bool false) := b1.cell 0
    have f0 : wc.frozen? ⟨G, 0, none⟩ = false := b1.frozen 0
    clear b1 b2 hl1 hin1 hl2 hin2 hR hr hg hd1 hd2
    go_wp2_with fail
    generalize hX : wc.setCell ⟨G, 0, none⟩ (.bool true) = X
    have HXB := Lib.hid (show Blk X G 46 (gotA true q1 k1 m1 q2 k2 m2 v.x v.tx) from by have := HB1.out.set_ 0 (.bool true); rw [hX] at this; simpa [gotA] using this)
    have HXR := Lib.hid (show Blk X Rb 46 (gotA false none 0 0 none 0 0 0 noText) from by rw [← hX]; exact (Below.heap_setCell _ ⟨G, 0, none⟩ _ _ HPre.out.ne).trans HB2.out)
    have HX1 := Lib.hid (show Lib.BytesIn X q1 k1 v.d1 from bin_nb HB1.out (gotA_nb _ _ _ _ _ _ _ _ _) HIN1.out (fun b _ hb => by rw [← hX]; exact Below.heap_setCell _ ⟨G, 0, none⟩ _ _ hb))
    have HX2 := Lib.hid (show Lib.BytesIn X q2 k2 v.d2 from bin_nb HB1.out (gotA_nb _ _ _ _ _ _ _ _ _) HIN2.out (fun b _ hb => by rw [← hX]; exact Below.heap_setCell _ ⟨G, 0, none⟩ _ _ hb))
    have HXS := Lib.hid (show RS X g p n c xs big i2 from by rw [← hX]; exact HR.out.grown (Lib.grownBy_setCell wc G 0 _) (by have := HPre.out.gw; have := HPre.out.hG; omega))
    have HXG := Lib.hid (show w.grownBy X (some g) from by rw [← hX]; exact grown_set HG.out (by exact HPre.out.hG) _)
    have x1 : X.cell? ⟨G, 1, none⟩ = some (.slice q1 k1 m1) := HXB.out.cell 1
    have x2 : X.cell? ⟨G, 2, none⟩ = some (.slice q2 k2 m2) := HXB.out.cell 2
    have z1 : X.frozen? ⟨G, 1, none⟩ = false := HXB.out.frozen 1
    have z2 : X.frozen? ⟨G, 2, none⟩ = false := HXB.out.frozen 2
    clear hX y0 f0 HX HRS HB1 HB2 HIN1 HIN2 HR HG
    go_region_with (first
      | (go_at_call 9
         refine (clone_any _ q1 k1 m1 v.d1 ?_ HL1.out (by have := HL1.out; have := HD1.out; omega)).mono ?_
         exact HX1.out
         rintro e w3 ⟨q3, e3, rfl, hown, hb3⟩
         have HO3 := Lib.hid (bin_of_own hown)
         have HF3 := Lib.hid (own_fresh hown)
         have HK3 := Lib.hid (show Kp X w3 from ⟨hb3.os, hb3.tape, hb3.output, hb3.size, hb3.block⟩)
         have x1 : w3.cell? ⟨G, 1, none⟩ = some (.slice q1 k1 m1) := (HXB.out.kp HK3.out).cell 1
         have x2 : w3.cell? ⟨G, 2, none⟩ = some (.slice q2 k2 m2) := (HXB.out.kp HK3.out).cell 2
         have z1 : w3.frozen? ⟨G, 1, none⟩ = false := (HXB.out.kp HK3.out).frozen 1
         have z2 : w3.frozen? ⟨G, 2, none⟩ = false := (HXB.out.kp HK3.out).frozen 2
         clear hown hb3)
      | (go_at_call 9
         refine (clone_any _ q2 k2 m2 v.d2 ?_ HL2.out (by have := HL2.out; have := HD2.out; omega)).mono ?_
         exact bin_kp HX2.out HK3.out
         rintro e w4 ⟨q4, e4, rfl, hown, hb4⟩
         have HO4 := Lib.hid (bin_of_own hown)
         have HF4 := Lib.hid (own_fresh hown)
         have HK34 := Lib.hid (show Kp w3 w4 from ⟨hb4.os, hb4.tape, hb4.output, hb4.size, hb4.block⟩)
         have HK4 := Lib.hid (HK3.out.trans HK34.out)
         have x1 : w4.cell? ⟨G, 1, none⟩ = some (.slice q1 k1 m1) := (HXB.out.kp HK4.out).cell 1
         have x2 : w4.cell? ⟨G, 2, none⟩ = some (.slice q2 k2 m2) := (HXB.out.kp HK4.out).cell 2
         have z1 : w4.frozen? ⟨G, 1, none⟩ = false := (HXB.out.kp HK4.out).frozen 1
         have z2 : w4.frozen? ⟨G, 2, none⟩ = false := (HXB.out.kp HK4.out).frozen 2
         clear hown hb4))
    all_goals
      generalize hY : (w4.setCell ⟨G, 1, none⟩ (.slice q3 k1 e3)).setCell ⟨G, 2, none⟩ (.slice q4 k2 e4) = Y
      have hkY : ∀ b, b ≠ G → Y.heap[b]? = w4.heap[b]? := fun b hb => by rw [← hY]; exact (Below.heap_setCell _ ⟨G, 2, none⟩ _ _ hb).trans (Below.heap_setCell _ ⟨G, 1, none⟩ _ _ hb)
      have hbY : Blk Y G 46 (gotA true q3 k1 e3 q4 k2 e4 v.x v.tx) := by have := ((HXB.out.kp HK4.out).set_ 1 (.slice q3 k1 e3)).set_ 2 (.slice q4 k2 e4); rw [hY] at this; simpa [gotA] using this
      have hrY : Blk Y Rb 46 (gotA false none 0 0 none 0 0 0 noText) := (hkY _ HPre.out.ne).trans (HXR.out.kp HK4.out)
      have HBY := Lib.hid hbY
      have HRY := Lib.hid hrY
      have HGY := Lib.hid (show w.grownBy Y (some g) from by rw [← hY]; exact grown_set (grown_set (grown_trans HXG.out (grown_below HK4.out _)) (by exact HPre.out.hG) _) (by exact HPre.out.hG) _)
      have HSY := Lib.hid (show RS Y g p n c xs big i2 from by rw [← hY]; exact ((HXS.out.kp HK4.out).grown (Lib.grownBy_setCell w4 G 1 _) (by have := HPre.out.gw; have := HPre.out.hG; omega)).grown (Lib.grownBy_setCell _ G 2 _) (by have := HPre.out.gw; have := HPre.out.hG; omega))
      have H3Y := Lib.hid (show Lib.BytesIn Y q3 k1 v.d1 from bin_nb (HXB.out.kp HK4.out) (gotA_nb _ _ _ _ _ _ _ _ _) (bin_kp HO3.out HK34.out) (fun b _ hb => hkY b hb))
      have H4Y := Lib.hid (show Lib.BytesIn Y q4 k2 v.d2 from bin_nb (HXB.out.kp HK4.out) (gotA_nb _ _ _ _ _ _ _ _ _) HO4.out (fun b _ hb => hkY b hb))
      have a0 : Y.cell? ⟨G, 0, none⟩ = some (.bool true) := hbY.cell 0
      have a1 : Y.cell? ⟨G, 1, none⟩ = some (.slice q3 k1 e3) := hbY.cell 1
      have a2 : Y.cell? ⟨G, 2, none⟩ = some (.slice q4 k2 e4) := hbY.cell 2
      have a3 : Y.cell? ⟨G, 3, none⟩ = some (.int .i64 v.x) := hbY.cell 3
      have a4 : Y.cell? ⟨G, 4, none⟩ = some (.string v.tx) := hbY.cell 4
      have r0 : Y.cell? ⟨Rb, 0, none⟩ = some (.bool false) := hrY.cell 0
      have r1 : Y.cell? ⟨Rb, 1, none⟩ = some (.slice none 0 0) := hrY.cell 1
      have r2 : Y.cell? ⟨Rb, 2, none⟩ = some (.slice none 0 0) := hrY.cell 2
      have r3 : Y.cell? ⟨Rb, 3, none⟩ = some (.int .i64 0) := hrY.cell 3
      have r4 : Y.cell? ⟨Rb, 4, none⟩ = some (.string noText) := hrY.cell 4
      have e0 : Y.frozen? ⟨Rb, 0, none⟩ = false := hrY.frozen 0
      have e1 : Y.frozen? ⟨Rb, 1, none⟩ = false := hrY.frozen 1
      have e2 : Y.frozen? ⟨Rb, 2, none⟩ = false := hrY.frozen 2
      have e3' : Y.frozen? ⟨Rb, 3, none⟩ = false := hrY.frozen 3
      have e4' : Y.frozen? ⟨Rb, 4, none⟩ = false := hrY.frozen 4
      have HSZ := Lib.hid (show Y.heap.size = w4.heap.size from by rw [← hY]; simp [World.setCell])
      have HFY3 := Lib.hid (show ∀ a, q3 = some a → w.heap.size ≤ a.block ∧ a.block < Y.heap.size from fun a ha => by
        have h1 := HF3.out a ha; have h2 := HXG.out.size; have h3 := HK34.out.size; (try simp only [World.size_drew] at h1); rw [HSZ.out]; omega)
      have HFY4 := Lib.hid (show ∀ a, q4 = some a → w.heap.size ≤ a.block ∧ a.block < Y.heap.size from fun a ha => by
        have h1 := HF4.out a ha; have h2 := HXG.out.size; have h3 := HK3.out.size; (try simp only [World.size_drew] at h1); rw [HSZ.out]; omega)
      clear hY hkY hbY hrY
      go_wp2_with fail
    all_goals
      have hbl := filled_blk (q1 := q3) (k1 := k1) (m1 := e3) (q2 := q4) (k2 := k2) (m2 := e4) (x := v.x) (s := v.tx) HRY.out
      have hfin := fun e he => filled_got (m1 := e3) (m2 := e4) (v := v) (e := e) he HRY.out HPre.out.gw HPre.out.hR HL1.out H3Y.out HL2.out H4Y.out HSY.out HRR.out HGY.out HFY3.out HFY4.out
      unfold filled at hbl hfin
      generalize ((((Y.setCell ⟨Rb, 0, none⟩ (.bool true)).setCell ⟨Rb, 1, none⟩ (.slice q3 k1 e3)).setCell ⟨Rb, 2, none⟩ (.slice q4 k2 e4)).setCell ⟨Rb, 3, none⟩ (.int .i64 v.x)).setCell ⟨Rb, 4, none⟩ (.string v.tx) = Z at *
      have s0 : Z.cell? ⟨Rb, 0, none⟩ = some (.bool true) := hbl.cell 0
      have s1 : Z.cell? ⟨Rb, 1, none⟩ = some (.slice q3 k1 e3) := hbl.cell 1
      have s2 : Z.cell? ⟨Rb, 2, none⟩ = some (.slice q4 k2 e4) := hbl.cell 2
      have s3 : Z.cell? ⟨Rb, 3, none⟩ = some (.int .i64 v.x) := hbl.cell 3
      have s4 : Z.cell? ⟨Rb, 4, none⟩ = some (.string v.tx) := hbl.cell 4
      exact bodyPost_ret (v := .agg #[.bool true, .slice q3 k1 e3, .slice q4 k2 e4, .int .i64 v.x, .string v.tx]) (by simp [results, Tryd.results33, go_sem, s0, s1, s2, s3, s4]) rfl (hfin _ rfl)

end Go.Proofs.YtacmnibhdmeidaaDoor
