/-
  impl.SessionGet: the steps of a reader.
-/
import Derived.Test.YtacmnibhdmeidaaDoorSes11
import Derived.Test.YtacmnibhdmeidaaDoorSes7
namespace Go.Proofs.YtacmnibhdmeidaaDoor
open Go Go.RowKit

/-- A step of a reader. -/
structure GStep where
  kind : Nat
  size : Nat
  big : Bool
  comp : Bool
def GStep.cells (s : GStep) : List Value := [.int .i64 s.kind, .int .i64 s.size, .bool s.big, .bool s.comp]
def GetsIn (w : World) (a : Option Addr) (n : Nat) (P : Nat → GStep) : Prop := ∀ r, r < n → ∃ b o, a = some ⟨b, o, none⟩ ∧ (∀ j v, (P r).cells[j]? = some v → w.cell? ⟨b, o + r * 4 + j, none⟩ = some v)
theorem GetsIn.kp {w w' : World} {a : Option Addr} {n : Nat} {P : Nat → GStep} (h : GetsIn w a n P) (hk : Kp w w') : GetsIn w' a n P := fun r hr => by
  obtain ⟨b, o, h1, h2⟩ := h r hr
  exact ⟨b, o, h1, fun j v hv => (hk.below.cell (p := ⟨b, o + r * 4 + j, none⟩) (heap_lt_of_cell (h2 j v hv))).trans (h2 j v hv)⟩
/-- A run of steps: what is left ahead of each one, what each gives. -/
def RunR (big : Bool) (n : Nat) (P : Nat → GStep) (L : Nat → List Int) (V : Nat → GRec) : Prop := ∀ r, r < n → StepR big (P r).kind (P r).size (P r).big (P r).comp (L r) (V r) (L (r + 1))

/-- The cells of what steps give: at each place the record's own slices. -/
structure GPlace where
  q1 : Option Addr
  k1 : Nat
  m1 : Nat
  q2 : Option Addr
  k2 : Nat
  m2 : Nat
def gotCells (pl : GPlace) (v : GRec) : List Value := [.bool true, .slice pl.q1 pl.k1 pl.m1, .slice pl.q2 pl.k2 pl.m2, .int .i64 v.x, .string v.tx]
def gotRow (Q : Nat → GPlace) (V : Nat → GRec) : Nat → List Value
  | 0 => []
  | k + 1 => gotRow Q V k ++ gotCells (Q k) (V k)
/-- The bytes of what steps give, in memory. -/
def GotsIn (w : World) (k : Nat) (Q : Nat → GPlace) (V : Nat → GRec) : Prop := ∀ r, r < k → (V r).d1.length = (Q r).k1 ∧ Lib.BytesIn w (Q r).q1 (Q r).k1 (V r).d1 ∧ (V r).d2.length = (Q r).k2 ∧ Lib.BytesIn w (Q r).q2 (Q r).k2 (V r).d2

theorem infoGot : (Tryd.prog.info? 46).map (fun i => (i.zero, i.size, i.bytes)) = some (some (.agg #[.bool false, .slice none 0 0, .slice none 0 0, .int .i64 0, .string ⟨#[]⟩]), 5, 80) := by kernel_rfl
theorem own_lt' {w : World} {base : Nat} {e : TypeId} {size n : Nat} {v : Value} {xs : List Value} (h : w.ownsRow base e size v n xs) : ∀ r, v.ownBlock = some r → base ≤ r ∧ r < w.heap.size := fun r hr => by
  rcases h.2 with ⟨rfl, _⟩ | ⟨g', cap, cur, rfl, hb, hh, _⟩
  · simp [Value.ownBlock] at hr
  · have : g' = r := by simpa [Value.ownBlock] using hr
    subst this
    refine ⟨hb, ?_⟩
    rcases Nat.lt_or_ge g' w.heap.size with hlt | hge
    · exact hlt
    · rw [Array.getElem?_eq_none hge] at hh; cases hh
/-- append of one record. -/
theorem app_got (w : World) (base : Nat) (v : Value) (n : Nat) (xs : List Value) (hown : w.ownsRow base 46 5 v n xs) (g : Nat) (pl : GPlace) (u : GRec) (hg : Blk w g 46 (gotA true pl.q1 pl.k1 pl.m1 pl.q2 pl.k2 pl.m2 u.x u.tx)) (hn : n ≤ 1000) (hbase : base ≤ w.heap.size) :
    ∃ v' w', (Builtin.append_ #[48, 48] 48 #[v, .slice (some ⟨g, 0, none⟩) 1 1]).run Tryd.prog w = .ok v' w' ∧ w'.ownsRow base 46 5 v' (n + 1) (xs ++ gotCells pl u) ∧ w.grownBy w' v.ownBlock ∧ (v'.ownBlock = v.ownBlock ∨ v'.ownBlock = some w.heap.size) := by
  obtain ⟨i0, hi, hz0, hz1, hz2⟩ := info_parts infoGot
  obtain ⟨v', w', h1, h2, h3, _, h5⟩ := run_append_own_at (P := Tryd.prog) w base 48 48 46 i0 _ 5 80 Tryd.underlying48 hi hz0 hz1 hz2 rfl (by decide) v n xs hown ⟨g, 0, none⟩ 1 1 (gotCells pl u) rfl
    (fun j x hj => by rw [Go.WideShapes.add_plain, Nat.zero_add, hg.cell j, ← hj]; show ((gotCells pl u).toArray)[j]? = _; simp)
    (fun x hx => by simp only [gotCells, List.mem_cons, List.not_mem_nil, or_false] at hx; rcases hx with rfl | rfl | rfl | rfl | rfl <;> rfl) (by unfold maxLen; omega) (by omega) hbase
  exact ⟨v', w', h1, h2, h3, h5⟩

/-- What holds at the head of each round. -/
structure GetRel (g : Nat) (q1 : Option Addr) (m d1 : Nat) (xs : List Int) (big : Bool) (L : Nat → List Int) (V : Nat → GRec) (w : World) (k : Nat) (v : Value) (wr : World) (Q : Nat → GPlace) (i : Nat) : Prop where
  own : wr.ownsRow (g + 1) 46 5 v k (gotRow Q V k)
  gots : GotsIn wr k Q V
  far : ∀ r, r < k → (∀ a, (Q r).q1 = some a → a.block < wr.heap.size ∧ v.ownBlock ≠ some a.block) ∧ (∀ a, (Q r).q2 = some a → a.block < wr.heap.size ∧ v.ownBlock ≠ some a.block)
  rs : RS wr g q1 m d1 xs big i
  left : L k = xs.drop i
  kp : Kp w wr
theorem gotRow_put {Q : Nat → GPlace} {V : Nat → GRec} {pl : GPlace} : ∀ k j, j ≤ k → gotRow (fun r => if r = k then pl else Q r) V j = gotRow Q V j
  | _, 0, _ => rfl
  | k, j + 1, h => by
    simp only [gotRow, gotRow_put k j (by omega)]
    rw [if_neg (by omega)]
theorem GetRel.next {g : Nat} {q1 : Option Addr} {m d1 : Nat} {xs : List Int} {big : Bool} {L : Nat → List Int} {V : Nat → GRec} {w wr W3 W4 w5 : World} {k : Nat} {v v' : Value} {Q : Nat → GPlace} {i i' : Nat} {pl : GPlace}
    (h : GetRel g q1 m d1 xs big L V w k v wr Q i) (hgw : w.heap.size ≤ g) (h3 : wr.grownBy W3 (some g)) (hl1 : (V k).d1.length = pl.k1) (hin1 : Lib.BytesIn W3 pl.q1 pl.k1 (V k).d1) (hl2 : (V k).d2.length = pl.k2) (hin2 : Lib.BytesIn W3 pl.q2 pl.k2 (V k).d2)
    (hrs : RS W3 g q1 m d1 xs big i') (hleft : L (k + 1) = xs.drop i') (hf1 : ∀ a, pl.q1 = some a → wr.heap.size ≤ a.block ∧ a.block < W3.heap.size) (hf2 : ∀ a, pl.q2 = some a → wr.heap.size ≤ a.block ∧ a.block < W3.heap.size)
    (hk4 : Kp W3 W4) (h5 : w5.ownsRow (g + 1) 46 5 v' (k + 1) (gotRow Q V k ++ gotCells pl (V k))) (hg5 : W4.grownBy w5 v.ownBlock) (hv : v'.ownBlock = v.ownBlock ∨ v'.ownBlock = some W4.heap.size) :
    GetRel g q1 m d1 xs big L V w (k + 1) v' w5 (fun r => if r = k then pl else Q r) i' := by
  have hvl := own_lt' h.own
  have hsz3 := h3.size
  have hsz4 : W3.heap.size ≤ W4.heap.size := hk4.size
  have hsz5 := hg5.size
  have fv : ∀ b, b < W4.heap.size → v.ownBlock ≠ some b → v'.ownBlock ≠ some b := fun b hb hne e => by
    rcases hv with hv | hv
    · rw [hv] at e; exact hne e
    · rw [hv] at e; injection e; omega
  have keep : ∀ (q : Option Addr) (l : Nat) (d : List Int), Lib.BytesIn W3 q l d → (∀ a, q = some a → a.block < W3.heap.size ∧ v.ownBlock ≠ some a.block) → Lib.BytesIn w5 q l d := fun q l d hb hf hl => by
    obtain ⟨b, o, rfl, hc⟩ := hb hl
    obtain ⟨f1, f2⟩ := hf _ rfl
    dsimp only at f1 f2
    refine ⟨b, o, rfl, fun j hj => ?_⟩
    exact (World.cell?_of_block (hg5.block b (by omega) (fun e => f2 e.symm))).trans ((hk4.below.cell (p := ⟨b, o + j, none⟩) f1).trans (hc j hj))
  have new1 : ∀ a, pl.q1 = some a → a.block < W3.heap.size ∧ v.ownBlock ≠ some a.block := fun a ha => ⟨(hf1 a ha).2, fun e => by have := (hvl _ e).2; have := (hf1 a ha).1; omega⟩
  have new2 : ∀ a, pl.q2 = some a → a.block < W3.heap.size ∧ v.ownBlock ≠ some a.block := fun a ha => ⟨(hf2 a ha).2, fun e => by have := (hvl _ e).2; have := (hf2 a ha).1; omega⟩
  refine ⟨?_, ?_, ?_, ?_, hleft, ?_⟩
  · simp only [gotRow, gotRow_put k k (Nat.le_refl _), if_pos]
    exact h5
  · intro r hr
    by_cases e : r = k
    · subst e
      simp only [if_pos]
      exact ⟨hl1, keep _ _ _ hin1 new1, hl2, keep _ _ _ hin2 new2⟩
    · simp only [if_neg e]
      obtain ⟨a1, a2, a3, a4⟩ := h.gots r (by omega)
      obtain ⟨b1, b2⟩ := h.far r (by omega)
      exact ⟨a1, keep _ _ _ (h.rs.bin_on a2 h3) (fun a ha => ⟨Nat.lt_of_lt_of_le (b1 a ha).1 hsz3, (b1 a ha).2⟩), a3, keep _ _ _ (h.rs.bin_on a4 h3) (fun a ha => ⟨Nat.lt_of_lt_of_le (b2 a ha).1 hsz3, (b2 a ha).2⟩)⟩
  · intro r hr
    by_cases e : r = k
    · subst e
      simp only [if_pos]
      exact ⟨fun a ha => ⟨by have := (new1 a ha).1; omega, fv _ (by have := (new1 a ha).1; omega) (new1 a ha).2⟩, fun a ha => ⟨by have := (new2 a ha).1; omega, fv _ (by have := (new2 a ha).1; omega) (new2 a ha).2⟩⟩
    · simp only [if_neg e]
      obtain ⟨b1, b2⟩ := h.far r (by omega)
      exact ⟨fun a ha => ⟨by have := (b1 a ha).1; omega, fv _ (by have := (b1 a ha).1; omega) (b1 a ha).2⟩, fun a ha => ⟨by have := (b2 a ha).1; omega, fv _ (by have := (b2 a ha).1; omega) (b2 a ha).2⟩⟩
  · have r4 := hrs.kp hk4
    have hne : v.ownBlock ≠ some g := fun e => by have := (hvl _ e).1; omega
    refine { r4 with blk := r4.blk.grown hg5 (fun e => hne e.symm), inp := fun hn => ?_ }
    obtain ⟨b, o, he, hc⟩ := r4.inp hn
    obtain ⟨b', o', he', hlt⟩ := r4.old _ he
    injection he' with e1 e2
    exact ⟨b, o, he, fun j hj => (World.cell?_of_block (hg5.block b (heap_lt_of_cell (hc j hj)) (fun e => by have := (hvl _ e.symm).1; omega))).trans (hc j hj)⟩
  · have k3 : Kp w W3 := Below.trans h.kp ⟨h3.os, h3.tape, h3.output, h3.size, fun b hb => h3.block b (Nat.lt_of_lt_of_le hb h.kp.size) (fun e => by injection e; omega)⟩
    exact Kp.grown (k3.trans hk4) hg5 (fun r hr => by have := (hvl r hr).1; omega)

set_option maxRecDepth 100000 in
set_option maxHeartbeats 16000000 in
theorem sessionGet_any (p : Option Addr) (m cp : Nat) (xs : List Int) (a : Option Addr) (n c : Nat) (P : Nat → GStep) (L : Nat → List Int) (V : Nat → GRec) (big : Bool) (w : World) (hi : Lib.BytesIn w p m xs) (hx : xs.length = m) (hb : ∀ x ∈ xs, 0 ≤ x ∧ x < 256) (hm : m ≤ 1000000000) (h : GetsIn w a n P) (hn : n ≤ 1000) (hL : L 0 = xs) (hR : RunR big n P L V) :
    Calls Tryd.prog 14 #[.slice p m cp, .slice a n c, .bool big] w fun e w' => ∃ v q l d Q, e = .returned (.tuple #[v, .slice q l d]) ∧ w'.ownsRow w.heap.size 46 5 v n (gotRow Q V n) ∧ GotsIn w' n Q V ∧ (L n).length = l ∧ Lib.BytesIn w' q l (L n) ∧ Below w.heap.size w w' := by
  have HP := Lib.hid h
  have HR := Lib.hid hR
  have HN := Lib.hid hn
  have HX := Lib.hid hx
  have HB := Lib.hid hb
  have HL := Lib.hid hL
  have HM := Lib.hid hm
  have i0 : (n : Int) ≤ 1000 := by omega
  have CL := Lib.hid (clone_any w p m cp xs hi hx (by omega))
  clear h hR hn hx hb hL hi hm
  go_enter Tryd.func14, Tryd.ntmps14
  go_wp2_with fail
  refine CL.out.mono ?_
  rintro e w1 ⟨q1, d1, rfl, hown, hb1⟩
  have HO := Lib.hid hown
  have HB1 := Lib.hid hb1
  clear hown hb1 CL
  go_wp2_with fail
  refine (newSession_any _ _ ⟨_, _, _, rfl⟩).mono ?_
  rintro e w2 ⟨rfl, rfl⟩
  go_wp2_with fail
  generalize hW : w1.alloc (.cells #[.slice q1 m d1, .slice none 0 0, .int .i64 0, .int .i8 0, .int .i64 0, .bool big, .int .i64 64] 94) = W
  obtain ⟨g, hg⟩ : ∃ g, g = w1.heap.size := ⟨_, rfl⟩
  have hWs : W.heap.size = g + 1 := by rw [← hW, hg]; simp
  have hgw : w.heap.size ≤ g := by rw [hg]; exact HB1.out.size
  have HFR := Lib.hid (own_fresh HO.out)
  have H0 := Lib.hid (show GetRel g q1 m d1 xs big L V w 0 (.slice none 0 0) W (fun _ => ⟨none, 0, 0, none, 0, 0⟩) 0 from
    { own := by rw [← hWs]; exact World.ownsRow_nil _ _ _ _
      gots := fun r hr => absurd hr (by omega)
      far := fun r hr => absurd hr (by omega)
      rs :=
        { blk := by rw [hg, ← hW]; exact Blk.new w1 _ _
          inp := by rw [← hW]; exact bin_alloc (bin_of_own HO.out) _
          old := fun a ha => by
            subst ha
            rcases HO.out.2 with ⟨h, _⟩ | ⟨g', cap, cur, h, _⟩
            · cases h
            · injection h with h1
              injection h1 with h1
              subst h1
              exact ⟨g', 0, rfl, by rw [hg]; exact (HFR.out _ rfl).2⟩
          len := HX.out
          byt := HB.out
          le := Nat.zero_le _
          nc := own_cap HO.out
          nm := by have := HM.out; omega
          cm := by
            rcases HO.out.2 with ⟨h, _⟩ | ⟨_, _, _, h, _, _, _, hm, _⟩
            · injection h with _ _ h3; subst h3; decide
            · injection h with _ _ h3; omega
          nl := fun hq => by
            subst hq
            rcases HO.out.2 with ⟨h, _⟩ | ⟨_, _, _, h, _⟩
            · injection h
            · cases h }
      left := by rw [HL.out]; rfl
      kp := by rw [← hW]; exact HB1.out.alloc HB1.out.size _ })
  have HGW := Lib.hid hgw
  rw [← hg]
  clear hW hg hWs hgw
  go_loopg [22, 9] n (fun G st v wr => ∃ (k : Nat) (v0 : Value) (Q : Nat → GPlace) (i : Nat), G = n - k ∧ k ≤ n ∧ st = .int .i64 (k : Int) ∧ v0 = v ∧ GetRel g q1 m d1 xs big L V w k v0 wr Q i)
  case atStart => exact ⟨0, _, _, 0, rfl, Nat.zero_le _, rfl, rfl, H0.out⟩
  case round =>
    obtain ⟨k, v, Q, i, rfl, hk, rfl, rfl, hrel⟩ := hrel
    have HREL := Lib.hid hrel
    have HKN := Lib.hid hk
    have i1 : (0 : Int) ≤ (k : Int) := by omega
    have i2 : (k : Int) ≤ (n : Int) := by omega
    clear hrel hk
    by_cases hlt : k < n
    · have i3 : (k : Int) < (n : Int) := by omega
      obtain ⟨b, o, rfl, hc⟩ := (HP.out.kp HREL.out.kp) k hlt
      have HST := Lib.hid (HR.out k hlt)
      have HLT := Lib.hid hlt
      clear hlt
      generalize P k = s at *
      have d0 : wr.cell? ⟨b, o + k * 4, none⟩ = some (.int .i64 s.kind) := hc 0 _ rfl
      have d1' : wr.cell? ⟨b, o + k * 4 + 1, none⟩ = some (.int .i64 s.size) := hc 1 _ rfl
      have d2 : wr.cell? ⟨b, o + k * 4 + 2, none⟩ = some (.bool s.big) := hc 2 _ rfl
      have d3 : wr.cell? ⟨b, o + k * 4 + 3, none⟩ = some (.bool s.comp) := hc 3 _ rfl
      clear hc
      go_wp2_with fail
      have hrs := HREL.out.rs.kp ((Kp.refl wr).alloc (.cells #[.int .i64 (s.kind : Int), .int .i64 (s.size : Int), .bool s.big, .bool s.comp] 44))
      refine (got_any g q1 m d1 xs big i s.kind s.size s.big s.comp (V k) (L (k + 1)) _ hrs (by rw [← HREL.out.left]; exact HST.out)).mono ?_
      rintro e w3 ⟨qa, ka, ma, qb, kb, mb, i', rfl, hl1, hin1, hl2, hin2, hrs3, hleft, hg3, hf1, hf2⟩
      have hg3' : wr.grownBy w3 (some g) := grown_trans (grown_below ((Kp.refl wr).alloc (.cells #[.int .i64 (s.kind : Int), .int .i64 (s.size : Int), .bool s.big, .bool s.comp] 44)) _) hg3
      have hown4 : ((w3.alloc (.cells #[.bool true, .slice qa ka ma, .slice qb kb mb, .int .i64 (V k).x, .string (V k).tx] 46)).alloc (.cells #[.bool true, .slice qa ka ma, .slice qb kb mb, .int .i64 (V k).x, .string (V k).tx] 46)).ownsRow (g + 1) 46 5 v k (gotRow Q V k) :=
        ((HREL.out.own.kept hg3' (Or.inr (fun e => by have := (own_lt' HREL.out.own _ e).1; omega))).alloc _).alloc _
      obtain ⟨v', w5, happ, h5, hg5, hv5⟩ := app_got _ (g + 1) v k (gotRow Q V k) hown4 (w3.heap.size + 1) ⟨qa, ka, ma, qb, kb, mb⟩ (V k) (Blk.new2 w3 _ _ _) (by have := HN.out; have := HLT.out; omega) (by have := hrs3.blk.lt; simp; omega)
      have b5 : w5.cell? ⟨w3.heap.size, 0, none⟩ = some (.bool true) := by
        have hb := ((Blk.new w3 46 #[.bool true, .slice qa ka ma, .slice qb kb mb, .int .i64 (V k).x, .string (V k).tx]).alloc (.cells #[.bool true, .slice qa ka ma, .slice qb kb mb, .int .i64 (V k).x, .string (V k).tx] 46)).grown hg5 (fun e => by have := (own_lt' HREL.out.own _ e.symm).2; have := hg3'.size; omega)
        exact hb.cell 0
      have HAPP := Lib.hid happ
      have HNX := Lib.hid (HREL.out.next (pl := ⟨qa, ka, ma, qb, kb, mb⟩) HGW.out hg3' hl1 hin1 hl2 hin2 hrs3 hleft (fun a ha => by have := hf1 a ha; simp at this; omega) (fun a ha => by have := hf2 a ha; simp at this; omega) (((Kp.refl w3).alloc _).alloc _) h5 hg5 hv5)
      clear hl1 hin1 hl2 hin2 hrs3 hleft hg3 hg3' hf1 hf2 hown4 happ h5 hg5 hv5 hrs d0 d1' d2 d3
      go_wp2_with (at_builtin; refine Lib.wpList_append_run _ rfl _ _ _ _ rfl _ _ rfl rfl _ _ HAPP.out ?_)
      go_roundg (n - (k + 1))
      case measure => have := HLT.out; omega
      case rel => exact ⟨k + 1, v', _, i', rfl, by have := HLT.out; omega, by go_num, rfl, HNX.out⟩
    · obtain rfl : k = n := by have := HKN.out; omega
      go_wp2_with fail
      refine (rest_any g q1 m d1 xs big i wr HREL.out.rs).mono ?_
      rintro e w3 ⟨q3, l3, m3, nq, rfl, hl3, hin3, hw3⟩
      have HL3 := Lib.hid hl3
      have HIN3 := Lib.hid hin3
      have HW3 := Lib.hid hw3
      clear hl3 hin3 hw3
      go_wp2_with fail
      refine (clone_any w3 q3 l3 m3 (xs.drop i) HIN3.out HL3.out (by have h1 := HL3.out; have h2 := HX.out; have h3 := HM.out; rw [List.length_drop] at h1; omega)).mono ?_
      rintro e w4 ⟨q4, d4, rfl, hown, hb4⟩
      have HO4 := Lib.hid hown
      have HB4 := Lib.hid hb4
      clear hown hb4
      go_wp2_with fail
      go_ret2
      have hk4 : Kp wr w4 := (show Kp wr w3 by rw [HW3.out]; exact (Kp.refl wr).drewN nq).call HB4.out
      refine ⟨v, q4, l3, d4, Q, rfl, ?_, ?_, by rw [HREL.out.left]; exact HL3.out, by rw [HREL.out.left]; exact bin_of_own HO4.out, HREL.out.kp.trans hk4⟩
      · exact own_base (own_below HREL.out.own hk4) (by have := HGW.out; omega)
      · intro r hr
        obtain ⟨a1, a2, a3, a4⟩ := HREL.out.gots r hr
        exact ⟨a1, bin_kp a2 hk4, a3, bin_kp a4 hk4⟩
end Go.Proofs.YtacmnibhdmeidaaDoor
