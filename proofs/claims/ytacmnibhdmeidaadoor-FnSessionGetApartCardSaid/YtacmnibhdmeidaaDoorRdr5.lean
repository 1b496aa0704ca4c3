/-
  The reference's reader: a step.
-/
import Derived.Test.YtacmnibhdmeidaaDoorRdr4
import Derived.Test.YtacmnibhdmeidaaDoorIdx
import Derived.Deep.RegionLaw
import Derived.Deep.AppendLies
import Derived.Test.YtacmnibhdmeidaaDoorSes11
import Derived.Laws.ResultCell
import Derived.Laws.Rows
namespace Go.Proofs.YtacmnibhdmeidaaDoor
open Go Go.RowKit

/-- A step of a reader, texts too. -/
def StepT (big : Bool) (kd sz : Nat) (bg cm : Bool) (l : List Int) (v : GRec) (r : List Int) : Prop :=
  StepR big kd sz bg cm l v r ∨ (kd = 7 ∧ sz ≤ l.length ∧ ∃ k, Idx0 (l.take sz) k ∧ (k = -1 ∧ v = ⟨[], [], 0, textB (l.take sz)⟩ ∧ r = l.drop sz ∨ ∃ j : Nat, 0 < j ∧ k = j ∧ v = ⟨[], [], 0, textB ((l.take sz).take j)⟩ ∧ r = l.drop (j + 1)))

def zGot : Array Value := #[.bool false, .slice none 0 0, .slice none 0 0, .int .i64 0, .string noText]
/-- Amid a step: the boxes and the reader. -/
structure Mid (w : World) (R G Rb : Nat) (cs : Array Value) (p : Option Addr) (n c : Nat) (l : List Int) (t o : Bool) (wx : World) : Prop where
  g : Blk wx G 46 cs
  rb : Blk wx Rb 46 zGot
  rd : Rd wx R p n c l t o
  gr : w.grownBy wx (some R)
  far : ∀ a, p = some a → a.block ≠ G
  far2 : ∀ a, p = some a → a.block ≠ Rb
  hG : w.heap.size ≤ G
  hR : R < w.heap.size
  hRb : w.heap.size ≤ Rb
  ne : Rb ≠ G
section
variable {w wx w' : World} {R G Rb : Nat} {cs : Array Value} {p p' : Option Addr} {n c n' c' : Nat} {l l' : List Int} {t o t' o' : Bool}
theorem Mid.call (h : Mid w R G Rb cs p n c l t o wx) (hg : wx.grownBy w' (some R)) (hrd : Rd w' R p' n' c' l' t' o') (hs : Sub p p') : Mid w R G Rb cs p' n' c' l' t' o' w' :=
  { h with g := h.g.grown hg (fun e => by injection e with e; have := h.hG; have := h.hR; omega), rb := h.rb.grown hg (fun e => by injection e with e; have := h.hRb; have := h.hR; omega), rd := hrd, gr := grown_trans h.gr hg, far := fun a ha => by obtain ⟨b, hb, e⟩ := hs a ha; rw [e]; exact h.far b hb, far2 := fun a ha => by obtain ⟨b, hb, e⟩ := hs a ha; rw [e]; exact h.far2 b hb }
theorem Mid.put (h : Mid w R G Rb cs p n c l t o wx) (i : Nat) (u : Value) : Mid w R G Rb (cs.setIfInBounds i u) p n c l t o (wx.setCell ⟨G, i, none⟩ u) :=
  have hg := Lib.grownBy_setCell wx G i u
  { h with
    g := h.g.set_ i u
    rb := h.rb.grown hg (fun e => by injection e with e; exact h.ne e)
    rd := h.rd.grown hg (fun k hk => by injection hk with hk; subst hk; exact .inr ⟨by have := h.hG; have := h.hR; omega, h.far⟩)
    gr := grown_new h.gr hg (fun k hk => by injection hk with hk; subst hk; exact h.hG) }
end
/-- Behind the switch. -/
def MidX (w : World) (R G Rb : Nat) (big : Bool) (kd sz : Nat) (bg cm : Bool) (l : List Int) (t o : Bool) (wx : World) : Prop :=
  ∃ q1 k1 m1 q2 k2 m2 x s p' n' c' l' t' o', Mid w R G Rb #[.bool false, .slice q1 k1 m1, .slice q2 k2 m2, .int .i64 x, .string s] p' n' c' l' t' o' wx ∧ l'.length ≤ l.length ∧
    ((t' = true ∨ o' = true) ∨ t' = false ∧ o' = false ∧ t = false ∧ o = false ∧ ∃ v, StepT big kd sz bg cm l v l')
/-- What a step gives. -/
def ReadP (R : Nat) (big : Bool) (kd sz : Nat) (bg cm : Bool) (l : List Int) (t o : Bool) (w : World) (e : Ending) (w' : World) : Prop :=
  ∃ q1 k1 m1 q2 k2 m2 x s p' n' c' l' t' o', e = .returned (.agg #[.bool (!t'), .slice q1 k1 m1, .slice q2 k2 m2, .int .i64 x, .string s]) ∧ Rd w' R p' n' c' l' t' o' ∧ w.grownBy w' (some R) ∧ l'.length ≤ l.length ∧
    ((t' = true ∨ o' = true) ∨ t' = false ∧ o' = false ∧ t = false ∧ o = false ∧ ∃ v, StepT big kd sz bg cm l v l')

set_option maxRecDepth 100000 in
set_option maxHeartbeats 32000000 in
theorem read_step (R : Nat) (p : Option Addr) (n c : Nat) (l : List Int) (t o big : Bool) (kd sz : Nat) (bg cm : Bool) (w : World) (h : Rd w R p n c l t o) (hkd : kd ≤ 9) (hsz : sz ≤ 255) (h45 : kd = 4 ∨ kd = 5 → 0 < sz ∧ sz ≤ 8) :
    Calls Tryd.prog 13 #[.pointer (some ⟨R, 0, none⟩), .agg #[.int .i64 (kd : Int), .int .i64 (sz : Int), .bool bg, .bool cm], .bool big] w (ReadP R big kd sz bg cm l t o w) := by
  have hlt := h.blk.lt
  have H := Lib.hid h
  have HKD := Lib.hid hkd
  have HSZ := Lib.hid hsz
  have H45 := Lib.hid h45
  have i0 : (0 : Int) ≤ (sz : Int) := by omega
  have i1 : (sz : Int) ≤ 255 := by omega
  clear h hkd hsz h45
  go_enter Tryd.func13, Tryd.ntmps13
  go_upto_block 0 with (fail)
  generalize hW : ((w.alloc (.cells #[.int .i64 (kd : Int), .int .i64 (sz : Int), .bool bg, .bool cm] 44)).alloc (.cells #[.bool false, .slice none 0 0, .slice none 0 0, .int .i64 0, .string { data := #[] }] 46)).alloc (.cells #[.bool false, .slice none 0 0, .slice none 0 0, .int .i64 0, .string { data := #[] }] 46) = W
  obtain ⟨G, hG⟩ : ∃ G, G = w.heap.size + 1 + 1 := ⟨_, rfl⟩
  obtain ⟨Rb, hRb⟩ : ∃ Rb, Rb = w.heap.size + 1 := ⟨_, rfl⟩
  obtain ⟨Sb, hSb⟩ : ∃ Sb, Sb = w.heap.size := ⟨_, rfl⟩
  have hkW : Kp w W := by rw [← hW]; exact (((Kp.refl w).alloc _).alloc _).alloc _
  have HX := Lib.hid (show Blk W Sb 44 #[.int .i64 (kd : Int), .int .i64 (sz : Int), .bool bg, .bool cm] from by rw [hSb, ← hW]; exact ((Blk.new w _ _).alloc _).alloc _)
  have HM := Lib.hid (show Mid w R G Rb zGot p n c l t o W from
    { g := by rw [hG, ← hW]; have := Blk.new2 (w.alloc (.cells #[.int .i64 (kd : Int), .int .i64 (sz : Int), .bool bg, .bool cm] 44)) (.cells #[.bool false, .slice none 0 0, .slice none 0 0, .int .i64 0, .string { data := #[] }] 46) 46 #[.bool false, .slice none 0 0, .slice none 0 0, .int .i64 0, .string { data := #[] }]; rw [World.size_alloc] at this; exact this
      rb := by rw [hRb, ← hW]; exact (Blk.new2 w _ _ _).alloc _
      rd := H.out.kp hkW
      gr := grown_below hkW _
      far := fun x hx => by obtain ⟨b, o', e, h1, _⟩ := H.out.old x hx; subst e; dsimp only; omega
      far2 := fun x hx => by obtain ⟨b, o', e, h1, _⟩ := H.out.old x hx; subst e; dsimp only; omega
      hG := by omega
      hR := hlt
      hRb := by omega
      ne := by omega })
  have HSR := Lib.hid (show Sb ≠ R from by omega)
  have HKW := Lib.hid hkW
  rw [← hG, ← hRb, ← hSb]
  clear hW hG hRb hSb hkW
  go_cut [1, 8, 9, 10, 11, 12, 14, 15, 27, 34, 40, 46, 62, 75, 109, 120, 142, 153] (fun s1 s8 s9 s10 s11 s12 s14 s15 s27 s34 s40 s46 s62 s75 s109 s120 s142 s153 wx => MidX w R G Rb big kd sz bg cm l t o wx)
  case first =>
    have x1 : W.cell? ⟨Sb, 1, none⟩ = some (.int .i64 (sz : Int)) := HX.out.cell 1
    have x2 : W.cell? ⟨Sb, 2, none⟩ = some (.bool bg) := HX.out.cell 2
    have x3 : W.cell? ⟨Sb, 3, none⟩ = some (.bool cm) := HX.out.cell 3
    have hcases : kd = 0 ∨ kd = 1 ∨ kd = 2 ∨ kd = 3 ∨ kd = 4 ∨ kd = 5 ∨ kd = 6 ∨ kd = 7 ∨ kd = 8 ∨ kd = 9 := by have := HKD.out; omega
    rcases hcases with hk | hk | hk | hk | hk | hk | hk | hk | hk | hk
    · have e : (kd : Int) = 0 := by omega
      go_wp2_with fail
      refine (take_any R p n c l t o 1 W HM.out.rd).mono ?_
      rintro e w1 ⟨q1, m1, d1, p1, n1, c1, l1, t1, ys1, rfl, hrd, hg, hin, hys, hmd, hdm, hfar, hq, hyb, hll, hsz1, hsub, hres⟩
      have M1 := Lib.hid (HM.out.call hg hrd hsub)
      have HLL1 := Lib.hid hll
      clear hrd hg hll hsub hmd hdm hfar hq hsz1
      rcases hres with ⟨rfl, rfl, _⟩ | ⟨rfl, rfl, rfl, kn, hkn, hkl, hy, hl'⟩
      · obtain rfl : m1 = 0 := hys.symm
        clear hin hys hyb
        go_wp2_with fail
        go_meet
        exact ⟨none, 0, 0, none, 0, 0, 0, noText, p1, n1, c1, l1, true, o, M1.out, HLL1.out, .inl (.inl rfl)⟩
      · obtain ⟨x, hl, hyb1⟩ := take_one hkn hkl hy hl'
        clear hy hl' hkn hkl
        subst hyb1
        obtain rfl : m1 = 1 := hys.symm
        obtain ⟨g3, o3, rfl, hc⟩ := hin (by omega)
        have e0 : w1.cell? ⟨g3, o3, none⟩ = some (.int .u8 x) := hc 0 (by omega)
        have hx := hyb x (List.mem_cons_self ..)
        have j0 := hx.1
        have j1 := hx.2
        have HLX := Lib.hid hl
        have y3 : w1.cell? ⟨G, 3, none⟩ = some (.int .i64 0) := M1.out.g.cell 3
        have f3 := M1.out.g.frozen 3
        clear hc hin hys hyb hl hx
        go_wp2_with fail
        go_meet
        exact ⟨none, 0, 0, none, 0, 0, x, noText, p1, n1, c1, l1, false, false, M1.out.put 3 (.int .i64 x), HLL1.out, .inr ⟨rfl, rfl, rfl, rfl, ⟨[], [], x, noText⟩, .inl (.inl ⟨hk, x, HLX.out, rfl⟩)⟩⟩
    · have e : (kd : Int) = 1 := by omega
      go_wp2_with fail
      refine (take_any R p n c l t o (sz : Int) W HM.out.rd).mono ?_
      rintro e w1 ⟨q1, m1, d1, p1, n1, c1, l1, t1, ys1, rfl, hrd, hg, hin, hys, hmd, hdm, hfar, hq, hyb, hll, hsz1, hsub, hres⟩
      have M1 := Lib.hid (HM.out.call hg hrd hsub)
      have HLL1 := Lib.hid hll
      have y1 : w1.cell? ⟨G, 1, none⟩ = some (.slice none 0 0) := M1.out.g.cell 1
      have f1 := M1.out.g.frozen 1
      have HRES := Lib.hid hres
      clear hrd hg hin hys hmd hdm hfar hq hyb hll hsz1 hsub hres
      go_wp2_with fail
      go_meet
      refine ⟨q1, m1, d1, none, 0, 0, 0, noText, p1, n1, c1, l1, t1, o, M1.out.put 1 (.slice q1 m1 d1), HLL1.out, ?_⟩
      rcases HRES.out with ⟨h1, _⟩ | ⟨h1, h2, h3, kn, h4, h5, h6, h7⟩
      · exact .inl (.inl h1)
      · obtain rfl : sz = kn := by omega
        exact .inr ⟨h1, h3, h2, h3, ⟨l.take sz, [], 0, noText⟩, .inl (.inr (.inl ⟨hk, h5, rfl, h7⟩))⟩
    · have e : (kd : Int) = 2 := by omega
      go_wp2_with fail
      refine (clr_any R p n c l t o big W HM.out.rd).mono ?_
      rintro e w1 ⟨q1, m1, d1, p1, n1, c1, l1, t1, o1, ys1, rfl, hrd, hg, hsub, hin, hys, hmd, hdm, hmm, hq, hll, hres⟩
      have M1 := Lib.hid (HM.out.call hg hrd hsub)
      have HLL1 := Lib.hid hll
      have y1 : w1.cell? ⟨G, 1, none⟩ = some (.slice none 0 0) := M1.out.g.cell 1
      have f1 := M1.out.g.frozen 1
      have HRES := Lib.hid hres
      clear hrd hg hsub hin hys hmd hdm hmm hq hll hres
      go_wp2_with fail
      go_meet
      refine ⟨q1, m1, d1, none, 0, 0, 0, noText, p1, n1, c1, l1, t1, o1, M1.out.put 1 (.slice q1 m1 d1), HLL1.out, ?_⟩
      rcases HRES.out with h1 | ⟨h1, h2, h3, h4, h5⟩
      · exact .inl h1
      · exact .inr ⟨h1, h2, h3, h4, ⟨ys1, [], 0, noText⟩, .inl (.inr (.inr (.inl ⟨hk, ys1, h5, rfl⟩)))⟩
    · have e : (kd : Int) = 3 := by omega
      go_wp2_with fail
      refine (dlc_any R p n c l t o big W HM.out.rd).mono ?_
      rintro e w1 ⟨q1, m1, d1, p1, n1, c1, l1, t1, o1, ys1, rfl, hrd, hg, hsub, hin, hys, hmd, hdm, hmm, hq, hll, hres⟩
      have M1 := Lib.hid (HM.out.call hg hrd hsub)
      have HLL1 := Lib.hid hll
      have y1 : w1.cell? ⟨G, 1, none⟩ = some (.slice none 0 0) := M1.out.g.cell 1
      have f1 := M1.out.g.frozen 1
      have HRES := Lib.hid hres
      clear hrd hg hsub hin hys hmd hdm hmm hq hll hres
      go_wp2_with fail
      go_meet
      refine ⟨q1, m1, d1, none, 0, 0, 0, noText, p1, n1, c1, l1, t1, o1, M1.out.put 1 (.slice q1 m1 d1), HLL1.out, ?_⟩
      rcases HRES.out with h1 | ⟨h1, h2, h3, h4, h5⟩
      · exact .inl h1
      · exact .inr ⟨h1, h2, h3, h4, ⟨ys1, [], 0, noText⟩, .inl (.inr (.inr (.inr (.inl ⟨hk, ys1, h5, rfl⟩))))⟩
    · have e : (kd : Int) = 4 := by omega
      have hb45 := H45.out (.inl hk)
      cases cm with
      | true =>
        go_wp2_with fail
        refine (packed_any R p n c l t o W HM.out.rd).mono ?_
        rintro e w1 ⟨v1, p1, n1, c1, l1, t1, o1, rfl, hrd, hg, hsub, hv0, hv1, hll, hres⟩
        have M1 := Lib.hid (HM.out.call hg hrd hsub)
        have HLL1 := Lib.hid hll
        have y3 : w1.cell? ⟨G, 3, none⟩ = some (.int .i64 0) := M1.out.g.cell 3
        have f3 := M1.out.g.frozen 3
        have HRES := Lib.hid hres
        clear hrd hg hsub hll hres
        go_wp2_with fail
        go_meet
        refine ⟨none, 0, 0, none, 0, 0, v1, noText, p1, n1, c1, l1, t1, o1, M1.out.put 3 (.int .i64 v1), HLL1.out, ?_⟩
        rcases HRES.out with h1 | ⟨h1, h2, h3, h4, h5⟩
        · exact .inl h1
        · exact .inr ⟨h1, h2, h3, h4, ⟨[], [], v1, noText⟩, .inl (.inr (.inr (.inr (.inr (.inl ⟨.inl hk, fun _ => hb45, v1, h5, rfl⟩)))))⟩
      | false =>
        go_wp2_with fail
        refine (number_any R p n c l t o sz bg W HM.out.rd hb45.2).mono ?_
        rintro e w1 ⟨v1, p1, n1, c1, l1, t1, rfl, hrd, hg, hsub, hv0, hv1, hll, hres⟩
        have M1 := Lib.hid (HM.out.call hg hrd hsub)
        have HLL1 := Lib.hid hll
        have y3 : w1.cell? ⟨G, 3, none⟩ = some (.int .i64 0) := M1.out.g.cell 3
        have f3 := M1.out.g.frozen 3
        have HRES := Lib.hid hres
        clear hrd hg hsub hll hres
        go_wp2_with fail
        go_meet
        refine ⟨none, 0, 0, none, 0, 0, w64 v1, noText, p1, n1, c1, l1, t1, o, M1.out.put 3 (.int .i64 (w64 v1)), HLL1.out, ?_⟩
        rcases HRES.out with h1 | ⟨h1, h2, h3, h4, h5, h6⟩
        · exact .inl (.inl h1)
        · exact .inr ⟨h1, h3, h2, h3, ⟨[], [], w64 v1, noText⟩, .inl (.inr (.inr (.inr (.inr (.inl ⟨.inl hk, fun _ => hb45, w64 v1, ⟨h4, h6, by rw [h5]⟩, rfl⟩)))))⟩
    · have e : (kd : Int) = 5 := by omega
      have hb45 := H45.out (.inr hk)
      cases cm with
      | true =>
        go_wp2_with fail
        refine (packed_any R p n c l t o W HM.out.rd).mono ?_
        rintro e w1 ⟨v1, p1, n1, c1, l1, t1, o1, rfl, hrd, hg, hsub, hv0, hv1, hll, hres⟩
        have M1 := Lib.hid (HM.out.call hg hrd hsub)
        have HLL1 := Lib.hid hll
        have y3 : w1.cell? ⟨G, 3, none⟩ = some (.int .i64 0) := M1.out.g.cell 3
        have f3 := M1.out.g.frozen 3
        have HRES := Lib.hid hres
        clear hrd hg hsub hll hres
        go_wp2_with fail
        go_meet
        refine ⟨none, 0, 0, none, 0, 0, v1, noText, p1, n1, c1, l1, t1, o1, M1.out.put 3 (.int .i64 v1), HLL1.out, ?_⟩
        rcases HRES.out with h1 | ⟨h1, h2, h3, h4, h5⟩
        · exact .inl h1
        · exact .inr ⟨h1, h2, h3, h4, ⟨[], [], v1, noText⟩, .inl (.inr (.inr (.inr (.inr (.inl ⟨.inr hk, fun _ => hb45, v1, h5, rfl⟩)))))⟩
      | false =>
        go_wp2_with fail
        refine (number_any R p n c l t o sz bg W HM.out.rd hb45.2).mono ?_
        rintro e w1 ⟨v1, p1, n1, c1, l1, t1, rfl, hrd, hg, hsub, hv0, hv1, hll, hres⟩
        have M1 := Lib.hid (HM.out.call hg hrd hsub)
        have HLL1 := Lib.hid hll
        have y3 : w1.cell? ⟨G, 3, none⟩ = some (.int .i64 0) := M1.out.g.cell 3
        have f3 := M1.out.g.frozen 3
        have HRES := Lib.hid hres
        clear hrd hg hsub hll hres
        go_wp2_with fail
        go_meet
        refine ⟨none, 0, 0, none, 0, 0, w64 v1, noText, p1, n1, c1, l1, t1, o, M1.out.put 3 (.int .i64 (w64 v1)), HLL1.out, ?_⟩
        rcases HRES.out with h1 | ⟨h1, h2, h3, h4, h5, h6⟩
        · exact .inl (.inl h1)
        · exact .inr ⟨h1, h3, h2, h3, ⟨[], [], w64 v1, noText⟩, .inl (.inr (.inr (.inr (.inr (.inl ⟨.inr hk, fun _ => hb45, w64 v1, ⟨h4, h6, by rw [h5]⟩, rfl⟩)))))⟩
    · have e : (kd : Int) = 6 := by omega
      go_wp2_with fail
      refine (dlc_any R p n c l t o big W HM.out.rd).mono ?_
      rintro e w1 ⟨q1, m1, d1, p1, n1, c1, l1, t1, o1, ys1, rfl, hrd, hg, hsub, hin, hys, hmd, hdm, hmm, hq, hll, hres⟩
      have M1 := Lib.hid (HM.out.call hg hrd hsub)
      have HLL1 := Lib.hid hll
      have y1 : w1.cell? ⟨G, 1, none⟩ = some (.slice none 0 0) := M1.out.g.cell 1
      have f1 := M1.out.g.frozen 1
      have HRES1 := Lib.hid hres
      clear hrd hg hsub hin hys hmd hdm hmm hq hll hres
      go_wp2_with fail
      have M1b := Lib.hid (M1.out.put 1 (.slice q1 m1 d1))
      generalize World.setCell w1 _ _ = w1b at M1b ⊢
      refine (dlc_any R p1 n1 c1 l1 t1 o1 big w1b M1b.out.rd).mono ?_
      rintro e w2 ⟨q2, m2, d2, p2, n2, c2, l2, t2, o2, ys2, rfl, hrd, hg, hsub, hin, hys, hmd, hdm, hmm, hq, hll, hres⟩
      have M2 := Lib.hid (M1b.out.call hg hrd hsub)
      have HLL2 := Lib.hid hll
      have y2 : w2.cell? ⟨G, 2, none⟩ = some (.slice none 0 0) := M2.out.g.cell 2
      have f2 := M2.out.g.frozen 2
      have HRES2 := Lib.hid hres
      clear hrd hg hsub hin hys hmd hdm hmm hq hll hres y1 f1
      go_wp2_with fail
      have M2b := Lib.hid (M2.out.put 2 (.slice q2 m2 d2))
      generalize World.setCell w2 _ _ = w2b at M2b ⊢
      refine (packed_any R p2 n2 c2 l2 t2 o2 w2b M2b.out.rd).mono ?_
      rintro e w3 ⟨v3, p3, n3, c3, l3, t3, o3, rfl, hrd, hg, hsub, hv0, hv1, hll, hres⟩
      have M3 := Lib.hid (M2b.out.call hg hrd hsub)
      have HLL3 := Lib.hid hll
      have y3 : w3.cell? ⟨G, 3, none⟩ = some (.int .i64 0) := M3.out.g.cell 3
      have f3 := M3.out.g.frozen 3
      have HRES3 := Lib.hid hres
      clear hrd hg hsub hll hres y2 f2
      go_wp2_with fail
      go_meet
      refine ⟨q1, m1, d1, q2, m2, d2, v3, noText, p3, n3, c3, l3, t3, o3, M3.out.put 3 (.int .i64 v3), Nat.le_trans HLL3.out (Nat.le_trans HLL2.out HLL1.out), ?_⟩
      rcases HRES3.out with h1 | ⟨h1, h2, h3, h4, h5⟩
      · exact .inl h1
      rcases HRES2.out with g1 | ⟨_, _, g3, g4, g5⟩
      · rw [h3, h4] at g1; rcases g1 with g1 | g1 <;> cases g1
      rcases HRES1.out with k1 | ⟨_, _, k3, k4, k5⟩
      · rw [g3, g4] at k1; rcases k1 with k1 | k1 <;> cases k1
      exact .inr ⟨h1, h2, k3, k4, ⟨ys1, ys2, v3, noText⟩, .inl (.inr (.inr (.inr (.inr (.inr (.inl ⟨hk, ys1, ys2, v3, ⟨l1, l2, k5, g5, h5⟩, rfl⟩))))))⟩
    · have e : (kd : Int) = 7 := by omega
      go_wp2_with fail
      refine (take_any R p n c l t o (sz : Int) W HM.out.rd).mono ?_
      rintro e w1 ⟨q1, m1, d1, p1, n1, c1, l1, t1, ys1, rfl, hrd, hg, hin, hys, hmd, hdm, hfar, hq, hyb, hll, hsz1, hsub, hres⟩
      have M1 := Lib.hid (HM.out.call hg hrd hsub)
      have HLL1 := Lib.hid hll
      have HRES := Lib.hid hres
      have HIN := Lib.hid hin
      have HYS := Lib.hid hys
      have HYB := Lib.hid hyb
      have HMD := Lib.hid hmd
      have hm1 : m1 ≤ 1000000 := by
        rcases hres with ⟨_, h1, _⟩ | ⟨_, _, _, kn, _, _, h1, _⟩
        · rw [h1] at hys; simp at hys; omega
        · have := H.out.len; have := H.out.nm; rw [h1, List.length_take] at hys; omega
      have HM1 := Lib.hid hm1
      have HQ := Lib.hid hq
      have HDM := Lib.hid hdm
      have HFRQ := Lib.hid hfar
      have HS1 := Lib.hid hsz1
      clear hrd hg hin hys hmd hdm hfar hq hyb hll hsz1 hsub hres hm1
      go_wp2_with fail
      refine (sindex_any q1 m1 d1 ys1 w1 HIN.out HYS.out HM1.out).mono ?_
      rintro e w2 ⟨ki, rfl, hidx, hw2⟩
      subst hw2
      have HIDX := Lib.hid hidx
      have hcv := conv_text w1 q1 m1 d1 ys1 HIN.out HYS.out HYB.out
      have y4 : w1.cell? ⟨G, 4, none⟩ = some (.string ⟨#[]⟩) := M1.out.g.cell 4
      have f4 := M1.out.g.frozen 4
      rcases hidx with ⟨j, rfl, hj1, hj2, hj3⟩ | ⟨rfl, hno⟩
      · rcases Nat.eq_zero_or_pos j with h0 | h0
        · subst h0
          have r2 : w1.cell? ⟨R, 2, none⟩ = some (.bool o) := M1.out.rd.blk.cell 2
          have rf := M1.out.rd.blk.frozen 2
          obtain ⟨u1, u2⟩ := M1.out.rd.opened
          have M2 := Lib.hid (M1.out.call u2 u1 (Sub.refl _))
          have hcv2 := conv_text (w1.setCell ⟨R, 2, none⟩ (.bool true)) q1 m1 d1 ys1 (fun hn => by
            obtain ⟨b, o', he, hc⟩ := HIN.out hn
            exact ⟨b, o', he, fun i hi => grown_cell u2 (hc i hi) (by have := (HFRQ.out _ he).2; exact this)⟩) HYS.out HYB.out
          have hGR : G ≠ R := by have := M1.out.hG; have := M1.out.hR; omega
          have hRG : R ≠ G := fun e => hGR e.symm
          clear u1 u2 hj1 hj2 hj3 hcv
          go_wp2_with fail
          go_meet
          exact ⟨none, 0, 0, none, 0, 0, 0, textB ys1, p1, n1, c1, l1, t1, true, M2.out.put 4 (.string (textB ys1)), HLL1.out, .inl (.inr rfl)⟩
        · have HJ0 := Lib.hid h0
          have HJ1 := Lib.hid hj1
          have hjm : j < m1 := by have := HYS.out; omega
          have j1 : (j : Int) < (m1 : Int) := by omega
          have j2 : (m1 : Int) ≤ 1000000 := by have := HM1.out; omega
          have j3 : (0 : Int) < (j : Int) := by omega
          have j4 : (m1 : Int) ≤ (d1 : Int) := by have := HMD.out; omega
          obtain ⟨b1, o1, rfl, hcell⟩ := HIN.out (by omega)
          have hbR : b1 ≠ R := (HFRQ.out _ rfl).2
          have hb1w : b1 < W.heap.size := (HFRQ.out _ rfl).1
          have hGR : G ≠ R := by have := M1.out.hG; have := M1.out.hR; omega
          have hRG : R ≠ G := fun e => hGR e.symm
          have hRw1 : R < w1.heap.size := M1.out.rd.blk.lt
          have hGw1 : G < w1.heap.size := M1.out.g.lt
          have hRb1 : Rb < w1.heap.size := M1.out.rb.lt
          have hdl : (ys1.drop (j + 1)).length = m1 - (j + 1) := by rw [List.length_drop, HYS.out]
          have hbnd : m1 - (j + 1) + n1 ≤ 1000000 := by
            have h1 := M1.out.rd.len
            have h2 := H.out.len
            have h3 := H.out.nm
            have h4 := HYS.out
            rcases HRES.out with ⟨_, g1, _⟩ | ⟨_, _, _, kn, _, g5, g6, g7⟩
            · rw [g1] at h4; simp at h4; omega
            · rw [g6, List.length_take] at h4; rw [g7, List.length_drop] at h1; omega
          have HDL := Lib.hid hdl
          have HBND := Lib.hid hbnd
          have r0 : w1.cell? ⟨R, 0, none⟩ = some (.slice p1 n1 c1) := M1.out.rd.blk.cell 0
          have r0f := M1.out.rd.blk.frozen 0
          have HTK := Lib.hid (show Lib.BytesIn w1 (some ⟨b1, o1, none⟩) j (ys1.take j) from bin_take HIN.out (by omega))
          have HTL := Lib.hid (show (ys1.take j).length = j from by rw [List.length_take, HYS.out]; omega)
          have e1 : IntKind.i64.wrap ((j : Int) + 1) = (j : Int) + 1 := IntWalk.i64_in _ (by omega)
          have e2 : ((j : Int) + 1).toNat = j + 1 := by omega
          have j5 : (j : Int) + 1 ≤ (m1 : Int) := by omega
          have j6 : (0 : Int) ≤ (j : Int) + 1 := by omega
          have j7 : (j : Int) ≤ (d1 : Int) := by omega
          have HHJ := Lib.hid hj2
          clear hj1 hj2 hj3 h0 hcell hdl hbnd hcv
          have hlast : ∀ (q6 : Option Addr) (d6 : Nat) (w6 : World), w1.grownBy w6 none → w6.ownsRow w1.heap.size 5 1 (.slice q6 (m1 - (j + 1) + n1) d6) (m1 - (j + 1) + n1) ((ys1.drop (j + 1) ++ l1).map (Value.int .u8)) →
              ∃ w7, w7 = w6.setCell ⟨R, 0, none⟩ (.slice q6 (m1 - (j + 1) + n1) d6) ∧ Mid w R G Rb zGot q6 (m1 - (j + 1) + n1) d6 (ys1.drop (j + 1) ++ l1) t1 o w7 ∧ ∀ cc : Nat, (convert 26 9 (.slice (some ⟨b1, o1, none⟩) j cc)).run Tryd.prog w7 = .ok (.string (textB (ys1.take j))) w7 := by
            intro q6 d6 w6 hg6 ho6
            have hk6 : Kp w1 w6 := ⟨hg6.os, hg6.tape, hg6.output, hg6.size, fun i hi => hg6.block i hi (fun e => by cases e)⟩
            have hfr := own_fresh ho6
            have hcap : m1 - (j + 1) + n1 ≤ d6 ∧ d6 ≤ maxLen ∧ (q6 = none → d6 = 0) := by
              rcases ho6.2 with ⟨he, h0⟩ | ⟨g', cap, cur, he, _, _, hle, hmx, _⟩
              · injection he with e1 e2 e3; exact ⟨by omega, by rw [e3]; exact Nat.zero_le _, fun _ => e3⟩
              · injection he with e1 e2 e3; exact ⟨by rw [e3]; exact hle, by rw [e3]; exact hmx, fun e => by rw [e1] at e; cases e⟩
            have rd6 := M1.out.rd.kp hk6
            have hll : (ys1.drop (j + 1) ++ l1).length = m1 - (j + 1) + n1 := by rw [List.length_append, HDL.out, M1.out.rd.len]
            have hsub6 : ∀ a, q6 = some a → ∃ b o, a = ⟨b, o, none⟩ ∧ b < w6.heap.size ∧ b ≠ R := fun a ha => by
              subst ha
              rcases ho6.2 with ⟨he, _⟩ | ⟨g', cap, cur, he, hb, _⟩
              · cases he
              · injection he with e1
                injection e1 with e1
                have hf := hfr a rfl
                subst e1
                exact ⟨g', 0, rfl, hf.2, by omega⟩
            obtain ⟨u1, u2⟩ := rd6.left (bin_of_own ho6) hsub6 hll (fun x hx => by
              rcases List.mem_append.1 hx with hx | hx
              · exact HYB.out x (List.mem_of_mem_drop hx)
              · exact M1.out.rd.byt x hx) hcap.1 HBND.out hcap.2.1 hcap.2.2
            refine ⟨_, rfl, { g := (M1.out.g.kp hk6).grown u2 (fun e => by injection e with e; exact hGR e), rb := (M1.out.rb.kp hk6).grown u2 (fun e => by injection e with e; have := M1.out.hRb; have := M1.out.hR; omega), rd := u1, gr := grown_trans (grown_trans M1.out.gr (grown_below hk6 _)) u2, far := fun a ha => by have := (hfr a ha).1; omega, far2 := fun a ha => by have := (hfr a ha).1; omega, hG := M1.out.hG, hR := M1.out.hR, hRb := M1.out.hRb, ne := M1.out.ne }, ?_⟩
            exact fun cc => conv_text _ _ _ _ _ (fun hn => by
              obtain ⟨b, o', he, hc⟩ := bin_kp HTK.out hk6 hn
              injection he with he
              injection he with h1 h2
              exact ⟨b, o', by rw [← h1, ← h2], fun i hi => grown_cell u2 (hc i hi) (by dsimp only; rw [← h1]; exact hbR)⟩) HTL.out (fun x hx => HYB.out x (List.mem_of_mem_take hx))
          have HLAST := Lib.hid hlast
          clear hlast
          have hfinal : (t1 = true ∨ o = true) ∨ t1 = false ∧ o = false ∧ t = false ∧ o = false ∧ ∃ v, StepT big kd sz bg cm l v (ys1.drop (j + 1) ++ l1) := by
            rcases HRES.out with ⟨h1, _⟩ | ⟨h1, h2, h3, kn, h4, h5, h6, h7⟩
            · exact .inl (.inl h1)
            · obtain rfl : sz = kn := by omega
              refine .inr ⟨h1, h3, h2, h3, ⟨[], [], 0, textB ((l.take sz).take j)⟩, .inr ⟨hk, h5, j, by rw [← h6]; exact HIDX.out, .inr ⟨j, HJ0.out, rfl, rfl, ?_⟩⟩⟩
              rw [h6, h7]
              have hjs : j + 1 ≤ sz := by have := HJ1.out; rw [h6, List.length_take] at this; omega
              have hh : (l.take sz ++ l.drop sz).drop (j + 1) = (l.take sz).drop (j + 1) ++ l.drop sz := List.drop_append_of_le_length (by rw [List.length_take]; omega)
              rw [List.take_append_drop] at hh
              exact hh.symm
          have HFIN := Lib.hid hfinal
          have hlen2 : (ys1.drop (j + 1) ++ l1).length ≤ l.length := by
            rw [List.length_append, List.length_drop]
            rcases HRES.out with ⟨_, g1, g2⟩ | ⟨_, _, _, kn, _, g5, g6, g7⟩
            · rw [g1, g2]; simp
            · rw [g6, g7, List.length_take, List.length_drop]; omega
          have HLEN2 := Lib.hid hlen2
          clear hfinal hlen2
          by_cases hd : d1 = j + 1
          · have e4 : (d1 = j + 1) = True := by simp [hd]
            have hdin : Lib.BytesIn w1 (some ⟨b1, o1, none⟩) (m1 - (j + 1)) (ys1.drop (j + 1)) := by rw [show m1 - (j + 1) = 0 by omega]; exact Lib.BytesIn.nil _ _ _
            have HDI := Lib.hid hdin
            clear hdin
            go_wp2_with fail
            go_region_law (first
              | (refine step_app_run rfl _ _ _ _ rfl _ _ rfl rfl _ _ HR.out ?_)
              | (go_simp; go_at_call 31; refine (sclone_any _ (some ⟨b1, o1, none⟩) _ _ (ys1.drop (j + 1)) (by first | exact HDI.out | exact bin_kp HDI.out (Kp.refl w1).drew) HDL.out (by have := HBND.out; omega) (fun e => by cases e)).mono ?_; rintro e w3 ⟨q5, d5, rfl, hown5, hk5⟩; have hk3 : Kp w1 w3 := (by first | exact (Kp.refl w1).drew.trans hk5 | exact hk5); obtain ⟨v6, w6, hrun, hov, hgr, _⟩ := run_append_bytes w3 w1.heap.size _ (m1 - (j + 1)) _ hown5 p1 n1 c1 l1 (M1.out.rd.kp hk3).inp M1.out.rd.len (by have := HBND.out; omega) hk3.size; obtain ⟨q6, d6, rfl, _⟩ := bin_own hov; have hge : ∀ k, (Value.slice q5 (m1 - (j + 1)) d5).ownBlock = some k → w1.heap.size ≤ k := own_ge hown5; have HR := Lib.hid hrun; have HO6 := Lib.hid hov; have hk6 : w1.grownBy w6 none := ⟨hgr.os.trans hk3.os, hgr.tape.trans hk3.tape, hgr.output.trans hk3.output, Nat.le_trans hk3.size hgr.size, fun i hi _ => (hgr.block i (Nat.lt_of_lt_of_le hi hk3.size) (fun e => by have := hge i e.symm; omega)).trans (hk3.block i hi)⟩; have HG6 := Lib.hid hk6; have hK6 : Kp w1 w6 := ⟨hk6.os, hk6.tape, hk6.output, hk6.size, fun i hi => hk6.block i hi (fun e => by cases e)⟩; have s0 : w3.cell? ⟨R, 0, none⟩ = some (.slice p1 n1 c1) := (M1.out.rd.kp hk3).blk.cell 0; have s6 : w6.cell? ⟨R, 0, none⟩ = some (.slice p1 n1 c1) := (M1.out.rd.kp hK6).blk.cell 0; have f6 := (M1.out.rd.kp hK6).blk.frozen 0; clear hown5 hk5 hk3 hrun hov hgr hge hk6 hK6))
            all_goals
              obtain ⟨w7, hw7, hM7, hcv7⟩ := HLAST.out q6 d6 w6 HG6.out HO6.out
              rw [← hw7]
              have y7 : w7.cell? ⟨G, 4, none⟩ = some (.string ⟨#[]⟩) := hM7.g.cell 4
              have f7 := hM7.g.frozen 4
              have HM7 := Lib.hid hM7
              clear hw7 hM7 HR HO6 HG6 HLAST
              go_wp2_with fail
              go_meet
              exact ⟨none, 0, 0, none, 0, 0, 0, textB (ys1.take j), q6, _, d6, ys1.drop (j + 1) ++ l1, t1, o, HM7.out.put 4 (.string (textB (ys1.take j))), HLEN2.out, HFIN.out⟩
          · have e4 : (d1 = j + 1) = False := by simp [hd]
            have hdin : Lib.BytesIn w1 (some ⟨b1, o1 + (j + 1), none⟩) (m1 - (j + 1)) (ys1.drop (j + 1)) := bin_drop HIN.out HYS.out
            have HDI := Lib.hid hdin
            clear hdin
            go_wp2_with fail
            go_region_law (first
              | (refine step_app_run rfl _ _ _ _ rfl _ _ rfl rfl _ _ HR.out ?_)
              | (go_simp; go_at_call 31; refine (sclone_any _ (some ⟨b1, o1 + (j + 1), none⟩) _ _ (ys1.drop (j + 1)) (by first | exact HDI.out | exact bin_kp HDI.out (Kp.refl w1).drew) HDL.out (by have := HBND.out; omega) (fun e => by cases e)).mono ?_; rintro e w3 ⟨q5, d5, rfl, hown5, hk5⟩; have hk3 : Kp w1 w3 := (by first | exact (Kp.refl w1).drew.trans hk5 | exact hk5); obtain ⟨v6, w6, hrun, hov, hgr, _⟩ := run_append_bytes w3 w1.heap.size _ (m1 - (j + 1)) _ hown5 p1 n1 c1 l1 (M1.out.rd.kp hk3).inp M1.out.rd.len (by have := HBND.out; omega) hk3.size; obtain ⟨q6, d6, rfl, _⟩ := bin_own hov; have hge : ∀ k, (Value.slice q5 (m1 - (j + 1)) d5).ownBlock = some k → w1.heap.size ≤ k := own_ge hown5; have HR := Lib.hid hrun; have HO6 := Lib.hid hov; have hk6 : w1.grownBy w6 none := ⟨hgr.os.trans hk3.os, hgr.tape.trans hk3.tape, hgr.output.trans hk3.output, Nat.le_trans hk3.size hgr.size, fun i hi _ => (hgr.block i (Nat.lt_of_lt_of_le hi hk3.size) (fun e => by have := hge i e.symm; omega)).trans (hk3.block i hi)⟩; have HG6 := Lib.hid hk6; have hK6 : Kp w1 w6 := ⟨hk6.os, hk6.tape, hk6.output, hk6.size, fun i hi => hk6.block i hi (fun e => by cases e)⟩; have s0 : w3.cell? ⟨R, 0, none⟩ = some (.slice p1 n1 c1) := (M1.out.rd.kp hk3).blk.cell 0; have s6 : w6.cell? ⟨R, 0, none⟩ = some (.slice p1 n1 c1) := (M1.out.rd.kp hK6).blk.cell 0; have f6 := (M1.out.rd.kp hK6).blk.frozen 0; clear hown5 hk5 hk3 hrun hov hgr hge hk6 hK6))
            all_goals
              obtain ⟨w7, hw7, hM7, hcv7⟩ := HLAST.out q6 d6 w6 HG6.out HO6.out
              rw [← hw7]
              have y7 : w7.cell? ⟨G, 4, none⟩ = some (.string ⟨#[]⟩) := hM7.g.cell 4
              have f7 := hM7.g.frozen 4
              have HM7 := Lib.hid hM7
              clear hw7 hM7 HR HO6 HG6 HLAST
              go_wp2_with fail
              go_meet
              exact ⟨none, 0, 0, none, 0, 0, 0, textB (ys1.take j), q6, _, d6, ys1.drop (j + 1) ++ l1, t1, o, HM7.out.put 4 (.string (textB (ys1.take j))), HLEN2.out, HFIN.out⟩
      · have r2 := HRES.out
        clear hno r2
        go_wp2_with fail
        go_meet
        refine ⟨none, 0, 0, none, 0, 0, 0, textB ys1, p1, n1, c1, l1, t1, o, M1.out.put 4 (.string (textB ys1)), HLL1.out, ?_⟩
        rcases HRES.out with ⟨h1, _⟩ | ⟨h1, h2, h3, kn, h4, h5, h6, h7⟩
        · exact .inl (.inl h1)
        · obtain rfl : sz = kn := by omega
          exact .inr ⟨h1, h3, h2, h3, ⟨[], [], 0, textB (l.take sz)⟩, .inr ⟨hk, h5, -1, by rw [← h6]; exact HIDX.out, .inl ⟨rfl, rfl, h7⟩⟩⟩
    · have e : (kd : Int) = 8 := by omega
      go_wp2_with fail
      refine (take_any R p n c l t o 1 W HM.out.rd).mono ?_
      rintro e w1 ⟨q1, m1, d1, p1, n1, c1, l1, t1, ys1, rfl, hrd, hg, hin, hys, hmd, hdm, hfar, hq, hyb, hll, hsz1, hsub, hres⟩
      have M1 := Lib.hid (HM.out.call hg hrd hsub)
      have HLL1 := Lib.hid hll
      clear hrd hg hll hsub hmd hdm hfar hq hsz1
      rcases hres with ⟨rfl, rfl, _⟩ | ⟨rfl, rfl, rfl, kn, hkn, hkl, hy, hl'⟩
      · obtain rfl : m1 = 0 := hys.symm
        clear hin hys hyb
        go_wp2_with fail
        go_meet
        exact ⟨none, 0, 0, none, 0, 0, 0, noText, p1, n1, c1, l1, true, o, M1.out, HLL1.out, .inl (.inl rfl)⟩
      · obtain ⟨x, hl, hyb1⟩ := take_one hkn hkl hy hl'
        clear hy hl' hkn hkl
        subst hyb1
        obtain rfl : m1 = 1 := hys.symm
        obtain ⟨g3, o3, rfl, hc⟩ := hin (by omega)
        have e0 : w1.cell? ⟨g3, o3, none⟩ = some (.int .u8 x) := hc 0 (by omega)
        have hx := hyb x (List.mem_cons_self ..)
        have j0 := hx.1
        have j1 := hx.2
        have HLX := Lib.hid hl
        clear hc hin hys hyb hl hx
        by_cases hz : x = 0 ∨ x = 253 ∨ x = 255
        · have fin : MidX w R G Rb big kd sz bg cm l false false w1 := ⟨none, 0, 0, none, 0, 0, 0, noText, p1, n1, c1, l1, false, false, M1.out, HLL1.out, .inr ⟨rfl, rfl, rfl, rfl, ⟨[], [], 0, noText⟩, .inl (.inr (.inr (.inr (.inr (.inr (.inr (.inl ⟨hk, [], ⟨x, l1, HLX.out, .inl ⟨hz, rfl, rfl⟩⟩, rfl⟩)))))))⟩⟩
          have HFN := Lib.hid fin
          clear fin
          rcases hz with rfl | rfl | rfl
          · go_wp2_with fail
            go_meet
            exact HFN.out
          · go_wp2_with fail
            go_meet
            exact HFN.out
          · go_wp2_with fail
            go_meet
            exact HFN.out
        · have b0 : (x == 0) = false := by simp; omega
          have b1 : (x == 253) = false := by simp; omega
          have b2 : (x == 255) = false := by simp; omega
          by_cases h254 : x = 254
          · subst h254
            clear hz b0 b1 b2 j0 j1
            go_wp2_with fail
            refine (number_any R p1 n1 c1 l1 false false 4 true w1 M1.out.rd (by omega)).mono ?_
            rintro e w2 ⟨v2, p2, n2, c2, l2, t2, rfl, hrd, hg, hsub, hv0, hv1, hll, hres⟩
            have M2 := Lib.hid (M1.out.call hg hrd hsub)
            have HLL2 := Lib.hid hll
            have HRES2 := Lib.hid hres
            clear hrd hg hsub hll hres
            go_wp2_with fail
            refine (take_any R p2 n2 c2 l2 t2 false (w64 v2) w2 M2.out.rd).mono ?_
            rintro e w3 ⟨q3, m3, d3, p3, n3, c3, l3, t3, ys3, rfl, hrd, hg, hin, hys, hmd, hdm, hfar, hq, hyb, hll, hsz1, hsub, hres⟩
            have M3 := Lib.hid (M2.out.call hg hrd hsub)
            have HLL3 := Lib.hid hll
            have y1 : w3.cell? ⟨G, 1, none⟩ = some (.slice none 0 0) := M3.out.g.cell 1
            have f1 := M3.out.g.frozen 1
            have HRES3 := Lib.hid hres
            clear hrd hg hin hys hmd hdm hfar hq hyb hll hsz1 hsub hres
            go_wp2_with fail
            go_meet
            refine ⟨q3, m3, d3, none, 0, 0, 0, noText, p3, n3, c3, l3, t3, false, M3.out.put 1 (.slice q3 m3 d3), Nat.le_trans HLL3.out (Nat.le_trans HLL2.out HLL1.out), ?_⟩
            rcases HRES3.out with ⟨h1, _⟩ | ⟨h1, h2, h3, kn, h4, h5, h6, h7⟩
            · exact .inl (.inl h1)
            rcases HRES2.out with g1 | ⟨g1, _, _, g4, g5, g6⟩
            · rw [h2] at g1; cases g1
            refine .inr ⟨h1, rfl, rfl, rfl, ⟨ys3, [], 0, noText⟩, .inl (.inr (.inr (.inr (.inr (.inr (.inr (.inl ⟨hk, ys3, ⟨254, l1, HLX.out, .inr (.inl ?_)⟩, rfl⟩)))))))⟩
            have hv : v2 = Lib.beZ (l1.take 4) := g5
            have hrange := beZ_range (l1.take 4) (fun y hy => M1.out.rd.byt y (List.mem_of_mem_take hy))
            have hlen4 : (l1.take 4).length = 4 := by rw [List.length_take]; omega
            rw [hlen4] at hrange
            have hw : w64 v2 = v2 := w64_in (by omega) (by omega)
            have hkn : (Lib.beZ (l1.take 4)).toNat = kn := by omega
            rw [hkn]
            exact ⟨rfl, g4, by rw [← g6]; exact h5, by rw [← g6]; exact h6, by rw [← g6]; exact h7⟩
          · have b3 : (x == 254) = false := by simpa using h254
            have HZ := Lib.hid hz
            have H254 := Lib.hid h254
            clear hz h254
            go_wp2_with fail
            refine (take_any R p1 n1 c1 l1 false false x w1 M1.out.rd).mono ?_
            rintro e w3 ⟨q3, m3, d3, p3, n3, c3, l3, t3, ys3, rfl, hrd, hg, hin, hys, hmd, hdm, hfar, hq, hyb, hll, hsz1, hsub, hres⟩
            have M3 := Lib.hid (M1.out.call hg hrd hsub)
            have HLL3 := Lib.hid hll
            have y1 : w3.cell? ⟨G, 1, none⟩ = some (.slice none 0 0) := M3.out.g.cell 1
            have f1 := M3.out.g.frozen 1
            have HRES3 := Lib.hid hres
            clear hrd hg hin hys hmd hdm hfar hq hyb hll hsz1 hsub hres e0
            go_wp2_with fail
            go_meet
            refine ⟨q3, m3, d3, none, 0, 0, 0, noText, p3, n3, c3, l3, t3, false, M3.out.put 1 (.slice q3 m3 d3), Nat.le_trans HLL3.out HLL1.out, ?_⟩
            rcases HRES3.out with ⟨h1, _⟩ | ⟨h1, h2, h3, kn, h4, h5, h6, h7⟩
            · exact .inl (.inl h1)
            have hkn : x.toNat = kn := by omega
            refine .inr ⟨h1, rfl, rfl, rfl, ⟨ys3, [], 0, noText⟩, .inl (.inr (.inr (.inr (.inr (.inr (.inr (.inl ⟨hk, ys3, ⟨x, l1, HLX.out, .inr (.inr ⟨⟨?_, ?_⟩, by rw [hkn]; exact h5, by rw [hkn]; exact h6, by rw [hkn]; exact h7⟩)⟩, rfl⟩)))))))⟩
            · have := HZ.out; omega
            · have := HZ.out; have := H254.out; omega
    · have e : (kd : Int) = 9 := by omega
      have x0 : W.cell? ⟨R, 0, none⟩ = some (.slice p n c) := HM.out.rd.blk.cell 0
      go_wp2_with fail
      refine (take_any R p n c l t o (sz : Int) W HM.out.rd).mono ?_
      rintro e w1 ⟨q1, m1, d1, p1, n1, c1, l1, t1, ys1, rfl, hrd, hg, hin, hys, hmd, hdm, hfar, hq, hyb, hll, hsz1, hsub, hres⟩
      have M1 := Lib.hid (HM.out.call hg hrd hsub)
      have HLL1 := Lib.hid hll
      have y1 : w1.cell? ⟨G, 1, none⟩ = some (.slice none 0 0) := M1.out.g.cell 1
      have f1 := M1.out.g.frozen 1
      have z0 : w1.cell? ⟨R, 0, none⟩ = some (.slice p1 n1 c1) := M1.out.rd.blk.cell 0
      have zf := M1.out.rd.blk.frozen 0
      have HRES := Lib.hid hres
      have HGG := Lib.hid hg
      clear hrd hg hin hys hmd hdm hfar hq hyb hll hsz1 hsub hres x0
      have hGR : G ≠ R := by have := M1.out.hG; have := M1.out.hR; omega
      have hRG : R ≠ G := fun e => hGR e.symm
      go_wp2_with fail
      go_meet
      have hgW := grown_trans (grown_below HKW.out _) HGG.out
      have Mp := M1.out.put 1 (.slice q1 m1 d1)
      have hgP := Lib.grownBy_setCell w1 G 1 (.slice q1 m1 d1)
      have hin : Lib.BytesIn (w1.setCell ⟨G, 1, none⟩ (.slice q1 m1 d1)) p n l := fun hn => by
        obtain ⟨b, o', he, hc⟩ := HM.out.rd.inp hn
        obtain ⟨b2, o2, he2, hb2, hb3⟩ := H.out.old _ he
        injection he2 with h1
        subst h1
        have hG := HM.out.hG
        refine ⟨b, o', he, fun i hi => grown_cell hgP (grown_cell HGG.out (hc i hi) hb3) ?_⟩
        dsimp only
        omega
      obtain ⟨r1, r2⟩ := Mp.rd.left hin (fun x hx => by
        obtain ⟨b, o', e', h1, h2⟩ := H.out.old x hx
        exact ⟨b, o', e', by have := Mp.gr.size; omega, h2⟩) H.out.len H.out.byt H.out.nc H.out.nm H.out.cm H.out.nl
      have hM : Mid w R G Rb _ p n c l t1 o _ := { g := Mp.g.grown r2 (fun e' => by injection e' with e'; exact hGR e'), rb := Mp.rb.grown r2 (fun e' => by injection e' with e'; have := Mp.hRb; have := Mp.hR; omega), rd := r1, gr := grown_trans Mp.gr r2, far := HM.out.far, far2 := HM.out.far2, hG := Mp.hG, hR := Mp.hR, hRb := Mp.hRb, ne := Mp.ne }
      refine ⟨q1, m1, d1, none, 0, 0, 0, noText, p, n, c, l, t1, o, hM, Nat.le_refl _, ?_⟩
      rcases HRES.out with ⟨h1, _⟩ | ⟨h1, h2, h3, kn, h4, h5, h6, h7⟩
      · exact .inl (.inl h1)
      · obtain rfl : sz = kn := by omega
        exact .inr ⟨h1, h3, h2, h3, ⟨l.take sz, [], 0, noText⟩, .inl (.inr (.inr (.inr (.inr (.inr (.inr (.inr ⟨hk, h5, rfl, rfl⟩)))))))⟩
  case rest =>
    obtain ⟨q1, k1, m1, q2, k2, m2, x, s, p', n', c', l', t', o', hM, hll, hres⟩ := hcut
    have HM2 := Lib.hid hM
    have HLL := Lib.hid hll
    have HRES := Lib.hid hres
    have r1 : wc.cell? ⟨R, 1, none⟩ = some (.bool t') := hM.rd.blk.cell 1
    have g0 : wc.cell? ⟨G, 0, none⟩ = some (.bool false) := hM.g.cell 0
    have gf0 := hM.g.frozen 0
    have hGR : G ≠ R := by have := hM.hG; have := hM.hR; omega
    have hRG : R ≠ G := fun e => hGR e.symm
    clear hM hll hres HM
    go_upto_region 42 with fail
    have M3 := HM2.out.put 0 (.bool (!t'))
    have hcs : (#[Value.bool false, .slice q1 k1 m1, .slice q2 k2 m2, .int .i64 x, .string s] : Array Value).setIfInBounds 0 (.bool (!t')) = #[.bool (!t'), .slice q1 k1 m1, .slice q2 k2 m2, .int .i64 x, .string s] := rfl
    rw [hcs] at M3
    clear hcs r1 g0 gf0
    have HFR := Lib.hid HM2.out.far2
    cases t' with
    | false =>
      generalize hY : wc.setCell ⟨G, 0, none⟩ _ = Y at M3 ⊢
      clear hY
      have r1 : Y.cell? ⟨R, 1, none⟩ = some (.bool false) := M3.rd.blk.cell 1
      have a0 : Y.cell? ⟨G, 0, none⟩ = some (.bool true) := M3.g.cell 0
      have a1 : Y.cell? ⟨G, 1, none⟩ = some (.slice q1 k1 m1) := M3.g.cell 1
      have a2 : Y.cell? ⟨G, 2, none⟩ = some (.slice q2 k2 m2) := M3.g.cell 2
      have a3 : Y.cell? ⟨G, 3, none⟩ = some (.int .i64 x) := M3.g.cell 3
      have a4 : Y.cell? ⟨G, 4, none⟩ = some (.string s) := M3.g.cell 4
      have u0 := M3.g.frozen 0
      have u1 := M3.g.frozen 1
      have u2 := M3.g.frozen 2
      have u3 := M3.g.frozen 3
      have u4 := M3.g.frozen 4
      have b0 : Y.cell? ⟨Rb, 0, none⟩ = some (.bool false) := M3.rb.cell 0
      have b1 : Y.cell? ⟨Rb, 1, none⟩ = some (.slice none 0 0) := M3.rb.cell 1
      have b2 : Y.cell? ⟨Rb, 2, none⟩ = some (.slice none 0 0) := M3.rb.cell 2
      have b3 : Y.cell? ⟨Rb, 3, none⟩ = some (.int .i64 0) := M3.rb.cell 3
      have b4 : Y.cell? ⟨Rb, 4, none⟩ = some (.string ⟨#[]⟩) := M3.rb.cell 4
      have c0 := M3.rb.frozen 0
      have c1 := M3.rb.frozen 1
      have c2 := M3.rb.frozen 2
      have c3 := M3.rb.frozen 3
      have c4 := M3.rb.frozen 4
      have HM4 := Lib.hid M3
      clear M3
      go_wp2_with fail
      have hZb := (((((HM4.out.rb.set_ 0 (.bool true)).set_ 1 (.slice q1 k1 m1)).set_ 2 (.slice q2 k2 m2)).set_ 3 (.int .i64 x)).set_ 4 (.string s))
      have hZ : ReadP R big kd sz bg cm l t o w (.returned (.agg #[.bool true, .slice q1 k1 m1, .slice q2 k2 m2, .int .i64 x, .string s])) (((((Y.setCell ⟨Rb, 0, none⟩ (.bool true)).setCell ⟨Rb, 1, none⟩ (.slice q1 k1 m1)).setCell ⟨Rb, 2, none⟩ (.slice q2 k2 m2)).setCell ⟨Rb, 3, none⟩ (.int .i64 x)).setCell ⟨Rb, 4, none⟩ (.string s)) := by
        have put1 : ∀ (wx : World) (i : Nat) (u : Value), Rd wx R p' n' c' l' false o' → w.grownBy wx (some R) → Rd (wx.setCell ⟨Rb, i, none⟩ u) R p' n' c' l' false o' ∧ w.grownBy (wx.setCell ⟨Rb, i, none⟩ u) (some R) := fun wx i u h1 h2 =>
          have hg := Lib.grownBy_setCell wx Rb i u
          ⟨h1.grown hg (fun k hk => by injection hk with hk; subst hk; exact .inr ⟨by have := HM4.out.hRb; have := HM4.out.hR; omega, fun a ha => HFR.out a ha⟩), grown_new h2 hg (fun k hk => by injection hk with hk; subst hk; exact HM4.out.hRb)⟩
        have z0 := put1 _ 0 (.bool true) HM4.out.rd HM4.out.gr
        have z1 := put1 _ 1 (.slice q1 k1 m1) z0.1 z0.2
        have z2 := put1 _ 2 (.slice q2 k2 m2) z1.1 z1.2
        have z3 := put1 _ 3 (.int .i64 x) z2.1 z2.2
        have z4 := put1 _ 4 (.string s) z3.1 z3.2
        exact ⟨q1, k1, m1, q2, k2, m2, x, s, p', n', c', l', false, o', rfl, z4.1, z4.2, HLL.out, by simpa using HRES.out⟩
      generalize hZ0 : (((((Y.setCell ⟨Rb, 0, none⟩ (.bool true)).setCell ⟨Rb, 1, none⟩ (.slice q1 k1 m1)).setCell ⟨Rb, 2, none⟩ (.slice q2 k2 m2)).setCell ⟨Rb, 3, none⟩ (.int .i64 x)).setCell ⟨Rb, 4, none⟩ (.string s)) = Zw at hZ hZb ⊢
      clear hZ0
      have s0 : Zw.cell? ⟨Rb, 0, none⟩ = some (.bool true) := hZb.cell 0
      have s1 : Zw.cell? ⟨Rb, 1, none⟩ = some (.slice q1 k1 m1) := hZb.cell 1
      have s2 : Zw.cell? ⟨Rb, 2, none⟩ = some (.slice q2 k2 m2) := hZb.cell 2
      have s3 : Zw.cell? ⟨Rb, 3, none⟩ = some (.int .i64 x) := hZb.cell 3
      have s4 : Zw.cell? ⟨Rb, 4, none⟩ = some (.string s) := hZb.cell 4
      exact bodyPost_ret (v := .agg #[.bool true, .slice q1 k1 m1, .slice q2 k2 m2, .int .i64 x, .string s]) (by simp [results, Tryd.results13, go_sem, s0, s1, s2, s3, s4]) rfl hZ
    | true =>
      generalize hY : wc.setCell ⟨G, 0, none⟩ _ = Y at M3 ⊢
      clear hY
      have r1 : Y.cell? ⟨R, 1, none⟩ = some (.bool true) := M3.rd.blk.cell 1
      have a0 : Y.cell? ⟨G, 0, none⟩ = some (.bool false) := M3.g.cell 0
      have a1 : Y.cell? ⟨G, 1, none⟩ = some (.slice q1 k1 m1) := M3.g.cell 1
      have a2 : Y.cell? ⟨G, 2, none⟩ = some (.slice q2 k2 m2) := M3.g.cell 2
      have a3 : Y.cell? ⟨G, 3, none⟩ = some (.int .i64 x) := M3.g.cell 3
      have a4 : Y.cell? ⟨G, 4, none⟩ = some (.string s) := M3.g.cell 4
      have u0 := M3.g.frozen 0
      have u1 := M3.g.frozen 1
      have u2 := M3.g.frozen 2
      have u3 := M3.g.frozen 3
      have u4 := M3.g.frozen 4
      have hRbG := M3.ne
      have hGRb : G ≠ Rb := fun e => hRbG e.symm
      go_upto_region 44 with fail
      have M4 := (((((M3.put 0 (.bool false)).put 1 (.slice none 0 0)).put 2 (.slice none 0 0)).put 3 (.int .i64 0)).put 4 (.string ⟨#[]⟩))
      generalize hY2 : (((((Y.setCell ⟨G, 0, none⟩ (.bool false)).setCell ⟨G, 1, none⟩ (.slice none 0 0)).setCell ⟨G, 2, none⟩ (.slice none 0 0)).setCell ⟨G, 3, none⟩ (.int .i64 0)).setCell ⟨G, 4, none⟩ (.string ⟨#[]⟩)) = Y2 at M4 ⊢
      clear hY2 a0 a1 a2 a3 a4 u0 u1 u2 u3 u4 r1 M3
      have a0 : Y2.cell? ⟨G, 0, none⟩ = some (.bool false) := M4.g.cell 0
      have a1 : Y2.cell? ⟨G, 1, none⟩ = some (.slice none 0 0) := M4.g.cell 1
      have a2 : Y2.cell? ⟨G, 2, none⟩ = some (.slice none 0 0) := M4.g.cell 2
      have a3 : Y2.cell? ⟨G, 3, none⟩ = some (.int .i64 0) := M4.g.cell 3
      have a4 : Y2.cell? ⟨G, 4, none⟩ = some (.string ⟨#[]⟩) := M4.g.cell 4
      have b0 : Y2.cell? ⟨Rb, 0, none⟩ = some (.bool false) := M4.rb.cell 0
      have b1 : Y2.cell? ⟨Rb, 1, none⟩ = some (.slice none 0 0) := M4.rb.cell 1
      have b2 : Y2.cell? ⟨Rb, 2, none⟩ = some (.slice none 0 0) := M4.rb.cell 2
      have b3 : Y2.cell? ⟨Rb, 3, none⟩ = some (.int .i64 0) := M4.rb.cell 3
      have b4 : Y2.cell? ⟨Rb, 4, none⟩ = some (.string ⟨#[]⟩) := M4.rb.cell 4
      have c0 := M4.rb.frozen 0
      have c1 := M4.rb.frozen 1
      have c2 := M4.rb.frozen 2
      have c3 := M4.rb.frozen 3
      have c4 := M4.rb.frozen 4
      have HM4 := Lib.hid M4
      clear M4
      go_wp2_with fail
      have hZb := (((((HM4.out.rb.set_ 0 (.bool false)).set_ 1 (.slice none 0 0)).set_ 2 (.slice none 0 0)).set_ 3 (.int .i64 0)).set_ 4 (.string ⟨#[]⟩))
      have hZ : ReadP R big kd sz bg cm l t o w (.returned (.agg #[.bool false, .slice none 0 0, .slice none 0 0, .int .i64 0, .string ⟨#[]⟩])) (((((Y2.setCell ⟨Rb, 0, none⟩ (.bool false)).setCell ⟨Rb, 1, none⟩ (.slice none 0 0)).setCell ⟨Rb, 2, none⟩ (.slice none 0 0)).setCell ⟨Rb, 3, none⟩ (.int .i64 0)).setCell ⟨Rb, 4, none⟩ (.string ⟨#[]⟩)) := by
        have put1 : ∀ (wx : World) (i : Nat) (u : Value), Rd wx R p' n' c' l' true o' → w.grownBy wx (some R) → Rd (wx.setCell ⟨Rb, i, none⟩ u) R p' n' c' l' true o' ∧ w.grownBy (wx.setCell ⟨Rb, i, none⟩ u) (some R) := fun wx i u h1 h2 =>
          have hg := Lib.grownBy_setCell wx Rb i u
          ⟨h1.grown hg (fun k hk => by injection hk with hk; subst hk; exact .inr ⟨by have := HM4.out.hRb; have := HM4.out.hR; omega, fun a ha => HFR.out a ha⟩), grown_new h2 hg (fun k hk => by injection hk with hk; subst hk; exact HM4.out.hRb)⟩
        have z0 := put1 _ 0 (.bool false) HM4.out.rd HM4.out.gr
        have z1 := put1 _ 1 (.slice none 0 0) z0.1 z0.2
        have z2 := put1 _ 2 (.slice none 0 0) z1.1 z1.2
        have z3 := put1 _ 3 (.int .i64 0) z2.1 z2.2
        have z4 := put1 _ 4 (.string ⟨#[]⟩) z3.1 z3.2
        exact ⟨none, 0, 0, none, 0, 0, 0, noText, p', n', c', l', true, o', rfl, z4.1, z4.2, HLL.out, by simp⟩
      generalize hZ0 : (((((Y2.setCell ⟨Rb, 0, none⟩ (.bool false)).setCell ⟨Rb, 1, none⟩ (.slice none 0 0)).setCell ⟨Rb, 2, none⟩ (.slice none 0 0)).setCell ⟨Rb, 3, none⟩ (.int .i64 0)).setCell ⟨Rb, 4, none⟩ (.string ⟨#[]⟩)) = Zw at hZ hZb ⊢
      clear hZ0
      have s0 : Zw.cell? ⟨Rb, 0, none⟩ = some (.bool false) := hZb.cell 0
      have s1 : Zw.cell? ⟨Rb, 1, none⟩ = some (.slice none 0 0) := hZb.cell 1
      have s2 : Zw.cell? ⟨Rb, 2, none⟩ = some (.slice none 0 0) := hZb.cell 2
      have s3 : Zw.cell? ⟨Rb, 3, none⟩ = some (.int .i64 0) := hZb.cell 3
      have s4 : Zw.cell? ⟨Rb, 4, none⟩ = some (.string ⟨#[]⟩) := hZb.cell 4
      exact bodyPost_ret (v := .agg #[.bool false, .slice none 0 0, .slice none 0 0, .int .i64 0, .string ⟨#[]⟩]) (by simp [results, Tryd.results13, go_sem, s0, s1, s2, s3, s4]) rfl hZ
end Go.Proofs.YtacmnibhdmeidaaDoor
