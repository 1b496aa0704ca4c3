/-
  The reference's reader: clr, dlc.
-/
import Derived.Test.YtacmnibhdmeidaaDoorRdr2
namespace Go.Proofs.YtacmnibhdmeidaaDoor
open Go Go.RowKit

/-- What clr and dlc give: some bytes, and a whole reader that was one, or a reader that is torn or open. -/
def ClrP (R : Nat) (p : Option Addr) (l : List Int) (t o : Bool) (X : List Int → List Int → Prop) (w : World) (e : Ending) (w' : World) : Prop :=
  ∃ q m d p' n' c' l' t' o' ys, e = .returned (.slice q m d) ∧ Rd w' R p' n' c' l' t' o' ∧ w.grownBy w' (some R) ∧ Sub p p' ∧ Lib.BytesIn w' q m ys ∧ ys.length = m ∧ m ≤ d ∧ d ≤ maxLen ∧ m ≤ 1000000 ∧ (q = none → d = 0) ∧ l'.length ≤ l.length ∧
    ((t' = true ∨ o' = true) ∨ t' = false ∧ o' = false ∧ t = false ∧ o = false ∧ X ys l')
theorem clrP_take {R : Nat} {p p1 : Option Addr} {l l1 : List Int} {t o t1 o1 : Bool} {k : Int} {X : List Int → List Int → Prop} {w w1 : World} {e : Ending} {w' : World} (h : TakeP R p1 l1 t1 o1 k w1 e w') (hg : w.grownBy w1 (some R)) (hs : Sub p p1) (hl : l1.length ≤ l.length) (hlm : l1.length ≤ 1000000)
    (hX : t1 = false → o1 = false → ∀ kn : Nat, k = kn → kn ≤ l1.length → t = false ∧ o = false ∧ X (l1.take kn) (l1.drop kn)) : ClrP R p l t o X w e w' := by
  obtain ⟨q, m, d, p', n', c', l', t', ys, rfl, hrd, hg1, hin, hys, hmd, hdm, hfar, hq, hyb, hll, hsz, hsub, hres⟩ := h
  refine ⟨q, m, d, p', n', c', l', t', o1, ys, rfl, hrd, grown_trans hg hg1, hs.trans hsub, hin, hys, hmd, hdm, ?_, (fun e => (hq e).2), Nat.le_trans hll hl, ?_⟩
  · rcases hres with ⟨_, h1, _⟩ | ⟨_, _, _, kn, _, _, h1, _⟩
    · rw [h1] at hys; simp at hys; omega
    · rw [h1, List.length_take] at hys; omega
  · rcases hres with ⟨h1, _⟩ | ⟨h1, h2, h3, kn, h4, h5, h6, h7⟩
    · exact .inl (.inl h1)
    · obtain ⟨g1, g2, g3⟩ := hX h2 h3 kn h4 h5
      exact .inr ⟨h1, h3, g1, g2, by rw [h6, h7]; exact g3⟩

/-- What holds at the head of each round. -/
structure RclR (w0 : World) (R : Nat) (p0 : Option Addr) (l0 t0 : List Int) (big : Bool) (w : World) (v : Value) (acc l : List Int) (tt oo : Bool) (p : Option Addr) (n c : Nat) (wr : World) : Prop where
  rd : Rd wr R p n c l tt oo
  own : wr.ownsRow w0.heap.size 5 1 v acc.length (acc.map (Value.int .u8))
  gr : w.grownBy wr (some R)
  pos : acc.length + l.length ≤ l0.length
  sub : Sub p0 p
  ok : tt = false → oo = false → ∀ d r, Parts big l d r → Parts big t0 (acc ++ d) r

def meas (tt oo : Bool) (l : List Int) : Nat := if tt || oo then 1 else l.length + 2
/-- Behind the head of a part. -/
def HeadR (w : World) (R : Nat) (big : Bool) (p : Option Addr) (l : List Int) (tt oo : Bool) (s7 : Value) (wx : World) : Prop :=
  ∃ (n : Int) (p2 : Option Addr) (n2 c2 : Nat) (l2 : List Int) (t2 o2 : Bool), s7 = .int .i64 n ∧ Rd wx R p2 n2 c2 l2 t2 o2 ∧ w.grownBy wx (some R) ∧ Sub p p2 ∧ -9223372036854775808 ≤ n ∧ n ≤ 9223372036854775807 ∧ l2.length ≤ l.length ∧
    ((t2 = true ∨ o2 = true) ∨ t2 = false ∧ o2 = false ∧ tt = false ∧ oo = false ∧ ∃ k : Nat, n = k ∧ RdHead big l k l2 ∧ l2.length < l.length)
theorem rdPacked_lt {l r : List Int} {x : Int} (h : RdPacked l x r) : r.length < l.length := by
  obtain ⟨b, t, rfl, _, _, rfl, _⟩ := h
  simp; omega
set_option maxRecDepth 100000 in
set_option maxHeartbeats 8000000 in
theorem clr_any (R : Nat) (p : Option Addr) (n c : Nat) (l : List Int) (t o big : Bool) (w : World) (h : Rd w R p n c l t o) :
    Calls Tryd.prog 26 #[.pointer (some ⟨R, 0, none⟩), .bool big] w (ClrP R p l t o (RdClr big l) w) := by
  have C := Lib.hid (take_any R p n c l t o 1 w h)
  have hbyt := h.byt
  have HBY := Lib.hid hbyt
  have hlm : l.length ≤ 1000000 := by rw [h.len]; exact h.nm
  have HLM := Lib.hid hlm
  have HRw := Lib.hid h.blk.lt
  have HFAR := Lib.hid (show ∀ a, p = some a → a.block < w.heap.size from fun a ha => by obtain ⟨b, o, e, h1, _⟩ := h.old a ha; subst e; exact h1)
  clear h hbyt hlm
  go_enter Tryd.func26, Tryd.ntmps26
  go_wp2_with fail
  refine C.out.mono ?_
  rintro e w1 ⟨q, m, d, p', n', c', l', t', ys, rfl, hrd, hg, hin, hys, hmd, hdm, hfar, hq, hyb, hll, hsz, hsub, hres⟩
  have c1 : w1.cell? ⟨R, 1, none⟩ = some (.bool t') := hrd.blk.cell 1
  have c2 : w1.cell? ⟨R, 2, none⟩ = some (.bool o) := hrd.blk.cell 2
  have HRD := Lib.hid hrd
  have HG := Lib.hid hg
  have HLL := Lib.hid hll
  have HSZ := Lib.hid hsz
  have HSUB := Lib.hid hsub
  clear hrd hg hmd hdm hfar hq hll hsz hsub C
  rcases hres with ⟨rfl, _, _⟩ | ⟨rfl, rfl, rfl, kn, hk, hkl, hy, hl'⟩
  · clear hin hys hyb
    go_wp2_with fail
    go_ret
    exact ⟨none, 0, 0, p', n', c', l', true, o, [], rfl, HRD.out, HG.out, HSUB.out, Lib.BytesIn.nil _ _ _, rfl, Nat.le_refl _, Nat.zero_le _, Nat.zero_le _, (fun _ => rfl), HLL.out, .inl (.inl rfl)⟩
  obtain ⟨b, hl, hyb1⟩ := take_one hk hkl hy hl'
  clear hy hl' hk hkl
  subst hyb1
  obtain rfl : m = 1 := hys.symm
  obtain ⟨g1, o1, rfl, hc⟩ := hin (by omega)
  have d0 : w1.cell? ⟨g1, o1, none⟩ = some (.int .u8 b) := hc 0 (by omega)
  have hb := HBY.out b (by rw [hl]; exact List.mem_cons_self ..)
  have b0 := hb.1
  have b1 := hb.2
  have HL := Lib.hid hl
  have hll1 : l'.length + 1 = l.length := by rw [hl]; rfl
  have HLL1 := Lib.hid hll1
  clear hc hin hys hyb hl hb hll1
  by_cases h0 : b = 0
  · subst h0
    go_wp2_with fail
    go_ret
    exact ⟨none, 0, 0, p', n', c', l', false, false, [], rfl, HRD.out, HG.out, HSUB.out, Lib.BytesIn.nil _ _ _, rfl, Nat.le_refl _, Nat.zero_le _, Nat.zero_le _, (fun _ => rfl), HLL.out, .inr ⟨rfl, rfl, rfl, rfl, 0, l', HL.out, .inl ⟨.inl rfl, rfl, rfl⟩⟩⟩
  have z0 : (b == 0) = false := by simpa using h0
  by_cases h1 : b = 253
  · subst h1
    clear h0
    go_wp2_with fail
    go_ret
    exact ⟨none, 0, 0, p', n', c', l', false, false, [], rfl, HRD.out, HG.out, HSUB.out, Lib.BytesIn.nil _ _ _, rfl, Nat.le_refl _, Nat.zero_le _, Nat.zero_le _, (fun _ => rfl), HLL.out, .inr ⟨rfl, rfl, rfl, rfl, 253, l', HL.out, .inl ⟨.inr (.inl rfl), rfl, rfl⟩⟩⟩
  have z1 : (b == 253) = false := by simpa using h1
  by_cases h2 : b = 255
  · subst h2
    clear h0 h1
    go_wp2_with fail
    go_ret
    exact ⟨none, 0, 0, p', n', c', l', false, false, [], rfl, HRD.out, HG.out, HSUB.out, Lib.BytesIn.nil _ _ _, rfl, Nat.le_refl _, Nat.zero_le _, Nat.zero_le _, (fun _ => rfl), HLL.out, .inr ⟨rfl, rfl, rfl, rfl, 255, l', HL.out, .inl ⟨.inr (.inr rfl), rfl, rfl⟩⟩⟩
  have z2 : (b == 255) = false := by simpa using h2
  by_cases h3 : b = 254
  · subst h3
    clear h0 h1 h2 z0 z1 z2 b0 b1
    have H0 := Lib.hid (show RclR w R p l l' big w (.slice none 0 0) [] l' false false p' n' c' w1 from
      { rd := HRD.out, own := World.ownsRow_nil _ _ _ _, gr := HG.out, pos := by simp; have := HLL1.out; omega, sub := HSUB.out, ok := fun _ _ d r hp => by simpa using hp })
    go_wp2_with fail
    clear d0 c1 c2
    go_loopg [6, 7, 8, 9] (l'.length + 2) (fun G s6 s7 s8 s9 wr => ∃ (acc lc : List Int) (tt oo : Bool) (pc : Option Addr) (nc cc : Nat) (v : Value), G = meas tt oo lc ∧ s6 = v ∧ RclR w R p l l' big w v acc lc tt oo pc nc cc wr)
    case atStart => exact ⟨[], l', false, false, p', n', c', _, rfl, rfl, H0.out⟩
    case round =>
      obtain ⟨acc, lc, tt, oo, pc, nc, cc, v, rfl, rfl, hrel⟩ := hrel
      have HREL := Lib.hid hrel
      clear hrel H0
      go_upto_if 50 with fail
      go_cut [7, 8, 9] (fun s7 s8 s9 wx => HeadR wr R big pc lc tt oo s7 wx)
      case first =>
        cases big with
        | true =>
          go_wp2_with fail
          refine (packed_any R pc nc cc lc tt oo wr HREL.out.rd).mono ?_
          rintro e w2 ⟨v2, p2, n2, c2, l2, t2, o2, rfl, hrd, hg, hsub, hv0, hv1, hll, hres⟩
          have q2 : w2.cell? ⟨R, 2, none⟩ = some (.bool o2) := hrd.blk.cell 2
          have f2 := hrd.blk.frozen 2
          have HRD2 := Lib.hid hrd
          have HG2 := Lib.hid hg
          have HS2 := Lib.hid hsub
          have HLL2 := Lib.hid hll
          have HRES2 := Lib.hid hres
          clear hrd hg hsub hll hres
          by_cases hn : v2 < 0
          · have g0 : decide (v2 < 0) = true := by simpa using hn
            go_wp2_with fail
            go_meet
            obtain ⟨r1, r2⟩ := HRD2.out.opened
            exact ⟨v2, p2, n2, c2, l2, t2, true, rfl, r1, grown_trans HG2.out r2, HS2.out, hv0, hv1, HLL2.out, .inl (.inr rfl)⟩
          · have g0 : decide (v2 < 0) = false := by simpa using hn
            by_cases hb : 1073741824 < v2
            · have g1 : decide (1073741824 < v2) = true := by simpa using hb
              go_wp2_with fail
              go_meet
              obtain ⟨r1, r2⟩ := HRD2.out.opened
              exact ⟨v2, p2, n2, c2, l2, t2, true, rfl, r1, grown_trans HG2.out r2, HS2.out, hv0, hv1, HLL2.out, .inl (.inr rfl)⟩
            · have g1 : decide (1073741824 < v2) = false := by simpa using hb
              go_wp2_with fail
              go_meet
              refine ⟨v2, p2, n2, c2, l2, t2, o2, rfl, HRD2.out, HG2.out, HS2.out, hv0, hv1, HLL2.out, ?_⟩
              rcases HRES2.out with h1 | ⟨h1, h2, h3, h4, h5⟩
              · exact .inl h1
              · obtain ⟨k, hk⟩ := Int.eq_ofNat_of_zero_le (show 0 ≤ v2 by omega)
                subst hk
                exact .inr ⟨h1, h2, h3, h4, k, rfl, ⟨h5, by omega⟩, rdPacked_lt h5⟩
        | false =>
          go_wp2_with fail
          refine (take_any R pc nc cc lc tt oo 1 wr HREL.out.rd).mono ?_
          rintro e w2 ⟨q3, m3, d3, p2, n2, c2, l2, t2, ys3, rfl, hrd, hg, hin, hys, hmd, hdm, hfar, hq, hyb, hll, hsz, hsub, hres⟩
          have HRD2 := Lib.hid hrd
          have HG2 := Lib.hid hg
          have HS2 := Lib.hid hsub
          have HLL2 := Lib.hid hll
          clear hrd hg hsub hll hmd hdm hfar hq hsz
          rcases hres with ⟨rfl, rfl, _⟩ | ⟨rfl, rfl, rfl, kn, hk, hkl, hy, hl'⟩
          · obtain rfl : m3 = 0 := hys.symm
            clear hin hys hyb
            go_wp2_with fail
            go_meet
            exact ⟨0, p2, n2, c2, l2, true, oo, rfl, HRD2.out, HG2.out, HS2.out, by omega, by omega, HLL2.out, .inl (.inl rfl)⟩
          · obtain ⟨x, hl, hyb1⟩ := take_one hk hkl hy hl'
            clear hy hl' hk hkl
            subst hyb1
            obtain rfl : m3 = 1 := hys.symm
            obtain ⟨g3, o3, rfl, hc⟩ := hin (by omega)
            have e0 : w2.cell? ⟨g3, o3, none⟩ = some (.int .u8 x) := hc 0 (by omega)
            have hx := hyb x (List.mem_cons_self ..)
            have x0 := hx.1
            have x1 := hx.2
            have HLX := Lib.hid hl
            clear hc hin hys hyb hl hx
            go_wp2_with fail
            go_meet
            refine ⟨x, p2, n2, c2, l2, false, false, rfl, HRD2.out, HG2.out, HS2.out, by omega, by omega, HLL2.out, .inr ⟨rfl, rfl, rfl, rfl, x.toNat, by omega, ⟨x, x0, HLX.out, rfl⟩, ?_⟩⟩
            rw [HLX.out]; simp
      case rest =>
        obtain ⟨n3, p3, n3', c3, l3, t3, o3, rfl, hrd, hg, hsub, hv0, hv1, hll, hres⟩ := hcut
        have q1 : wc.cell? ⟨R, 1, none⟩ = some (.bool t3) := hrd.blk.cell 1
        have q2 : wc.cell? ⟨R, 2, none⟩ = some (.bool o3) := hrd.blk.cell 2
        have HRD3 := Lib.hid hrd
        have HG3 := Lib.hid hg
        have HS3 := Lib.hid hsub
        have HPS := Lib.hid HREL.out.sub
        have HLL3 := Lib.hid hll
        have hown3 := HREL.out.own.kept hg (Or.inr (fun e => by have := own_ge HREL.out.own R e; have := HRw.out; omega))
        have HO3 := Lib.hid hown3
        have HGW := Lib.hid (grown_trans HREL.out.gr hg)
        clear hrd hg hsub hll hown3
        obtain ⟨qv, dv, rfl, hinv⟩ := bin_own HO3.out
        have HIV := Lib.hid hinv
        have hcapv := own_cap HO3.out
        clear hinv
        have hcv : acc.length ≤ dv ∧ dv ≤ maxLen ∧ acc.length ≤ 1000000 ∧ (qv = none → dv = 0) := by
          have h1 := HREL.out.pos
          have h2 := HLM.out
          rcases HO3.out.2 with ⟨he, _⟩ | ⟨g', cap, cur, he, _, _, hle, hmx, _⟩
          · injection he with e1 e2 e3; exact ⟨hcapv, by rw [e3]; exact Nat.zero_le _, by omega, fun _ => e3⟩
          · injection he with e1 e2 e3; exact ⟨hcapv, by rw [e3]; exact hmx, by omega, fun e => by rw [e1] at e; cases e⟩
        have HCV := Lib.hid hcv
        have HSP := Lib.hid (show Sub p p3 from HPS.out.trans HS3.out)
        have HLT := Lib.hid (show l3.length ≤ l.length from by have := HREL.out.pos; have := HLL3.out; omega)
        have HRES3 := Lib.hid hres
        clear hcapv hcv hres
        cases t3 with
        | true =>
          go_wp2_with fail
          go_ret
          exact ⟨qv, acc.length, dv, p3, n3', c3, l3, true, o3, acc, rfl, HRD3.out, HGW.out, HSP.out, HIV.out, rfl, HCV.out.1, HCV.out.2.1, HCV.out.2.2.1, HCV.out.2.2.2, HLT.out, .inl (.inl rfl)⟩
        | false =>
        cases o3 with
        | true =>
          go_wp2_with fail
          go_ret
          exact ⟨qv, acc.length, dv, p3, n3', c3, l3, false, true, acc, rfl, HRD3.out, HGW.out, HSP.out, HIV.out, rfl, HCV.out.1, HCV.out.2.1, HCV.out.2.2.1, HCV.out.2.2.2, HLT.out, .inl (.inr rfl)⟩
        | false =>
        obtain ⟨rfl, rfl, k, hk, hhead, hlt⟩ : tt = false ∧ oo = false ∧ ∃ k : Nat, n3 = k ∧ RdHead big lc k l3 ∧ l3.length < lc.length := by
          rcases HRES3.out with h1 | ⟨_, _, h3, h4, h5⟩
          · rcases h1 with h1 | h1 <;> cases h1
          · exact ⟨h3, h4, h5⟩
        subst hk
        have HH := Lib.hid hhead
        have HLTT := Lib.hid hlt
        clear hhead hlt
        by_cases hk0 : k = 0
        · subst hk0
          go_wp2_with fail
          go_ret
          refine ⟨qv, acc.length, dv, p3, n3', c3, l3, false, false, acc, rfl, HRD3.out, HGW.out, HSP.out, HIV.out, rfl, HCV.out.1, HCV.out.2.1, HCV.out.2.2.1, HCV.out.2.2.2, HLT.out, .inr ⟨rfl, rfl, rfl, rfl, 254, l', HL.out, .inr (.inl ⟨rfl, ?_⟩)⟩⟩
          have hp := HREL.out.ok rfl rfl [] l3 (.done HH.out)
          rwa [List.append_nil] at hp
        · have e0 : (((k : Nat) : Int) == 0) = false := by simp; omega
          have HK0 := Lib.hid hk0
          clear hk0
          go_wp2_with fail
          refine (take_any R p3 n3' c3 l3 false false (k : Int) wc HRD3.out).mono ?_
          rintro e w4 ⟨q4, m4, d4, p4, n4, c4, l4, t4, ys4, rfl, hrd4, hg4, hin4, hys4, hmd4, hdm4, hfar4, hq4, hyb4, hll4, hsz4, hsub4, hres4⟩
          have hown4 := HO3.out.kept hg4 (Or.inr (fun e => by have := own_ge HO3.out R e; have := HRw.out; omega))
          have hm4 : m4 ≤ 1000000 := by
            have := HLT.out; have := HLM.out
            rcases hres4 with ⟨_, h1, _⟩ | ⟨_, _, _, kn, _, _, h1, _⟩
            · rw [h1] at hys4; simp at hys4; omega
            · rw [h1, List.length_take] at hys4; omega
          obtain ⟨v5, w5, hrun, hov, hgr, _⟩ := run_append_bytes w4 w.heap.size _ acc.length acc hown4 q4 m4 d4 ys4 hin4 hys4 (by have := HCV.out.2.2.1; omega) (Nat.le_trans HGW.out.size hg4.size)
          have hRv : ∀ x, (Value.slice qv acc.length dv).ownBlock = some x → w.heap.size ≤ x := own_ge HO3.out
          have HR := Lib.hid hrun
          have HNX := Lib.hid (show RclR w R p l l' big w v5 (acc ++ ys4) l4 t4 false p4 n4 c4 w5 from
            { rd := hrd4.grown hgr (fun x hx => .inr ⟨fun e => by have := hRv x hx; have := HRw.out; omega, fun a ha => by have h1 := (HSP.out.trans hsub4).lt HFAR.out a ha; have h2 := hRv x hx; omega⟩)
              own := by rw [List.length_append, hys4]; exact hov
              gr := grown_new (grown_trans HGW.out hg4) hgr hRv
              pos := by
                have h1 := HREL.out.pos; have h2 := HLL3.out
                rw [List.length_append]
                rcases hres4 with ⟨_, g1, g2⟩ | ⟨_, _, _, kn, _, g5, g6, g7⟩
                · rw [g1, g2]; simp; omega
                · rw [g6, g7, List.length_take, List.length_drop]; omega
              sub := HSP.out.trans hsub4
              ok := fun ht _ dd rr hp => by
                rcases hres4 with ⟨g0, _, _⟩ | ⟨_, _, _, kn, g4, g5, g6, g7⟩
                · rw [g0] at ht; cases ht
                · obtain rfl : k = kn := by omega
                  rw [List.append_assoc, g6]
                  rw [g7] at hp
                  exact HREL.out.ok rfl rfl _ _ (.part HH.out (by have := HK0.out; omega) g5 hp) })
          have HM := Lib.hid (show meas t4 false l4 < meas false false lc from by
            have h1 := HLTT.out
            unfold meas
            cases t4
            · simp; omega
            · simp)
          clear hown4 hrun hov hgr hRv hrd4 hg4 hin4 hys4 hmd4 hdm4 hfar4 hq4 hyb4 hll4 hsz4 hsub4 hres4 hm4
          go_wp2_with (at_builtin; refine Lib.wpList_append_run _ rfl _ _ _ _ rfl _ _ rfl rfl _ _ HR.out ?_)
          go_roundg (meas t4 false l4)
          case measure => exact HM.out
          case rel => exact ⟨acc ++ ys4, l4, t4, false, p4, n4, c4, v5, rfl, rfl, HNX.out⟩
  · have h0b : 0 < b := by omega
    have h253 : b < 253 := by omega
    have H0B := Lib.hid h0b
    have H253 := Lib.hid h253
    clear h0 h1 h2 h0b h253
    go_wp2_with fail
    refine (take_any R p' n' c' l' false false b w1 HRD.out).mono ?_
    rintro e w2 htk
    have HTK := Lib.hid htk
    obtain ⟨q2, m2, d2, _, _, _, _, _, _, rfl, _⟩ := htk
    go_wp2_with fail
    go_ret
    exact clrP_take HTK.out HG.out HSUB.out HLL.out (by have := HLL.out; have := HLM.out; omega) (fun _ _ kn hk hkl => ⟨rfl, rfl, b, l', HL.out, .inr (.inr ⟨⟨H0B.out, H253.out⟩, by omega, by rw [hk]; rfl, by rw [hk]; rfl⟩)⟩)
end Go.Proofs.YtacmnibhdmeidaaDoor
