/-
  Served's loop over steps.
-/
import Derived.Test.YtmojecgmneodlaaDoorSrv6
import Derived.Deep.CutBlock
namespace Go.Proofs.YtmojecgmneodlaaDoor
open Go Go.RowKit

/-- Steps as they lie in memory. -/
def StepsIn (w : World) (a : Option Addr) (n : Nat) (KD : Nat → Int) (SV : Nat → Srv) : Prop := ∀ r, r < n → ∃ g, a = some ⟨g, 0, none⟩ ∧ w.cell? ⟨g, r * 4, none⟩ = some (.int .i64 (KD r)) ∧ w.cell? ⟨g, r * 4 + 1, none⟩ = some (.string (SV r).pr) ∧ w.cell? ⟨g, r * 4 + 2, none⟩ = some (.string (SV r).ad) ∧ w.cell? ⟨g, r * 4 + 3, none⟩ = some (.int .i64 (SV r).po)
theorem StepsIn.kp {w w' : World} {a : Option Addr} {n : Nat} {KD : Nat → Int} {SV : Nat → Srv} (h : StepsIn w a n KD SV) (hk : Kp w w') : StepsIn w' a n KD SV := fun r hr => by
  obtain ⟨g, h0, h1, h2, h3, h4⟩ := h r hr
  exact ⟨g, h0, below_some hk h1, below_some hk h2, below_some hk h3, below_some hk h4⟩
def stAt (KD : Nat → Int) (SV : Nat → Srv) : Nat → SrvSt
  | 0 => ⟨[], 0⟩
  | k + 1 => (stAt KD SV k).step (KD k) (SV k)
theorem stAt_len (KD : Nat → Int) (SV : Nat → Srv) : ∀ k, (stAt KD SV k).all.length ≤ k ∧ (stAt KD SV k).pos ≤ k
  | 0 => ⟨Nat.le_refl _, Nat.le_refl _⟩
  | k + 1 => by
    have h := stAt_len KD SV k
    have h2 := step_len (stAt KD SV k) (KD k) (SV k)
    simp only [stAt]
    omega
/-- A row of records, one behind the other. -/
def flatV (f : Nat → List Value) : Nat → List Value
  | 0 => []
  | k + 1 => flatV f k ++ f k
def outC (KD : Nat → Int) (SV : Nat → Srv) (r : Nat) : List Value := srvC ((stAt KD SV r).got (KD r))
def isC (KD : Nat → Int) (SV : Nat → Srv) (r : Nat) : List Value := [.bool ((stAt KD SV r).gives (KD r))]
/-- The state of Served behind k steps. -/
def SvSt (w : World) (b : Nat) (KD : Nat → Int) (SV : Nat → Srv) (k : Nat) (vo vi : Value) (wr : World) : Prop :=
  ∃ v, Inf w.heap.size wr b v (stAt KD SV k) ∧ wr.ownsRow w.heap.size 27 3 vo k (flatV (outC KD SV) k) ∧ wr.ownsRow w.heap.size 4 1 vi k (flatV (isC KD SV) k) ∧ Kp w wr
/-- Behind a step's switch. -/
def SwSt (w : World) (b : Nat) (KD : Nat → Int) (SV : Nat → Srv) (k : Nat) (vo vi s : Value) (wr : World) : Prop :=
  Gave (stAt KD SV k) (KD k) s wr ∧ ∃ v, Inf w.heap.size wr b v (stAt KD SV (k + 1)) ∧ wr.ownsRow w.heap.size 27 3 vo k (flatV (outC KD SV) k) ∧ wr.ownsRow w.heap.size 4 1 vi k (flatV (isC KD SV) k) ∧ Kp w wr
theorem infoSrv : (Tryd.prog.info? 27).map (fun i => (i.zero, i.size, i.bytes)) = some (some (.agg #[.string ByteArray.empty, .string ByteArray.empty, .int .i64 0]), 3, 40) := by kernel_rfl
theorem infoBool : (Tryd.prog.info? 4).map (fun i => (i.zero, i.size, i.bytes)) = some (some (.bool false), 1, 1) := by kernel_rfl

/-- append of one new record. -/
theorem app_one {ty e : TypeId} {z : Value} {size bytes : Nat} (ht : Tryd.prog.underlying ty = some (.slice e)) (hinfo : (Tryd.prog.info? e).map (fun i => (i.zero, i.size, i.bytes)) = some (some z, size, bytes)) (hzs : z.cells.size = size) (hsz : 0 < size) (hby : bytes ≤ 1000)
    (W : World) (base : Nat) (v : Value) (n : Nat) (xs : List Value) (hown : W.ownsRow base e size v n xs) (hbase : base ≤ W.heap.size) (hn : n ≤ 1000000) (cs : List Value) (hl : cs.length = size) (h1 : ∀ u ∈ cs, u.oneCell' = true) :
    ∃ v' w5, (Builtin.append_ #[ty, ty] ty #[v, .slice (some ⟨W.heap.size, 0, none⟩) 1 1]).run Tryd.prog (W.alloc (.cells cs.toArray e)) = .ok v' w5 ∧
      w5.ownsRow base e size v' (n + 1) (xs ++ cs) ∧ W.grownBy w5 v.ownBlock ∧ (v'.ownBlock = v.ownBlock ∨ v'.ownBlock = some (W.heap.size + 1)) := by
  generalize hW : W.alloc (.cells cs.toArray e) = W4
  have hs : W4.heap.size = W.heap.size + 1 := by rw [← hW]; simp
  have hk : Kp W W4 := hW ▸ (Kp.refl W).alloc _
  obtain ⟨v', w5, r1, r2, r5, r6⟩ := app_rec ht hinfo hzs hsz hby W4 base v n xs (own_below hown hk) W.heap.size cs (hW ▸ Blk.new W _ _) hl h1 hn (by omega)
  refine ⟨v', w5, r1, r2, ?_, by rw [hs] at r6; exact r6⟩
  rw [← hW] at r5
  exact (World.grownBy_alloc W _ _).trans r5
theorem Inf.heap {base b : Nat} {v : Value} {t : SrvSt} {w w' : World} (h : Inf base w b v t) (hb : w'.heap[b]? = w.heap[b]?) (hh : ∀ g, v.ownBlock = some g → w'.heap[g]? = w.heap[g]?) : Inf base w' b v t := by
  obtain ⟨⟨cs, h1, h2, h3⟩, ho, hs⟩ := h
  exact ⟨⟨cs, hb.trans h1, h2, h3⟩, own_heap ho hh, hs⟩
theorem Inf.blk_lt {base b : Nat} {v : Value} {t : SrvSt} {w : World} (h : Inf base w b v t) : b < w.heap.size := by
  obtain ⟨⟨cs, h1, _, _⟩, _, _⟩ := h
  exact h1.lt
/-- Another row of another type grows. -/
theorem Inf.grown {base b : Nat} {v u : Value} {t : SrvSt} {w w' : World} (h : Inf base w b v t) {B : Nat} {e : TypeId} {size n : Nat} {xs : List Value} (ho : w.ownsRow B e size u n xs) (h1 : e ≠ 72) (h2 : e ≠ 75) (hg : w.grownBy w' u.ownBlock) : Inf base w' b v t := by
  have hI := h
  obtain ⟨⟨cs, hb, _, _⟩, hs, _⟩ := h
  exact hI.heap (hg.block b hI.blk_lt (fun e => own_blk_ne ho hb h1 e.symm)) fun g hg1 => hg.block g (own_lt' hs g hg1).2 (fun e => own_own_ne ho hs h2 g e.symm hg1)
theorem own_grown {w w' : World} {base base' : Nat} {e e' : TypeId} {size size' n n' : Nat} {v v' : Value} {xs xs' : List Value} (h : w.ownsRow base e size v n xs) (h' : w.ownsRow base' e' size' v' n' xs') (hne : e ≠ e') (hg : w.grownBy w' v'.ownBlock) : w'.ownsRow base e size v n xs :=
  own_heap h fun g hg1 => hg.block g (own_lt' h g hg1).2 (fun e => own_own_ne h h' hne g hg1 e.symm)
theorem srvC_one (s : Srv) : ∀ u ∈ srvC s, u.oneCell' = true := fun u hu => by
  simp only [srvC, List.mem_cons, List.not_mem_nil, or_false] at hu
  rcases hu with rfl | rfl | rfl <;> rfl
/-- The two rows grow by a step's answer. -/
theorem sv_next {w : World} {b k : Nat} {KD : Nat → Int} {SV : Nat → Srv} {vo vi s : Value} {wc : World} (W : World) (h : SwSt w b KD SV k vo vi s wc) (hk : Kp wc W) (hn : k ≤ 1000) :
    ∃ v1 w5 v2 w6, (Builtin.append_ #[22, 22] 22 #[vo, .slice (some ⟨W.heap.size, 0, none⟩) 1 1]).run Tryd.prog (W.alloc (.cells (outC KD SV k).toArray 27)) = .ok v1 w5 ∧
      (Builtin.append_ #[30, 30] 30 #[vi, .slice (some ⟨w5.heap.size, 0, none⟩) 1 1]).run Tryd.prog (w5.alloc (.cells (isC KD SV k).toArray 4)) = .ok v2 w6 ∧ SvSt w b KD SV (k + 1) v1 v2 w6 := by
  obtain ⟨_, v, hI, hvo, hvi, hkw⟩ := h
  have hI := hI.kp hk
  have hvo := own_below hvo hk
  have hvi := own_below hvi hk
  have hkw := hkw.trans hk
  obtain ⟨v1, w5, r1, r2, r3, _⟩ := app_one Tryd.underlying22 infoSrv rfl (by decide) (by decide) W w.heap.size vo k _ hvo hkw.size (by omega) (outC KD SV k) rfl (srvC_one _)
  have hI5 := hI.grown hvo (by decide) (by decide) r3
  have hvi5 := own_grown hvi hvo (by decide) r3
  have hkw5 := hkw.grown r3 (own_ge hvo)
  obtain ⟨v2, w6, q1, q2, q3, _⟩ := app_one Tryd.underlying30 infoBool rfl (by decide) (by decide) w5 w.heap.size vi k _ hvi5 hkw5.size (by omega) (isC KD SV k) rfl (fun u hu => by rw [List.mem_singleton.1 hu]; rfl)
  exact ⟨v1, w5, v2, w6, r1, q1, v, hI5.grown hvi5 (by decide) (by decide) q3, own_grown r2 hvi5 (by decide) q3, q2, hkw5.grown q3 (own_ge hvi5)⟩

/-- What Served returns. -/
def SrvPost (w : World) (n : Nat) (KD : Nat → Int) (SV : Nat → Srv) (e : Ending) (w' : World) : Prop := ∃ vo vi va, e = .returned (.tuple #[vo, vi, va]) ∧ w'.ownsRow w.heap.size 27 3 vo n (flatV (outC KD SV) n) ∧ w'.ownsRow w.heap.size 4 1 vi n (flatV (isC KD SV) n) ∧ w'.ownsRow w.heap.size 27 3 va (stAt KD SV n).all.length (allC (stAt KD SV n).all) ∧ Kp w w'
set_option maxRecDepth 100000 in
set_option maxHeartbeats 4000000 in
theorem served_any (a : Option Addr) (n c : Nat) (KD : Nat → Int) (SV : Nat → Srv) (w : World) (hS : StepsIn w a n KD SV) (hn : n ≤ 300) (ho : ∀ r, r < n → srvOk (SV r).pr (SV r).ad = true) :
    Calls Tryd.prog 13 #[.slice a n c] w (SrvPost w n KD SV) := by
  have i0 : (n : Int) ≤ 300 := by omega
  have HS := Lib.hid hS
  have HO := Lib.hid ho
  have HN := Lib.hid hn
  clear hS ho hn
  go_enter Tryd.func13, Tryd.ntmps13
  go_wp2_with fail
  generalize hX : w.alloc (.cells _ 72) = X
  obtain ⟨b, hb⟩ : ∃ b, b = w.heap.size := ⟨_, rfl⟩
  have HB := Lib.hid (show w.heap.size ≤ b from by omega)
  have HST := Lib.hid (show SvSt w b KD SV 0 (.slice none 0 0) (.slice none 0 0) X from
    ⟨.slice none 0 0, ⟨⟨_, by rw [hb, ← hX]; exact Blk.new w _ _, rfl, rfl⟩, World.ownsRow_nil _ _ _ _, fun s hs => absurd hs List.not_mem_nil⟩, World.ownsRow_nil _ _ _ _, World.ownsRow_nil _ _ _ _, by rw [← hX]; exact (Kp.refl w).alloc _⟩)
  rw [← hb]
  clear hX hb
  go_loopg [6, 7, 17] n (fun G s6 s7 s17 wr => ∃ (k : Nat) (vo vi : Value), G = n - k ∧ k ≤ n ∧ vo = s6 ∧ vi = s7 ∧ s17 = .int .i64 (k : Int) ∧ SvSt w b KD SV k vo vi wr)
  case atStart => exact ⟨0, _, _, rfl, Nat.zero_le _, rfl, rfl, rfl, HST.out⟩
  case round =>
    obtain ⟨k, vo, vi, rfl, hk, rfl, rfl, rfl, hst⟩ := hrel
    have HR := Lib.hid hst
    have HKN := Lib.hid hk
    have j0 : (0 : Int) ≤ (k : Int) := by omega
    have j1 : (k : Int) ≤ (n : Int) := by omega
    clear hst hk
    by_cases hlt : k < n
    · have j2 : (k : Int) < (n : Int) := by omega
      have HLT := Lib.hid hlt
      obtain ⟨v, hI, hvo, hvi, hkw⟩ := HR.out
      obtain ⟨g, rfl, d0, d1, d2, d3⟩ := (HS.out.kp hkw) k hlt
      have HOK := Lib.hid (HO.out k hlt)
      have HI := Lib.hid hI
      have HVO := Lib.hid hvo
      have HVI := Lib.hid hvi
      have HKW := Lib.hid hkw
      have HTL := Lib.hid (stAt_len KD SV k)
      clear hlt hI hvo hvi hkw HR
      obtain ⟨kd, hkd⟩ : ∃ kd, kd = KD k := ⟨_, rfl⟩
      obtain ⟨s, hs⟩ : ∃ s, s = SV k := ⟨_, rfl⟩
      have HSN := Lib.hid (show stAt KD SV (k + 1) = (stAt KD SV k).step kd s from by rw [hkd, hs]; rfl)
      rw [← hkd] at d0
      rw [← hs] at d1 d2 d3 HOK
      have HSW := Lib.hid (fun s10 wx (h : Gave (stAt KD SV k) kd s10 wx ∧ ∃ v, Inf w.heap.size wx b v ((stAt KD SV k).step kd s) ∧ wx.ownsRow w.heap.size 27 3 vo k (flatV (outC KD SV) k) ∧ wx.ownsRow w.heap.size 4 1 vi k (flatV (isC KD SV) k) ∧ Kp w wx) => (show SwSt w b KD SV k vo vi s10 wx from by rw [HSN.out.symm, hkd] at h; exact h))
      clear hkd hs
      obtain ⟨pr, ad, po⟩ := s
      dsimp only at d1 d2 d3 HOK
      go_upto_block 2 with (fail)
      generalize hW1 : wr.alloc (.cells #[.int .i64 kd, .string pr, .string ad, .int .i64 po] 29) = W1
      have hkA : Kp wr W1 := by rw [← hW1]; exact (Kp.refl wr).alloc _
      obtain ⟨sb, hsb⟩ : ∃ sb, sb = wr.heap.size := ⟨_, rfl⟩
      have HSB := Lib.hid (show Blk W1 sb 29 #[.int .i64 kd, .string pr, .string ad, .int .i64 po] from by rw [hsb, ← hW1]; exact Blk.new wr _ _)
      rw [← hsb]
      have HKA := Lib.hid (HKW.out.trans hkA)
      have HIA := Lib.hid (HI.out.kp hkA)
      have HVOA := Lib.hid (own_below HVO.out hkA)
      have HVIA := Lib.hid (own_below HVI.out hkA)
      have c1 : W1.cell? ⟨sb, 1, none⟩ = some (.string pr) := HSB.out.cell 1
      have c2 : W1.cell? ⟨sb, 2, none⟩ = some (.string ad) := HSB.out.cell 2
      have c3 : W1.cell? ⟨sb, 3, none⟩ = some (.int .i64 po) := HSB.out.cell 3
      clear hW1 hsb d0 d1 d2 d3 hkA HI HVO HVI HKW HSB
      go_cut [10] (fun s10 wx => SwSt w b KD SV k vo vi s10 wx)
      case first =>
        by_cases h0 : kd = 0
        · subst h0
          go_wp2_with fail
          refine (serverOf_any pr ad po _).mono ?_
          rintro e w1 ⟨rfl, hk1⟩
          have HIF := Lib.hid (HIA.out.kp hk1)
          have HVOF := Lib.hid (own_below HVOA.out hk1)
          have HVIF := Lib.hid (own_below HVIA.out hk1)
          have HKF := Lib.hid (HKA.out.trans hk1)
          clear hk1 c1 c2 c3
          go_wp2_with fail
          refine (inf_add w.heap.size b v (stAt KD SV k) ⟨pr, ad, po⟩ w1 HIF.out HOK.out (by have := HTL.out; have := HLT.out; have := HN.out; omega) HKF.out.size).mono ?_
          rintro e w2 ⟨rfl, v1, hi1, hf⟩
          go_wp2_with fail
          go_meet
          exact HSW.out _ _ ⟨(by refine .inl ⟨?_, rfl⟩; simp [SrvSt.gives]), v1, hi1, HIF.out.row hf HVOF.out (by decide) (by decide), HIF.out.row hf HVIF.out (by decide) (by decide), hf.2 _ HKF.out (Nat.le_refl _) HB.out⟩
        · have b0 : ((kd : Int) == 0) = false := by simp [h0]
          by_cases h1 : kd = 1
          · subst h1
            go_wp2_with fail
            refine (inf_ask w.heap.size b v (stAt KD SV k) W1 HIA.out (by have := HTL.out; have := HLT.out; have := HN.out; omega) (by have := HTL.out; have := HLT.out; have := HN.out; omega)).mono ?_
            rintro e w2 ⟨s1, rfl, hg, hi1, hf⟩
            go_wp2_with fail
            go_meet
            exact HSW.out _ _ ⟨hg, v, hi1, HIA.out.row hf HVOA.out (by decide) (by decide), HIA.out.row hf HVIA.out (by decide) (by decide), hf.2 _ HKA.out (Nat.le_refl _) HB.out⟩
          · have b1 : ((kd : Int) == 1) = false := by simp [h1]
            by_cases h2 : kd = 2
            · subst h2
              go_wp2_with fail
              refine (inf_jump w.heap.size b v (stAt KD SV k) W1 HIA.out (by have := HTL.out; have := HLT.out; have := HN.out; omega) (by have := HTL.out; have := HLT.out; have := HN.out; omega)).mono ?_
              rintro e w2 ⟨s1, rfl, hg, hi1, hf⟩
              go_wp2_with fail
              go_meet
              exact HSW.out _ _ ⟨hg, v, hi1, HIA.out.row hf HVOA.out (by decide) (by decide), HIA.out.row hf HVIA.out (by decide) (by decide), hf.2 _ HKA.out (Nat.le_refl _) HB.out⟩
            · have b2 : ((kd : Int) == 2) = false := by simp [h2]
              by_cases h3 : kd = 3
              · subst h3
                go_wp2_with fail
                refine (inf_reset w.heap.size b v (stAt KD SV k) W1 HIA.out).mono ?_
                rintro e w2 ⟨rfl, hi1, hf⟩
                go_wp2_with fail
                go_meet
                exact HSW.out _ _ ⟨.inl ⟨by simp [SrvSt.gives], rfl⟩, v, hi1, HIA.out.row hf HVOA.out (by decide) (by decide), HIA.out.row hf HVIA.out (by decide) (by decide), hf.2 _ HKA.out (Nat.le_refl _) HB.out⟩
              · have b3 : ((kd : Int) == 3) = false := by simp [h3]
                have HE := Lib.hid (show (stAt KD SV k).gives kd = false ∧ (stAt KD SV k).step kd ⟨pr, ad, po⟩ = stAt KD SV k from ⟨by rw [SrvSt.gives, if_neg h1, if_neg h2], by rw [SrvSt.step, if_neg h0, if_neg h2, if_neg h3]⟩)
                clear h0 h1 h2 h3
                go_wp2_with fail
                go_meet
                refine HSW.out _ _ ⟨.inl ⟨HE.out.1, rfl⟩, v, ?_, HVOA.out, HVIA.out, HKA.out⟩
                rw [HE.out.2]
                exact HIA.out
      case rest =>
        have HC := Lib.hid hcut
        clear hcut HSW HIA HVOA HVIA HKA c1 c2 c3
        obtain ⟨hg, _⟩ := HC.out
        have HKK := Lib.hid (show k ≤ 1000 from by have := HLT.out; have := HN.out; omega)
        rcases hg with ⟨hgf, rfl⟩ | ⟨hgt, g1, o1, rfl, y0, y1, y2⟩
        · have HO1 := Lib.hid (show outC KD SV k = [.string ⟨#[]⟩, .string ⟨#[]⟩, .int .i64 0] from by rw [outC, SrvSt.got, hgf]; rfl)
          have HO2 := Lib.hid (show isC KD SV k = [.bool false] from by rw [isC, hgf])
          clear hgf
          obtain ⟨v1, w5, v2, w6, r1, r2, hst⟩ := sv_next (wc.alloc (.cells #[.string ⟨#[]⟩, .string ⟨#[]⟩, .int .i64 0] 27)) HC.out ((Kp.refl wc).alloc _) HKK.out
          rw [HO1.out, World.size_alloc] at r1
          rw [HO2.out] at r2
          have H1 := Lib.hid r1
          have H2 := Lib.hid r2
          have HST := Lib.hid hst
          clear r1 r2 hst
          go_wp2_with (first | (at_builtin; refine Lib.wpList_append_run _ rfl (.tmp 44) (.tmp 46) _ _ rfl _ _ rfl rfl _ _ H1.out ?_) | (at_builtin; refine Lib.wpList_append_run _ rfl (.tmp 48) (.tmp 51) _ _ rfl _ _ rfl rfl _ _ H2.out ?_))
          go_roundg (n - (k + 1))
          case measure => have := HLT.out; omega
          case rel => exact ⟨k + 1, v1, v2, rfl, HLT.out, rfl, rfl, by go_num, HST.out⟩
        · have HO1 := Lib.hid (show outC KD SV k = srvC ((stAt KD SV k).got (KD k)) from rfl)
          have HO2 := Lib.hid (show isC KD SV k = [.bool true] from by rw [isC, hgt])
          clear hgt
          generalize (stAt KD SV k).got (KD k) = x at y0 y1 y2 HO1
          obtain ⟨xp, xa, xo⟩ := x
          dsimp only at y0 y1 y2
          have hkz : Kp wc (wc.alloc (.cells #[.string ⟨#[]⟩, .string ⟨#[]⟩, .int .i64 0] 27)) := (Kp.refl wc).alloc _
          have z0 := below_some hkz y0
          have z1 := below_some hkz y1
          have z2 := below_some hkz y2
          clear hkz y0 y1 y2
          go_wp2_with fail
          refine (plainServer_any xp xa xo _).mono ?_
          rintro e w2 ⟨rfl, hk2⟩
          obtain ⟨sg, hsg⟩ : ∃ sg, sg = wc.heap.size := ⟨_, rfl⟩
          have hB2 : Blk w2 sg 27 #[.string ⟨#[]⟩, .string ⟨#[]⟩, .int .i64 0] := by rw [hsg]; exact (Blk.new wc _ _).kp hk2
          have HB2 := Lib.hid hB2
          have HK2 := Lib.hid (((Kp.refl wc).alloc _).trans hk2)
          have HSG := Lib.hid hsg
          have u0 : w2.frozen? ⟨sg, 0, none⟩ = false := hB2.frozen 0
          have u1 : w2.frozen? ⟨sg, 1, none⟩ = false := hB2.frozen 1
          have u2 : w2.frozen? ⟨sg, 2, none⟩ = false := hB2.frozen 2
          have x0 : w2.cell? ⟨sg, 0, none⟩ = some (.string ⟨#[]⟩) := hB2.cell 0
          have x1 : w2.cell? ⟨sg, 1, none⟩ = some (.string ⟨#[]⟩) := hB2.cell 1
          have x2 : w2.cell? ⟨sg, 2, none⟩ = some (.int .i64 0) := hB2.cell 2
          rw [← hsg]
          clear hk2 hB2 hsg z0 z1 z2
          obtain ⟨v1, w5, v2, w6, r1, r2, hst⟩ := sv_next (((w2.setCell ⟨sg, 0, none⟩ (.string xp)).setCell ⟨sg, 1, none⟩ (.string xa)).setCell ⟨sg, 2, none⟩ (.int .i64 xo)) HC.out (((HK2.out.set (by rw [HSG.out]; exact Nat.le_refl _) _).set (by rw [HSG.out]; exact Nat.le_refl _) _).set (by rw [HSG.out]; exact Nat.le_refl _) _) HKK.out
          rw [HO1.out, World.size_setCell, World.size_setCell, World.size_setCell] at r1
          rw [HO2.out] at r2
          have H1 := Lib.hid r1
          have H2 := Lib.hid r2
          have HST := Lib.hid hst
          clear r1 r2 hst
          go_wp2_with (first | (at_builtin; refine Lib.wpList_append_run _ rfl (.tmp 44) (.tmp 46) _ _ rfl _ _ rfl rfl _ _ H1.out ?_) | (at_builtin; refine Lib.wpList_append_run _ rfl (.tmp 48) (.tmp 51) _ _ rfl _ _ rfl rfl _ _ H2.out ?_))
          go_roundg (n - (k + 1))
          case measure => have := HLT.out; omega
          case rel => exact ⟨k + 1, v1, v2, rfl, HLT.out, rfl, rfl, by go_num, HST.out⟩
    · obtain rfl : k = n := by have := HKN.out; omega
      clear hlt
      obtain ⟨v, hI, hvo, hvi, hkw⟩ := HR.out
      obtain ⟨q, cq, rfl, _, _⟩ := own_slice hI.own
      obtain ⟨cs, hbk, hc2, _⟩ := hI.blk
      have y0 : wr.cell? ⟨b, 2, none⟩ = some (.slice q (stAt KD SV k).all.length cq) := (hbk.cell 2).trans hc2
      have HI := Lib.hid hI
      have HVO := Lib.hid hvo
      have HVI := Lib.hid hvi
      have HKW := Lib.hid hkw
      have HTL := Lib.hid (stAt_len KD SV k)
      clear hI hvo hvi hkw HR hbk hc2
      obtain ⟨m, hm⟩ : ∃ m, m = (stAt KD SV k).all.length := ⟨_, rfl⟩
      have HM := Lib.hid hm
      rw [← hm] at y0
      clear hm
      go_wp2_with fail
      obtain ⟨wo, rfl⟩ : ∃ wo : World, wo = wr := ⟨_, rfl⟩
      go_loopg [12, 57] m (fun G s12 s57 wq => ∃ (j : Nat) (va : Value), G = m - j ∧ j ≤ m ∧ va = s12 ∧ s57 = .int .i64 (j : Int) ∧ wq.ownsRow wo.heap.size 27 3 va j (allC ((stAt KD SV k).all.take j)) ∧ Kp wo wq)
      case atStart => exact ⟨0, _, rfl, Nat.zero_le _, rfl, rfl, World.ownsRow_nil _ _ _ _, Kp.refl wo⟩
      case round =>
        obtain ⟨j, va, rfl, hj, rfl, rfl, hva, hkj⟩ := hrel
        have HVA := Lib.hid hva
        have HKJ := Lib.hid hkj
        have HJ := Lib.hid hj
        have l0 : (0 : Int) ≤ (j : Int) := by omega
        have l1 : (j : Int) ≤ (m : Int) := by omega
        clear hva hkj hj
        by_cases hlt : j < m
        · have l2 : (j : Int) < (m : Int) := by omega
          have l3 : (m : Int) ≤ 300 := by have := HM.out; have := HTL.out; omega
          obtain ⟨g, cap, hq, z0, z1, z2⟩ := HI.out.cells (r := j) (by rw [← HM.out]; exact hlt)
          injection hq with hq1 _ hq3
          subst hq1
          subst hq3
          have z0 := below_some HKJ.out z0
          have z1 := below_some HKJ.out z1
          have z2 := below_some HKJ.out z2
          have HLT := Lib.hid hlt
          obtain ⟨x, hx⟩ : ∃ x, x = (stAt KD SV k).all.getD j zS := ⟨_, rfl⟩
          have HTK := Lib.hid (show allC ((stAt KD SV k).all.take (j + 1)) = allC ((stAt KD SV k).all.take j) ++ srvC x from by
            have hj : j < (stAt KD SV k).all.length := by rw [← HM.out]; exact hlt
            rw [List.take_succ_eq_append_getElem hj, allC_snoc, hx, List.getD_eq_getElem?_getD, List.getElem?_eq_getElem hj, Option.getD_some])
          rw [← hx] at z0 z1 z2
          clear hlt hx
          obtain ⟨xp, xa, xo⟩ := x
          dsimp only at z0 z1 z2
          go_wp2_with fail
          refine (plainServer_any xp xa xo _).mono ?_
          rintro e w2 ⟨rfl, hk2⟩
          have HK2 := Lib.hid (((Kp.refl wr).alloc _).trans hk2)
          clear hk2 z0 z1 z2
          obtain ⟨v1, w5, r1, r2, r3, _⟩ := app_one Tryd.underlying22 infoSrv rfl (by decide) (by decide) w2 wo.heap.size va j _ (own_below HVA.out HK2.out) (HKJ.out.trans HK2.out).size (by have := HLT.out; have := HM.out; have := HTL.out; omega) (srvC ⟨xp, xa, xo⟩) rfl (srvC_one _)
          have H1 := Lib.hid r1
          have H2 := Lib.hid r2
          have HK5 := Lib.hid ((HKJ.out.trans HK2.out).grown r3 (own_ge HVA.out))
          clear r1 r2 r3
          go_wp2_with (at_builtin; refine Lib.wpList_append_run _ rfl _ _ _ _ rfl _ _ rfl rfl _ _ H1.out ?_)
          go_roundg (m - (j + 1))
          case measure => have := HLT.out; omega
          case rel => exact ⟨j + 1, v1, rfl, HLT.out, rfl, by go_num, by rw [HTK.out]; exact H2.out, HK5.out⟩
        · obtain rfl : j = m := by have := HJ.out; omega
          clear hlt
          go_wp2_with fail
          exact bodyPost_ret (v := .tuple #[vo, vi, va]) (by simp [results, Tryd.results13, go_sem]) rfl ⟨vo, vi, va, rfl, own_below HVO.out HKJ.out, own_below HVI.out HKJ.out, by
            have h := HVA.out
            rw [HM.out, List.take_length] at h
            exact own_base h HKW.out.size, HKW.out.trans HKJ.out⟩
end Go.Proofs.YtmojecgmneodlaaDoor
