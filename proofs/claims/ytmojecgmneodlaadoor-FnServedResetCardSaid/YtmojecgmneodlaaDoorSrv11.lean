/-
  spec.Served: where it knows the servers, they are those that the steps make.
-/
import Derived.Test.YtmojecgmneodlaaDoorSrv10
namespace Go.Proofs.YtmojecgmneodlaaDoor
open Go Go.RowKit

/-- What spec.Served returns. -/
def SpecPost (w : World) (n : Nat) (KD : Nat → Int) (SV : Nat → Srv) (e : Ending) (w' : World) : Prop := ∃ v1 v2 v3 kn L, e = .returned (.tuple #[v1, v2, v3, .bool kn]) ∧ w'.ownsRow w.heap.size 27 3 v3 L.length (allC L) ∧ (∀ s ∈ L, srvOk s.pr s.ad = true) ∧ L.length ≤ n ∧ (kn = true → L = (stAt KD SV n).all) ∧ Kp w w'
/-- The state of spec.Served. -/
structure SpSt (w : World) (k : Nat) (t : SrvSt) (vg va vo : Value) (wr : World) : Prop where
  got : ∃ xs, wr.ownsRow w.heap.size 27 3 vg k xs
  all : wr.ownsRow w.heap.size 27 3 va t.all.length (allC t.all)
  oks : ∃ ys, wr.ownsRow w.heap.size 4 1 vo k ys
  far : ∀ g, vg.ownBlock = some g → va.ownBlock ≠ some g
  ok : ∀ s ∈ t.all, srvOk s.pr s.ad = true
  kp : Kp w wr
theorem SpSt.kp' {w : World} {k : Nat} {t : SrvSt} {vg va vo : Value} {wr wx : World} (h : SpSt w k t vg va vo wr) (hk : Kp wr wx) : SpSt w k t vg va vo wx := by
  obtain ⟨⟨xs, h1⟩, h2, ⟨ys, h3⟩, h4, h5, h6⟩ := h
  exact ⟨⟨xs, own_below h1 hk⟩, own_below h2 hk, ⟨ys, own_below h3 hk⟩, h4, h5, h6.trans hk⟩
/-- Behind the switch of a step. -/
def SpSw (w : World) (k : Nat) (t : SrvSt) (vg vo : Value) (xb : Nat) (s7 s9 s13 : Value) (wx : World) : Prop := ∃ ok X, s13 = .bool ok ∧ s9 = .int .i64 (t.pos : Int) ∧ SpSt w k t vg s7 vo wx ∧ Blk wx xb 27 (srvC X).toArray
theorem srvRow_any {w : World} {base n : Nat} {q : Option Addr} {c : Nat} {e : TypeId} {l : List Srv} (h : w.ownsRow base e 3 (.slice q n c) n (allC l)) (hn : l.length = n) : SrvRow w q n (fun r => l.getD r zS) := SrvRow.of_own h hn
/-- The row of servers grows by one. -/
theorem SpSt.add {w : World} {k : Nat} {t : SrvSt} {vg va vo : Value} {wr : World} (W : World) (h : SpSt w k t vg va vo wr) (hk : Kp wr W) (s : Srv) (ho : srvOk s.pr s.ad = true) (hn : t.all.length ≤ 1000) :
    ∃ v1 w5, (Builtin.append_ #[22, 22] 22 #[va, .slice (some ⟨W.heap.size, 0, none⟩) 1 1]).run Tryd.prog (W.alloc (.cells (srvC s).toArray 27)) = .ok v1 w5 ∧
      SpSt w k ⟨t.all ++ [s], t.pos⟩ vg v1 vo w5 ∧ (∀ g cs, Blk W g 27 cs → wr.heap.size ≤ g → Blk w5 g 27 cs) := by
  obtain ⟨⟨xs, h1⟩, h2, ⟨ys, h3⟩, h4, h5, h6⟩ := h
  have hlt := own_lt' h2
  have hlg := own_lt' h1
  obtain ⟨v1, w5, r1, r2, r3, r4⟩ := app_one Tryd.underlying22 infoSrv rfl (by decide) (by decide) W w.heap.size va _ _ (own_below h2 hk) (h6.trans hk).size (by omega) (srvC s) rfl (srvC_one _)
  refine ⟨v1, w5, r1, ⟨⟨xs, ?_⟩, ?_, ⟨ys, ?_⟩, ?_, ?_, ?_⟩, ?_⟩
  · exact own_heap (own_below h1 hk) fun g hg => r3.block g (Nat.lt_of_lt_of_le (hlg g hg).2 hk.size) (fun e => h4 g hg e.symm)
  · have e : (t.all ++ [s]).length = t.all.length + 1 := by simp
    show w5.ownsRow _ _ _ _ (t.all ++ [s]).length (allC (t.all ++ [s]))
    rw [e, allC_snoc]
    exact r2
  · exact own_grown (own_below h3 hk) (own_below h2 hk) (by decide) r3
  · intro g hg e
    rcases r4 with r4 | r4
    · rw [r4] at e; exact h4 g hg e
    · rw [r4] at e
      injection e with e
      have := (hlg g hg).2
      have := hk.size
      omega
  · intro x hx
    rcases List.mem_append.1 hx with hx | hx
    · exact h5 x hx
    · rw [List.mem_singleton.1 hx]; exact ho
  · exact (h6.trans hk).grown r3 (own_ge h2)
  · intro g cs hb hg
    exact hb.grown r3 (fun e => by have := (hlt g e.symm).2; omega)
/-- The two rows of answers grow. -/
theorem SpSt.next {w : World} {k : Nat} {t : SrvSt} {vg va vo : Value} {W : World} (h : SpSt w k t vg va vo W) (X : Srv) (ok : Bool) (hn : k ≤ 1000) :
    ∃ v1 w5 v2 w6, (Builtin.append_ #[22, 22] 22 #[vg, .slice (some ⟨W.heap.size, 0, none⟩) 1 1]).run Tryd.prog (W.alloc (.cells (srvC X).toArray 27)) = .ok v1 w5 ∧
      (Builtin.append_ #[30, 30] 30 #[vo, .slice (some ⟨w5.heap.size, 0, none⟩) 1 1]).run Tryd.prog (w5.alloc (.cells [Value.bool ok].toArray 4)) = .ok v2 w6 ∧ SpSt w (k + 1) t v1 va v2 w6 := by
  obtain ⟨⟨xs, h1⟩, h2, ⟨ys, h3⟩, h4, h5, h6⟩ := h
  have hlt := own_lt' h2
  obtain ⟨v1, w5, r1, r2, r3, r4⟩ := app_one Tryd.underlying22 infoSrv rfl (by decide) (by decide) W w.heap.size vg k _ h1 h6.size (by omega) (srvC X) rfl (srvC_one _)
  have ha5 := own_heap h2 fun g hg => r3.block g (hlt g hg).2 (fun e => h4 g e.symm hg)
  have ho5 := own_grown h3 h1 (by decide) r3
  have hk5 := h6.grown r3 (own_ge h1)
  obtain ⟨v2, w6, q1, q2, q3, _⟩ := app_one Tryd.underlying30 infoBool rfl (by decide) (by decide) w5 w.heap.size vo k _ ho5 hk5.size (by omega) [.bool ok] rfl (fun u hu => by rw [List.mem_singleton.1 hu]; rfl)
  refine ⟨v1, w5, v2, w6, r1, q1, ⟨_, own_grown r2 ho5 (by decide) q3⟩, own_grown ha5 ho5 (by decide) q3, ⟨_, q2⟩, ?_, h5, hk5.grown q3 (own_ge ho5)⟩
  intro g hg e
  have hlt1 := (hlt g e).2
  rcases r4 with r4 | r4
  · rw [r4] at hg; exact h4 g hg e
  · rw [r4] at hg
    injection hg with hg
    omega

set_option maxRecDepth 100000 in
set_option maxHeartbeats 8000000 in
theorem specServed_any (a : Option Addr) (n c : Nat) (KD : Nat → Int) (SV : Nat → Srv) (w : World) (hS : StepsIn w a n KD SV) (hn : n ≤ 300) (ho : ∀ r, r < n → srvOk (SV r).pr (SV r).ad = true) :
    Calls Tryd.prog 18 #[.slice a n c] w (SpecPost w n KD SV) := by
  have i0 : (n : Int) ≤ 300 := by omega
  have HS := Lib.hid hS
  have HO := Lib.hid ho
  have HN := Lib.hid hn
  clear hS ho hn
  go_enter Tryd.func18, Tryd.ntmps18
  go_wp2_with fail
  go_loopg [6, 7, 8, 9, 17] n (fun G s6 s7 s8 s9 s17 wr => ∃ (k : Nat) (vg va vo : Value), G = n - k ∧ k ≤ n ∧ vg = s6 ∧ va = s7 ∧ vo = s8 ∧ s9 = .int .i64 ((stAt KD SV k).pos : Int) ∧ s17 = .int .i64 (k : Int) ∧ SpSt w k (stAt KD SV k) vg va vo wr)
  case atStart => exact ⟨0, _, _, _, rfl, Nat.zero_le _, rfl, rfl, rfl, rfl, rfl, ⟨_, World.ownsRow_nil _ _ _ _⟩, World.ownsRow_nil _ _ _ _, ⟨_, World.ownsRow_nil _ _ _ _⟩, fun g hg => by simp [Value.ownBlock] at hg, fun s hs => absurd hs List.not_mem_nil, Kp.refl w⟩
  case round =>
    obtain ⟨k, vg, va, vo, rfl, hk, rfl, rfl, rfl, rfl, rfl, hst⟩ := hrel
    have HR := Lib.hid hst
    have HKN := Lib.hid hk
    have j0 : (0 : Int) ≤ (k : Int) := by omega
    have j1 : (k : Int) ≤ (n : Int) := by omega
    clear hst hk
    by_cases hlt : k < n
    · have j2 : (k : Int) < (n : Int) := by omega
      have HLT := Lib.hid hlt
      obtain ⟨g, rfl, d0, d1, d2, d3⟩ := (HS.out.kp HR.out.kp) k hlt
      have HOK := Lib.hid (HO.out k hlt)
      have HTL := Lib.hid (stAt_len KD SV k)
      clear hlt
      obtain ⟨kd, hkd⟩ : ∃ kd, kd = KD k := ⟨_, rfl⟩
      obtain ⟨s, hs⟩ : ∃ s, s = SV k := ⟨_, rfl⟩
      have HSN := Lib.hid (show stAt KD SV (k + 1) = (stAt KD SV k).step kd s from by rw [hkd, hs]; rfl)
      rw [← hkd] at d0
      rw [← hs] at d1 d2 d3 HOK
      clear hkd hs
      generalize stAt KD SV k = t at HR HTL HSN
      obtain ⟨al, p⟩ := t
      obtain ⟨pr, ad, po⟩ := s
      dsimp only at d1 d2 d3 HOK HTL
      have p0 : (0 : Int) ≤ (p : Int) := by omega
      have p1 : (p : Int) ≤ 300 := by have := HTL.out.2; have := HLT.out; have := HN.out; omega
      obtain ⟨q, cq, rfl, _, _⟩ := own_slice HR.out.all
      obtain ⟨m, hm⟩ : ∃ m, m = al.length := ⟨_, rfl⟩
      have HM := Lib.hid hm
      have m0 : (m : Int) ≤ 300 := by have := HTL.out.1; have := HLT.out; have := HN.out; omega
      dsimp only at HR ⊢
      rw [← hm] at HR ⊢
      clear hm
      go_upto_block 2 with (fail)
      generalize hW1 : (wr.alloc (.cells #[.int .i64 kd, .string pr, .string ad, .int .i64 po] 29)).alloc (.cells #[.string ⟨#[]⟩, .string ⟨#[]⟩, .int .i64 0] 27) = W1
      obtain ⟨sb, hsb⟩ : ∃ sb, sb = wr.heap.size := ⟨_, rfl⟩
      obtain ⟨xb, hxb⟩ : ∃ xb, xb = sb + 1 := ⟨_, rfl⟩
      have hkA : Kp wr W1 := by rw [← hW1]; exact ((Kp.refl wr).alloc _).alloc _
      have hB1 : Blk W1 sb 29 #[.int .i64 kd, .string pr, .string ad, .int .i64 po] := by rw [hsb, ← hW1]; exact (Blk.new wr _ _).alloc _
      have hB2 : Blk W1 xb 27 #[.string ⟨#[]⟩, .string ⟨#[]⟩, .int .i64 0] := by rw [hxb, hsb, ← hW1]; exact Blk.new2 wr _ _ _
      have HSB := Lib.hid hB1
      have HXB := Lib.hid hB2
      have HXG := Lib.hid (show wr.heap.size ≤ xb from by omega)
      have HKA := Lib.hid hkA
      have HRA := Lib.hid (HR.out.kp' hkA)
      rw [← hsb, ← hxb]
      have c0 : W1.cell? ⟨sb, 0, none⟩ = some (.int .i64 kd) := hB1.cell 0
      have c1 : W1.cell? ⟨sb, 1, none⟩ = some (.string pr) := hB1.cell 1
      have c2 : W1.cell? ⟨sb, 2, none⟩ = some (.string ad) := hB1.cell 2
      have c3 : W1.cell? ⟨sb, 3, none⟩ = some (.int .i64 po) := hB1.cell 3
      clear hW1 hsb hxb hkA hB1 hB2 d0 d1 d2 d3
      have HSW := Lib.hid (fun s7 s9 s13 wx (h : SpSw w k ((SrvSt.mk al p).step kd ⟨pr, ad, po⟩) vg vo xb s7 s9 s13 wx) => (show SpSw w k (stAt KD SV (k + 1)) vg vo xb s7 s9 s13 wx from by rw [HSN.out]; exact h))
      have HROW := Lib.hid (show W1.ownsRow w.heap.size 27 3 (.slice q m cq) m (allC al) from by have h := HRA.out.all; dsimp only at h; rwa [← HM.out] at h)
      go_cut [7, 9, 13] (fun s7 s9 s13 wx => SpSw w k (stAt KD SV (k + 1)) vg vo xb s7 s9 s13 wx)
      case first =>
        by_cases h0 : kd = 0
        · subst h0
          go_wp2_with fail
          refine (containsFunc_any q m cq sb al ⟨pr, ad, po⟩ W1 HM.out.symm (SrvRow.of_own HROW.out HM.out.symm) (fun y hy => by
            have h := HRA.out.ok y hy
            simp only [srvOk, Bool.and_eq_true, decide_eq_true_eq] at h
            have := h.1.1
            omega) (by
            have h := HOK.out
            simp only [srvOk, Bool.and_eq_true, decide_eq_true_eq] at h
            have := h.1.1
            dsimp only
            omega) c1 c2 c3 (by omega)).mono ?_
          rintro e w1 ⟨rfl, hk1⟩
          have HK1 := Lib.hid hk1
          have e1 := below_some hk1 c1
          have e2 := below_some hk1 c2
          have e3 := below_some hk1 c3
          clear hk1 c0 c1 c2 c3
          cases hany : anyB al ⟨pr, ad, po⟩
          · have HAD := Lib.hid (show (SrvSt.mk al p).step 0 ⟨pr, ad, po⟩ = ⟨al ++ [⟨pr, ad, po⟩], p⟩ from by
              rw [SrvSt.step, if_pos rfl, addS, if_neg (by rw [anyB] at hany; rw [hany]; simp)])
            clear hany
            obtain ⟨v1, w5, r1, r2, r3⟩ := SpSt.add w1 HR.out (HKA.out.trans HK1.out) ⟨pr, ad, po⟩ HOK.out (by show al.length ≤ 1000; rw [← HM.out]; omega)
            have H1 := Lib.hid r1
            have H2 := Lib.hid r2
            have H3 := Lib.hid (r3 xb _ (HXB.out.kp HK1.out) HXG.out)
            clear r1 r2 r3
            by_cases hp : 0 < p
            · have q1 : (0 : Int) < (p : Int) := by omega
              by_cases hpm : m ≤ p
              · have q2 : (m : Int) ≤ (p : Int) := by omega
                clear hp hpm
                go_wp2_with fail
                exact bodyPost_ret (v := .tuple #[.slice none 0 0, .slice none 0 0, .slice none 0 0, .bool false]) (by simp [results, Tryd.results18, go_sem]) rfl ⟨_, _, _, false, [], rfl, World.ownsRow_nil _ _ _ _, fun s hs => absurd hs List.not_mem_nil, Nat.zero_le _, fun h => (by cases h), HR.out.kp.trans (HKA.out.trans HK1.out)⟩
              · have q2 : (p : Int) < (m : Int) := by omega
                clear hp hpm
                go_wp2_with (at_builtin; refine Lib.wpList_append_run _ rfl _ _ _ _ rfl _ _ rfl rfl _ _ H1.out ?_)
                go_meet
                refine HSW.out _ _ _ _ ?_
                rw [HAD.out]
                exact ⟨_, zS, rfl, rfl, H2.out, H3.out⟩
            · have q1 : (p : Int) ≤ 0 := by omega
              clear hp
              go_wp2_with (at_builtin; refine Lib.wpList_append_run _ rfl _ _ _ _ rfl _ _ rfl rfl _ _ H1.out ?_)
              go_meet
              refine HSW.out _ _ _ _ ?_
              rw [HAD.out]
              exact ⟨_, zS, rfl, rfl, H2.out, H3.out⟩
          · have HAD := Lib.hid (show (SrvSt.mk al p).step 0 ⟨pr, ad, po⟩ = ⟨al, p⟩ from by
              rw [SrvSt.step, if_pos rfl, addS, if_pos (by rw [anyB] at hany; exact hany)])
            clear hany
            go_wp2_with fail
            go_meet
            refine HSW.out _ _ _ _ ?_
            rw [HAD.out]
            exact ⟨_, zS, rfl, rfl, HRA.out.kp' HK1.out, HXB.out.kp HK1.out⟩
        · have b0 : ((kd : Int) == 0) = false := by simp [h0]
          by_cases h1 : kd = 1
          · subst h1
            by_cases hlt : p < m
            · have q0 : (p : Int) < (m : Int) := by omega
              obtain ⟨g2, cap2, hq2, _, _, _, _, hcc⟩ := own_form HROW.out (show 0 < m by omega)
              injection hq2 with hq2 _ hq3
              subst hq2
              subst hq3
              have hlm : p < al.length := by rw [← HM.out]; omega
              have z0 : W1.cell? ⟨g2, p * 3, none⟩ = some (.string (al.getD p zS).pr) := hcc _ _ ((allC_at al p 0 hlm (by decide)).trans rfl)
              have z1 : W1.cell? ⟨g2, p * 3 + 1, none⟩ = some (.string (al.getD p zS).ad) := hcc _ _ ((allC_at al p 1 hlm (by decide)).trans rfl)
              have z2 : W1.cell? ⟨g2, p * 3 + 2, none⟩ = some (.int .i64 (al.getD p zS).po) := hcc _ _ ((allC_at al p 2 hlm (by decide)).trans rfl)
              clear hcc hlm
              generalize al.getD p zS = X at z0 z1 z2
              obtain ⟨xp, xa, xo⟩ := X
              dsimp only at z0 z1 z2
              have f0 : W1.frozen? ⟨xb, 0, none⟩ = false := HXB.out.frozen 0
              have f1 : W1.frozen? ⟨xb, 1, none⟩ = false := HXB.out.frozen 1
              have f2 : W1.frozen? ⟨xb, 2, none⟩ = false := HXB.out.frozen 2
              have w0 : W1.cell? ⟨xb, 0, none⟩ = some (.string ⟨#[]⟩) := HXB.out.cell 0
              have w1 : W1.cell? ⟨xb, 1, none⟩ = some (.string ⟨#[]⟩) := HXB.out.cell 1
              have w2 : W1.cell? ⟨xb, 2, none⟩ = some (.int .i64 0) := HXB.out.cell 2
              have HS3 := Lib.hid (HR.out.kp' (((HKA.out.set (p := ⟨xb, 0, none⟩) HXG.out (.string xp)).set (p := ⟨xb, 1, none⟩) HXG.out (.string xa)).set (p := ⟨xb, 2, none⟩) HXG.out (.int .i64 xo)))
              have HX3 := Lib.hid (show Blk (((W1.setCell ⟨xb, 0, none⟩ (.string xp)).setCell ⟨xb, 1, none⟩ (.string xa)).setCell ⟨xb, 2, none⟩ (.int .i64 xo)) xb 27 (srvC ⟨xp, xa, xo⟩).toArray from ((HXB.out.set_ 0 (.string xp)).set_ 1 (.string xa)).set_ 2 (.int .i64 xo))
              go_wp2_with fail
              go_meet
              exact HSW.out _ _ _ _ ⟨_, ⟨xp, xa, xo⟩, rfl, rfl, HS3.out, HX3.out⟩
            · have q0 : (m : Int) ≤ (p : Int) := by omega
              go_wp2_with fail
              go_meet
              exact HSW.out _ _ _ _ ⟨_, zS, rfl, rfl, HRA.out, HXB.out⟩
          · have b1 : ((kd : Int) == 1) = false := by simp [h1]
            by_cases h2 : kd = 2
            · subst h2
              by_cases hpm : m ≤ p
              · have q0 : (m : Int) ≤ (p : Int) := by omega
                clear hpm
                go_wp2_with fail
                exact bodyPost_ret (v := .tuple #[.slice none 0 0, .slice none 0 0, .slice none 0 0, .bool false]) (by simp [results, Tryd.results18, go_sem]) rfl ⟨_, _, _, false, [], rfl, World.ownsRow_nil _ _ _ _, fun s hs => absurd hs List.not_mem_nil, Nat.zero_le _, fun h => (by cases h), HR.out.kp.trans HKA.out⟩
              · have q0 : (p : Int) < (m : Int) := by omega
                obtain ⟨P, hP⟩ : ∃ P : Nat, (p : Int) + 1 = (P : Int) := ⟨p + 1, by omega⟩
                have HPE := Lib.hid (show P = p + 1 by omega)
                have q3 : (0 : Int) ≤ (P : Int) := by omega
                have q4 : (P : Int) ≤ 301 := by omega
                have HST := Lib.hid (show (SrvSt.mk al p).step 2 ⟨pr, ad, po⟩ = ⟨al, P⟩ from by rw [HPE.out]; rfl)
                rw [HST.out] at HSW
                by_cases hlt : P < m
                · have q5 : (P : Int) < (m : Int) := by omega
                  obtain ⟨g2, cap2, hq2, _, _, _, _, hcc⟩ := own_form HROW.out (show 0 < m by omega)
                  injection hq2 with hq2 _ hq3
                  subst hq2
                  subst hq3
                  have hlm : P < al.length := by rw [← HM.out]; omega
                  have z0 : W1.cell? ⟨g2, P * 3, none⟩ = some (.string (al.getD P zS).pr) := hcc _ _ ((allC_at al P 0 hlm (by decide)).trans rfl)
                  have z1 : W1.cell? ⟨g2, P * 3 + 1, none⟩ = some (.string (al.getD P zS).ad) := hcc _ _ ((allC_at al P 1 hlm (by decide)).trans rfl)
                  have z2 : W1.cell? ⟨g2, P * 3 + 2, none⟩ = some (.int .i64 (al.getD P zS).po) := hcc _ _ ((allC_at al P 2 hlm (by decide)).trans rfl)
                  clear hcc hlm
                  generalize al.getD P zS = X at z0 z1 z2
                  obtain ⟨xp, xa, xo⟩ := X
                  dsimp only at z0 z1 z2
                  have f0 : W1.frozen? ⟨xb, 0, none⟩ = false := HXB.out.frozen 0
                  have f1 : W1.frozen? ⟨xb, 1, none⟩ = false := HXB.out.frozen 1
                  have f2 : W1.frozen? ⟨xb, 2, none⟩ = false := HXB.out.frozen 2
                  have w0 : W1.cell? ⟨xb, 0, none⟩ = some (.string ⟨#[]⟩) := HXB.out.cell 0
                  have w1 : W1.cell? ⟨xb, 1, none⟩ = some (.string ⟨#[]⟩) := HXB.out.cell 1
                  have w2 : W1.cell? ⟨xb, 2, none⟩ = some (.int .i64 0) := HXB.out.cell 2
                  have HS3 := Lib.hid (HR.out.kp' (((HKA.out.set (p := ⟨xb, 0, none⟩) HXG.out (.string xp)).set (p := ⟨xb, 1, none⟩) HXG.out (.string xa)).set (p := ⟨xb, 2, none⟩) HXG.out (.int .i64 xo)))
                  have HX3 := Lib.hid (show Blk (((W1.setCell ⟨xb, 0, none⟩ (.string xp)).setCell ⟨xb, 1, none⟩ (.string xa)).setCell ⟨xb, 2, none⟩ (.int .i64 xo)) xb 27 (srvC ⟨xp, xa, xo⟩).toArray from ((HXB.out.set_ 0 (.string xp)).set_ 1 (.string xa)).set_ 2 (.int .i64 xo))
                  go_wp2_with fail
                  go_meet
                  exact HSW.out _ _ _ _ ⟨_, ⟨xp, xa, xo⟩, rfl, rfl, HS3.out |> fun h => ⟨h.got, h.all, h.oks, h.far, h.ok, h.kp⟩, HX3.out⟩
                · have q5 : (m : Int) ≤ (P : Int) := by omega
                  go_wp2_with fail
                  go_meet
                  exact HSW.out _ _ _ _ ⟨_, zS, rfl, rfl, HRA.out |> fun h => ⟨h.got, h.all, h.oks, h.far, h.ok, h.kp⟩, HXB.out⟩
            · have b2 : ((kd : Int) == 2) = false := by simp [h2]
              by_cases h3 : kd = 3
              · subst h3
                go_wp2_with fail
                go_meet
                exact HSW.out _ _ _ _ ⟨_, zS, rfl, rfl, HRA.out |> fun h => ⟨h.got, h.all, h.oks, h.far, h.ok, h.kp⟩, HXB.out⟩
              · have b3 : ((kd : Int) == 3) = false := by simp [h3]
                have HE := Lib.hid (show (SrvSt.mk al p).step kd ⟨pr, ad, po⟩ = ⟨al, p⟩ from by rw [SrvSt.step, if_neg h0, if_neg h2, if_neg h3])
                clear h0 h1 h2 h3
                go_wp2_with fail
                go_meet
                refine HSW.out _ _ _ _ ?_
                rw [HE.out]
                exact ⟨_, zS, rfl, rfl, HRA.out, HXB.out⟩
      case rest =>
        obtain ⟨ok, X, rfl, rfl, hst, hxb⟩ := hcut
        rename_i u7
        have y0 : wc.cell? ⟨xb, 0, none⟩ = some (.string X.pr) := hxb.cell 0
        have y1 : wc.cell? ⟨xb, 1, none⟩ = some (.string X.ad) := hxb.cell 1
        have y2 : wc.cell? ⟨xb, 2, none⟩ = some (.int .i64 X.po) := hxb.cell 2
        obtain ⟨v1, w5, v2, w6, r1, r2, hs6⟩ := hst.next X ok (by have := HLT.out; have := HN.out; omega)
        have H1 := Lib.hid (show (Builtin.append_ #[22, 22] 22 #[vg, .slice (some ⟨wc.heap.size, 0, none⟩) 1 1]).run Tryd.prog (wc.alloc (.cells #[.string X.pr, .string X.ad, .int .i64 X.po] 27)) = .ok v1 w5 from r1)
        have H2 := Lib.hid (show (Builtin.append_ #[30, 30] 30 #[vo, .slice (some ⟨w5.heap.size, 0, none⟩) 1 1]).run Tryd.prog (w5.alloc (.cells #[Value.bool ok] 4)) = .ok v2 w6 from r2)
        have H6 := Lib.hid hs6
        clear hst hxb r1 r2 hs6 HSW HROW HRA HXB HKA c0 c1 c2 c3
        obtain ⟨xp, xa, xo⟩ := X
        dsimp only at y0 y1 y2 H1
        go_wp2_with (first | (at_builtin; refine Lib.wpList_append_run _ rfl (.tmp 70) (.tmp 72) _ _ rfl _ _ rfl rfl _ _ H1.out ?_) | (at_builtin; refine Lib.wpList_append_run _ rfl (.tmp 74) (.tmp 76) _ _ rfl _ _ rfl rfl _ _ H2.out ?_))
        go_roundg (n - (k + 1))
        case measure => have := HLT.out; omega
        case rel => exact ⟨k + 1, v1, _, v2, rfl, HLT.out, rfl, rfl, rfl, rfl, by go_num, H6.out⟩
    · obtain rfl : k = n := by have := HKN.out; omega
      clear hlt
      go_wp2_with fail
      exact bodyPost_ret (v := .tuple #[vg, vo, va, .bool true]) (by simp [results, Tryd.results18, go_sem]) rfl ⟨vg, vo, va, true, (stAt KD SV k).all, rfl, HR.out.all, HR.out.ok, (stAt_len KD SV k).1, fun _ => rfl, HR.out.kp⟩
end Go.Proofs.YtmojecgmneodlaaDoor
