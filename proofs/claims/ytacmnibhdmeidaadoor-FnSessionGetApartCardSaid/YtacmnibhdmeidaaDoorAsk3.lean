/-
  FnSessionGetApart: the law.
-/
import Derived.Test.YtacmnibhdmeidaaDoorAsk2
import Derived.Test.YtacmnibhdmeidaaDoorNul1
namespace Go.Proofs.YtacmnibhdmeidaaDoor
open Go Go.RowKit

theorem runT_part {big : Bool} {n m : Nat} {P : Nat → GStep} {L : Nat → List Int} {V : Nat → GRec} (h : RunT big (n + m) P L V) : RunT big n P L V ∧ RunT big m (fun r => P (n + r)) (fun r => L (n + r)) (fun r => V (n + r)) :=
  ⟨fun r hr => h r (by omega), fun r hr => by have := h (n + r) (by omega); rwa [Nat.add_assoc] at this⟩
theorem runT_step {big : Bool} {k : Nat} {P : Nat → GStep} {L : Nat → List Int} {V : Nat → GRec} (h : RunT big k P L V) {v : GRec} {l' : List Int} (hs : StepT big (P k).kind (P k).size (P k).big (P k).comp (L k) v l') (hz : (P k).size ≤ 255) :
    RunT big (k + 1) P (fun r => if r = k + 1 then l' else L r) (fun r => if r = k then v else V r) := fun r hr => by
  by_cases e : r = k
  · subst e
    dsimp only
    rw [if_neg (show ¬ r = r + 1 by omega), if_pos rfl, if_pos rfl]
    exact ⟨hs, hz⟩
  · have := h r (by omega)
    dsimp only
    rw [if_neg (show ¬ r = k + 1 by omega), if_neg e, if_neg (show ¬ r + 1 = k + 1 by omega)]
    exact this
theorem catG_catQ (n : Nat) (R S : Nat → GStep) : catG n R S = catQ n R S := rfl
theorem runT_cong {big : Bool} {n : Nat} {P P' : Nat → GStep} {L : Nat → List Int} {V : Nat → GRec} (h : RunT big n P L V) (he : ∀ r, r < n → P r = P' r) : RunT big n P' L V := fun r hr => by rw [← he r hr]; exact h r hr
theorem gotsIn_cat {w : World} {n m : Nat} {Q1 Q2 : Nat → GPlace} {V1 V2 : Nat → GRec} (h1 : GotsIn w n Q1 V1) (h2 : GotsIn w m Q2 V2) : GotsIn w (n + m) (catQ n Q1 Q2) (catQ n V1 V2) := fun r hr => by
  unfold catQ
  by_cases e : r < n
  · rw [if_pos e, if_pos e]; exact h1 r e
  · rw [if_neg e, if_neg e]; exact h2 (r - n) (by omega)
/-- What holds ahead of the law's steps. -/
def LawR (w : World) (R : Nat) (xs : List Int) (big : Bool) (P : Nat → GStep) (k : Nat) (wr : World) : Prop :=
  ∃ (L : Nat → List Int) (V : Nat → GRec) (p : Option Addr) (n c : Nat), RunT big k P L V ∧ L 0 = xs ∧ Rd wr R p n c (L k) false false ∧ (∀ r, r ≤ k → (∀ x ∈ L r, 0 ≤ x ∧ x < 256) ∧ (L r).length ≤ 1000000) ∧ w.grownBy wr (some R)
theorem kp_grown {a b c : World} {r : Nat} (h : Kp a b) (hg : b.grownBy c (some r)) (hr : a.heap.size ≤ r) : Kp a c := h.grown hg (fun k hk => by injection hk with hk; omega)
theorem own_nil {w : World} {B : Nat} {e : TypeId} {size n c : Nat} {xs : List Value} (h : w.ownsRow B e size (.slice none n c) n xs) : n = 0 ∧ c = 0 := by
  rcases h.2 with ⟨he, _⟩ | ⟨_, _, _, he, _⟩
  · injection he with _ h1 h2; exact ⟨h1, h2⟩
  · injection he with h1; cases h1

theorem bin_off {w w' : World} {row : Option Nat} {q : Option Addr} {l : Nat} {d : List Int} (h : Lib.BytesIn w q l d) (hg : w.grownBy w' row) (hq : ∀ a, q = some a → some a.block ≠ row) : Lib.BytesIn w' q l d := fun hn => by
  obtain ⟨b, o, rfl, hc⟩ := h hn
  exact ⟨b, o, rfl, fun j hj => (World.cell?_of_block (hg.block b (heap_lt_of_cell (hc j hj)) (hq _ rfl))).trans (hc j hj)⟩
theorem gotsIn_off {w0 w w' : World} {n : Nat} {Q : Nat → GPlace} {V : Nat → GRec} {row : Option Nat} (h : GotsIn w n Q V) (hl : Lo w0 n Q) (hg : w.grownBy w' row) (hr : ∀ r, row = some r → r < w0.heap.size) : GotsIn w' n Q V := fun r hr' => by
  obtain ⟨a1, a2, a3, a4⟩ := h r hr'
  obtain ⟨b1, b2⟩ := hl r hr'
  exact ⟨a1, bin_off a2 hg (fun a ha e => by have := hr _ e.symm; have := b1 a ha; omega), a3, bin_off a4 hg (fun a ha e => by have := hr _ e.symm; have := b2 a ha; omega)⟩
theorem own_off {w w' : World} {B : Nat} {e : TypeId} {size : Nat} {v : Value} {n : Nat} {xs : List Value} {row : Option Nat} (h : w.ownsRow B e size v n xs) (hg : w.grownBy w' row) (hr : ∀ r, row = some r → r < B) : w'.ownsRow B e size v n xs := by
  refine h.kept hg ?_
  cases hv : v.ownBlock with
  | none => exact Or.inl rfl
  | some r => exact Or.inr (fun e => by have := own_ge h r hv; have := hr r e.symm; omega)
theorem own_gets {w : World} {B : Nat} {a : Option Addr} {n c : Nat} {R : Nat → GStep} (h : w.ownsRow B 44 4 (.slice a n c) n (flatR GStep.cells R n)) : GetsIn w a n R := by
  obtain ⟨x, y, h1, hg⟩ := gets_own h
  injection h1 with h1
  subst h1
  exact hg

set_option maxRecDepth 100000 in
set_option maxHeartbeats 32000000 in
theorem fnGetApart_main (p : Option Addr) (m cp : Nat) (xs : List Int) (a1 a2 : Option Addr) (n1 d1 n2 d2 : Nat) (P1 P2 : Nat → LAsk) (big : Bool) (w : World) (hi : Lib.BytesIn w p m xs) (hx : xs.length = m) (hb : ∀ x ∈ xs, 0 ≤ x ∧ x < 256) (hm : m ≤ 1000) (h1 : AsksIn w a1 n1 P1) (h2 : AsksIn w a2 n2 P2) (hn1 : n1 ≤ 30) (hn2 : n2 ≤ 30) :
    Calls Tryd.prog 4 #[.slice p m cp, .slice a1 n1 d1, .slice a2 n2 d2, .bool big] w fun e w' => e = .returned (.bool true) ∧ Below w.heap.size w w' := by
  have HI := Lib.hid hi
  have HX := Lib.hid hx
  have HB := Lib.hid hb
  have HM := Lib.hid hm
  have HA1 := Lib.hid h1
  have HA2 := Lib.hid h2
  have HN1 := Lib.hid hn1
  have HN2 := Lib.hid hn2
  have g1 : decide ((1000 : Int) < ((m : Nat) : Int)) = false := by simp; omega
  have g2 : decide ((30 : Int) < ((n1 : Nat) : Int)) = false := by simp; omega
  have g3 : decide ((30 : Int) < ((n2 : Nat) : Int)) = false := by simp; omega
  have g4 : decide ((2147483647 : Int) < ((m : Nat) : Int)) = false := by simp; omega
  have g5 : decide ((2147483647 : Int) < ((n1 : Nat) : Int)) = false := by simp; omega
  have g6 : decide ((2147483647 : Int) < ((n2 : Nat) : Int)) = false := by simp; omega
  clear hi hx hb hm h1 h2 hn1 hn2
  go_enter Tryd.func4, Tryd.ntmps4
  go_wp2_with fail
  refine (clone_any w p m cp xs HI.out HX.out (by have := HM.out; omega)).mono ?_
  rintro e w1 ⟨q1, e1, rfl, hown1, hk1⟩
  have HO1 := Lib.hid hown1
  have HK1 := Lib.hid (show Kp w w1 from hk1)
  clear hown1 hk1
  go_wp2_with fail
  generalize hW : w1.alloc (.cells #[.slice q1 m e1, .bool false, .bool false] 39) = W1
  obtain ⟨R, hR⟩ : ∃ R, R = w1.heap.size := ⟨_, rfl⟩
  have hkW : Kp w1 W1 := hW ▸ (Kp.refl w1).alloc _
  have hWs : W1.heap.size = R + 1 := by rw [← hW, hR]; simp
  have HRD := Lib.hid (show Rd W1 R q1 m e1 xs false false from
    { blk := by rw [hR, ← hW]; exact Blk.new w1 _ _
      inp := bin_kp (bin_of_own HO1.out) hkW
      old := fun a ha => by
        subst ha
        rcases HO1.out.2 with ⟨he, _⟩ | ⟨g', cap, cur, he, _, _⟩
        · cases he
        · injection he with h1
          injection h1 with h1
          have hf := own_fresh HO1.out _ rfl
          subst h1
          exact ⟨g', 0, rfl, by have := hf.2; dsimp only at this; omega, by have := hf.2; dsimp only at this; omega⟩
      len := HX.out
      byt := HB.out
      nc := own_cap HO1.out
      nm := by have := HM.out; omega
      cm := by
        rcases HO1.out.2 with ⟨he, _⟩ | ⟨_, _, _, he, _, _, _, hm, _⟩
        · injection he with _ _ h3; subst h3; exact Nat.zero_le _
        · injection he with _ _ h3; omega
      nl := fun hq => by subst hq; exact (own_nil HO1.out).2 })
  have HKW := Lib.hid (HK1.out.trans hkW)
  have HRw := Lib.hid (show w.heap.size ≤ R from by rw [hR]; exact HK1.out.size)
  have HWS := Lib.hid hWs
  rw [← hR]
  clear hW hR hkW hWs HO1
  refine (sessionAsks_any a1 n1 d1 P1 W1 (HA1.out.kp HKW.out) HN1.out).mono ?_
  rintro e w2 ⟨v2, rfl, hcl2, hk2⟩
  obtain ⟨A2, c2, rfl, hg2⟩ := hcl2.gets
  have HC2 := Lib.hid hcl2.own
  have HK2 := Lib.hid hk2
  clear hcl2 hk2 hg2
  go_wp2_with fail
  refine (sessionAsks_any a2 n2 d2 P2 w2 (HA2.out.kp (HKW.out.trans HK2.out)) HN2.out).mono ?_
  rintro e w3 ⟨v3, rfl, hcl3, hk3⟩
  obtain ⟨A3, c3, rfl, hg3⟩ := hcl3.gets
  have HC3 := Lib.hid hcl3.own
  have HK3 := Lib.hid hk3
  have HC23 := Lib.hid (own_below HC2.out hk3)
  clear hcl3 hk3 hg3 HC2
  obtain ⟨P, hP⟩ : ∃ P, P = catG n1 (fun r => askOf (P1 r)) (fun r => askOf (P2 r)) := ⟨_, rfl⟩
  have HP := Lib.hid hP
  have hg2 : GetsIn w3 A2 n1 (fun r => askOf (P1 r)) := by obtain ⟨x, y, h, hg⟩ := gets_own HC23.out; injection h with h1; subst h1; exact hg
  have hg3 : GetsIn w3 A3 n2 (fun r => askOf (P2 r)) := by obtain ⟨x, y, h, hg⟩ := gets_own HC3.out; injection h with h1; subst h1; exact hg
  have HG2 := Lib.hid hg2
  have HG3 := Lib.hid hg3
  clear hg2 hg3 hP
  go_wp2_with fail
  refine (gclone_any w3 A2 n1 c2 _ HG2.out (by have := HN1.out; omega) (fun e => by subst e; exact own_nil HC23.out)).mono ?_
  rintro e w4 ⟨v4, rfl, hown4, hk4⟩
  obtain ⟨v5, w5, hrun5, hov5, hgr5⟩ := app_gets w4 w3.heap.size v4 n1 _ hown4 A3 n2 c3 _ (HG3.out.kp hk4) (by have := HN1.out; omega) (by have := HN2.out; omega) hk4.size
  obtain ⟨A5, c5, rfl, hg5⟩ := gets_own hov5
  rw [← HP.out] at hov5 hg5
  have hk5 : Kp w3 w5 := hk4.grown hgr5 (own_ge hown4)
  have HR5 := Lib.hid hrun5
  have HO5 := Lib.hid hov5
  have HK5 := Lib.hid hk5
  have h3R : R < w3.heap.size := by have := HWS.out; have := HK2.out.size; have := HK3.out.size; omega
  have H3R := Lib.hid h3R
  have H0 := Lib.hid (show LawR w5 R xs big P 0 w5 from
    ⟨fun _ => xs, fun _ => ⟨[], [], 0, noText⟩, q1, m, e1, fun r hr => absurd hr (by omega), rfl, ((HRD.out.kp HK2.out).kp HK3.out).kp hk5, fun r _ => ⟨HB.out, by rw [HX.out]; have := HM.out; omega⟩, World.grownBy.refl w5 _⟩)
  have j0 : (0 : Int) ≤ (n1 : Int) := by omega
  have j1 : (n1 : Int) ≤ 30 := by have := HN1.out; omega
  have j2 : (0 : Int) ≤ (n2 : Int) := by omega
  have j3 : (n2 : Int) ≤ 30 := by have := HN2.out; omega
  obtain ⟨N, hN⟩ : ∃ N, N = n1 + n2 := ⟨_, rfl⟩
  have HNN := Lib.hid hN
  have HPA := Lib.hid (show ∀ r, r < N → (P r).kind ≤ 9 ∧ (P r).size ≤ 255 ∧ ((P r).kind = 4 ∨ (P r).kind = 5 → 0 < (P r).size ∧ (P r).size ≤ 8) from fun r hr => by
    rw [HP.out]
    unfold catG
    split
    · next h => obtain ⟨_, _, _, _, hok⟩ := HA1.out r h; exact askOf_le _ hok
    · obtain ⟨_, _, _, _, hok⟩ := HA2.out (r - n1) (by omega); exact askOf_le _ hok)
  rw [← hN] at hg5
  clear hrun5 hov5 hk5 hown4 hgr5 hk4 hg5 hN h3R
  go_wp2_with (at_builtin; refine Lib.wpList_append_run _ rfl _ _ _ _ rfl _ _ rfl rfl _ _ HR5.out ?_)
  have j4 : (N : Int) ≤ 60 := by have := HNN.out; omega
  have j5 : (0 : Int) ≤ (N : Int) := by omega
  rw [← HNN.out]
  rw [show (n1 : Int) + (n2 : Int) = (N : Int) from by have := HNN.out; omega]
  have HKA := Lib.hid (show Kp w w5 from ((HKW.out.trans HK2.out).trans HK3.out).trans HK5.out)
  go_loopg [61] N (fun G st wr => ∃ k : Nat, G = N - k ∧ k ≤ N ∧ st = .int .i64 (k : Int) ∧ LawR w5 R xs big P k wr)
  case atStart => exact ⟨0, rfl, Nat.zero_le _, rfl, H0.out⟩
  case round =>
    obtain ⟨k, rfl, hk, rfl, L, V, p1, nn, cc, hrun, hL0, hrd, hby, hgr⟩ := hrel
    have HRUN := Lib.hid hrun
    have HL0 := Lib.hid hL0
    have HRDk := Lib.hid hrd
    have HBY := Lib.hid hby
    have HGR := Lib.hid hgr
    have HKk := Lib.hid hk
    have l0 : (0 : Int) ≤ (k : Int) := by omega
    have l1 : (k : Int) ≤ (N : Int) := by omega
    have HKR := Lib.hid (kp_grown HKA.out hgr HRw.out)
    clear hrun hL0 hrd hby hgr hk
    by_cases hlt : k < N
    · have l2 : (k : Int) < (N : Int) := by omega
      have HLT := Lib.hid hlt
      have hown : wr.ownsRow w3.heap.size 44 4 (.slice A5 N c5) N (flatR GStep.cells P N) := by rw [HNN.out]; exact HO5.out.kept HGR.out (Or.inr (fun e => by have := own_ge HO5.out R e; have := H3R.out; omega))
      obtain ⟨A5', c5', he5, hg5⟩ := gets_own hown
      injection he5 with he5 _ he5c
      subst he5
      subst he5c
      obtain ⟨b, o, rfl, hc⟩ := hg5 k hlt
      obtain ⟨hp1, hp2, hp3⟩ := HPA.out k hlt
      obtain ⟨s, hs⟩ : ∃ s, P k = s := ⟨_, rfl⟩
      have HSS := Lib.hid hs
      rw [hs] at hc hp1 hp2 hp3
      have d0 : wr.cell? ⟨b, o + k * 4, none⟩ = some (.int .i64 s.kind) := hc 0 _ rfl
      have d1' : wr.cell? ⟨b, o + k * 4 + 1, none⟩ = some (.int .i64 s.size) := hc 1 _ rfl
      have d2' : wr.cell? ⟨b, o + k * 4 + 2, none⟩ = some (.bool s.big) := hc 2 _ rfl
      have d3 : wr.cell? ⟨b, o + k * 4 + 3, none⟩ = some (.bool s.comp) := hc 3 _ rfl
      have HP2 := Lib.hid hp2
      have hrs := HRDk.out.kp ((Kp.refl wr).alloc (.cells #[.int .i64 (s.kind : Int), .int .i64 (s.size : Int), .bool s.big, .bool s.comp] 44))
      have CR := Lib.hid (read_step R p1 nn cc (L k) false false big s.kind s.size s.big s.comp _ hrs hp1 hp2 hp3)
      clear hc hown hg5 hs hlt hp1 hp2 hp3 hrs
      go_wp2_with fail
      refine CR.out.mono ?_
      rintro e w6 ⟨qa, ka, ma, qb, kb, mb, x, sx, p2, m2, c2x, l2x, t2, o2, rfl, hrd6, hg6, hll, hres⟩
      have q2 : w6.cell? ⟨R, 2, none⟩ = some (.bool o2) := hrd6.blk.cell 2
      have hRlt := hrd6.blk.lt
      have HRD6 := Lib.hid hrd6
      have HG6 := Lib.hid (show wr.grownBy w6 (some R) from grown_trans (grown_below ((Kp.refl wr).alloc _) _) hg6)
      have HLL := Lib.hid hll
      have HRES := Lib.hid hres
      clear hrd6 hg6 hll hres CR d0 d1' d2' d3
      cases o2 with
      | true =>
        go_wp2_with fail
        refine (sessionLive_any _).mono ?_
        rintro e w7 ⟨rfl, hk7⟩
        have HK7 := Lib.hid ((kp_grown HKR.out HG6.out HRw.out).trans (show Kp w6 w7 from ((Kp.refl w6).alloc _).call hk7))
        clear hk7
        go_wp2_with fail
        go_ret
        exact ⟨rfl, HK7.out⟩
      | false =>
      cases t2 with
      | true =>
        go_wp2_with fail
        refine (sessionLive_any _).mono ?_
        rintro e w7 ⟨rfl, hk7⟩
        have HK7 := Lib.hid ((kp_grown HKR.out HG6.out HRw.out).trans (show Kp w6 w7 from ((Kp.refl w6).alloc _).call hk7))
        clear hk7
        go_wp2_with fail
        go_ret
        exact ⟨rfl, HK7.out⟩
      | false =>
        obtain ⟨v, hv⟩ : ∃ v, StepT big s.kind s.size s.big s.comp (L k) v l2x := by
          rcases HRES.out with h1 | ⟨_, _, _, _, h5⟩
          · rcases h1 with h1 | h1 <;> cases h1
          · exact h5
        have HV := Lib.hid hv
        clear hv
        go_wp2_with fail
        go_roundg (N - (k + 1))
        case measure => have := HLT.out; omega
        case rel =>
          refine ⟨k + 1, rfl, HLT.out, by go_num, fun r => if r = k + 1 then l2x else L r, fun r => if r = k then v else V r, p2, m2, c2x, ?_, ?_, ?_, ?_, ?_⟩
          · exact runT_step HRUN.out (by rw [HSS.out]; exact HV.out) (by rw [HSS.out]; exact HP2.out)
          · show (if 0 = k + 1 then l2x else L 0) = xs
            rw [if_neg (by omega)]; exact HL0.out
          · show Rd _ R p2 m2 c2x (if k + 1 = k + 1 then l2x else L (k + 1)) false false
            rw [if_pos rfl]; exact HRD6.out.kp ((Kp.refl w6).alloc _)
          · intro r hr
            by_cases e : r = k + 1
            · simp only [if_pos e]; exact ⟨HRD6.out.byt, by rw [HRD6.out.len]; exact HRD6.out.nm⟩
            · simp only [if_neg e]; exact HBY.out r (by omega)
          · exact grown_trans (grown_trans HGR.out HG6.out) (grown_below ((Kp.refl w6).alloc _) _)
    · obtain rfl : k = N := by have := HKk.out; omega
      clear hlt
      have hA2 : wr.ownsRow W1.heap.size 44 4 (.slice A2 n1 c2) n1 (flatR GStep.cells (fun r => askOf (P1 r)) n1) := (own_below HC23.out HK5.out).kept HGR.out (Or.inr (fun e => by have := own_ge HC23.out R e; have := HWS.out; omega))
      have hA3 : wr.ownsRow w2.heap.size 44 4 (.slice A3 n2 c3) n2 (flatR GStep.cells (fun r => askOf (P2 r)) n2) := (own_below HC3.out HK5.out).kept HGR.out (Or.inr (fun e => by have := own_ge HC3.out R e; have := HWS.out; have := HK2.out.size; omega))
      have HA := Lib.hid hA2
      have HB3 := Lib.hid hA3
      have hR1 : RunT big n1 (fun r => askOf (P1 r)) L V := runT_cong (runT_part (m := n2) (by rw [← HNN.out]; exact HRUN.out)).1 (fun r hr => by rw [HP.out]; unfold catG; rw [if_pos hr])
      have hR2 : RunT big n2 (fun r => askOf (P2 r)) (fun r => L (n1 + r)) (fun r => V (n1 + r)) := runT_cong (runT_part (n := n1) (m := n2) (by rw [← HNN.out]; exact HRUN.out)).2 (fun r hr => by show P (n1 + r) = _; rw [HP.out]; unfold catG; rw [if_neg (by omega), Nat.add_sub_cancel_left])
      have HR1 := Lib.hid hR1
      have HR2 := Lib.hid hR2
      have HSZ := Lib.hid (show W1.heap.size ≤ wr.heap.size from by have := HK2.out.size; have := HK3.out.size; have := HK5.out.size; have := HGR.out.size; omega)
      have HBY1 := Lib.hid (HBY.out n1 (by have := HNN.out; omega))
      have j6 : decide ((60 : Int) < ((n1 : Nat) : Int)) = false := by simp; have := HN1.out; omega
      clear hA2 hA3 hR1 hR2
      go_wp2_with fail
      refine (clone_any wr p m cp xs (bin_kp HI.out HKR.out) HX.out (by have := HM.out; omega)).mono ?_
      rintro e w7 ⟨q7, e7, rfl, hown7, hk7⟩
      have HI7 := Lib.hid (bin_of_own hown7)
      have HK7 := Lib.hid (show Kp wr w7 from hk7)
      clear hown7 hk7
      go_wp2_with fail
      refine (sessionGetT_any q7 m e7 xs A2 n1 c2 _ L V big w7 HI7.out HX.out HB.out (by have := HM.out; omega) ((own_gets HA.out).kp HK7.out) (by have := HN1.out; omega) HL0.out HR1.out).mono ?_
      rintro e w8 ⟨vx, ql, ll, dl, Qx, rfl, hox, hgx, hlx, hll, hil, hk8, _⟩
      obtain ⟨ax, cx, rfl, _, _⟩ := own_slice hox
      have HOX := Lib.hid hox
      have HGX := Lib.hid hgx
      have HLX := Lib.hid hlx
      have HLL := Lib.hid hll
      have HIL := Lib.hid hil
      have HK8 := Lib.hid (show Kp w7 w8 from hk8)
      clear hox hgx hlx hll hil hk8
      go_wp2_with fail
      refine (clone_any w8 ql ll dl (L n1) HIL.out HLL.out (by have := HLL.out; have := HBY1.out.2; omega)).mono ?_
      rintro e w9 ⟨q9, e9, rfl, hown9, hk9⟩
      have HI9 := Lib.hid (bin_of_own hown9)
      have HK9 := Lib.hid (show Kp w8 w9 from hk9)
      clear hown9 hk9
      go_wp2_with fail
      refine (sessionGetT_any q9 ll e9 (L n1) A3 n2 c3 _ (fun r => L (n1 + r)) (fun r => V (n1 + r)) big w9 HI9.out HLL.out HBY1.out.1 (by have := HLL.out; have := HBY1.out.2; omega) ((own_gets HB3.out).kp ((HK7.out.trans HK8.out).trans HK9.out)) (by have := HN2.out; omega) rfl HR2.out).mono ?_
      rintro e w10 ⟨vy, qr, lr, dr, Qy, rfl, hoy, hgy, hly, hlr, hir, hk10, hfr⟩
      obtain ⟨ay, cy, rfl, _, _⟩ := own_slice hoy
      have HOY := Lib.hid hoy
      have HGY := Lib.hid hgy
      have HLY := Lib.hid hly
      have HLR := Lib.hid hlr
      have HIR := Lib.hid hir
      have HFR := Lib.hid hfr
      have HK10 := Lib.hid (show Kp w9 w10 from hk10)
      clear hoy hgy hly hlr hir hk10 hfr
      go_wp2_with fail
      refine (clone_any w10 p m cp xs (bin_kp HI.out ((((HKR.out.trans HK7.out).trans HK8.out).trans HK9.out).trans HK10.out)) HX.out (by have := HM.out; omega)).mono ?_
      rintro e w11 ⟨q11, e11, rfl, hown11, hk11⟩
      have k711 : Kp wr w11 := (((HK7.out.trans HK8.out).trans HK9.out).trans HK10.out).trans hk11
      obtain ⟨v12, w12, hrun12, hov12, hgr12⟩ := app_gets w11 W1.heap.size _ n1 _ (own_below HA.out k711) A3 n2 c3 _ (own_gets (own_below HB3.out k711)) (by have := HN1.out; omega) (by have := HN2.out; omega) (by have := HSZ.out; have := k711.size; omega)
      obtain ⟨A12, c12, rfl, hg12⟩ := gets_own hov12
      rw [← HP.out] at hg12
      have hin : ∀ r, (Value.slice A2 n1 c2).ownBlock = some r → r < wr.heap.size := fun r hr => (own_lt' HA.out r hr).2
      have hge : ∀ r, (Value.slice A2 n1 c2).ownBlock = some r → w.heap.size ≤ r := fun r hr => by have := (own_lt' HA.out r hr).1; have := HWS.out; have := HRw.out; omega
      have HRUN12 := Lib.hid hrun12
      have HG12 := Lib.hid hg12
      have HK12 := Lib.hid ((HKR.out.trans k711).grown hgr12 hge)
      have s7 := HK7.out.size
      have s8 := HK8.out.size
      have s9 := HK9.out.size
      have s10 := HK10.out.size
      have HI12 := Lib.hid (bin_off (bin_of_own hown11) hgr12 (fun a ha e => by have := (own_fresh hown11 a ha).1; have := hin _ e.symm; omega))
      have HOX12 := Lib.hid (own_off (own_below HOX.out ((HK9.out.trans HK10.out).trans hk11)) hgr12 (fun r hr => by have := hin r hr; omega))
      have HOY12 := Lib.hid (own_off (own_below HOY.out hk11) hgr12 (fun r hr => by have := hin r hr; omega))
      have HGX12 := Lib.hid (gotsIn_off (HGX.out.kp ((HK9.out.trans HK10.out).trans hk11)) HLX.out hgr12 (fun r hr => by have := hin r hr; omega))
      have HGY12 := Lib.hid (gotsIn_off (HGY.out.kp hk11) HLY.out hgr12 (fun r hr => by have := hin r hr; omega))
      have HIR12 := Lib.hid (bin_off (bin_kp HIR.out hk11) hgr12 (fun a ha e => by have := HFR.out a ha; have := hin _ e.symm; omega))
      clear hown11 hk11 hrun12 hov12 hgr12 hg12 k711 hin hge s7 s8 s9 s10
      go_wp2_with (at_builtin; refine Lib.wpList_append_run _ rfl _ _ _ _ rfl _ _ rfl rfl _ _ HRUN12.out ?_)
      refine (sessionGetT_any q11 m e11 xs A12 (n1 + n2) c12 P L V big w12 HI12.out HX.out HB.out (by have := HM.out; omega) HG12.out (by have := HN1.out; have := HN2.out; omega) HL0.out (by rw [← HNN.out]; exact HRUN.out)).mono ?_
      rintro e w13 ⟨vb, qb, lb, db, Qb, rfl, hob, hgb, hlb, hllb, hilb, hk13, _⟩
      obtain ⟨ab, cb, rfl, _, _⟩ := own_slice hob
      have HOB := Lib.hid hob
      have HGB := Lib.hid hgb
      have HLLB := Lib.hid hllb
      have HILB := Lib.hid hilb
      have HK13 := Lib.hid (show Kp w12 w13 from hk13)
      clear hob hgb hlb hllb hilb hk13
      have HGA := Lib.hid (gotAt_own (own_below HOX12.out HK13.out))
      have HGB2 := Lib.hid (gotAt_own (own_below HOY12.out HK13.out))
      have HKA13 := Lib.hid (show Kp w w13 from HK12.out.trans HK13.out)
      go_wp2_with fail
      have hal := (Kp.refl w13).alloc (.cells #[.slice ax n1 cx, .slice ay n2 cy] 48)
      have hbk := Blk.new w13 48 #[.slice ax n1 cx, .slice ay n2 cy]
      refine (gconcat_any w13.heap.size ax ay n1 n2 cx cy Qx Qy V (fun r => V (n1 + r)) _ (hbk.cell 0) (hbk.cell 1) (HGA.out.kp hal) (HGB2.out.kp hal) (by have := HN1.out; omega) (by have := HN2.out; omega)).mono ?_
      rintro e w14 ⟨vc, rfl, hoc, hk14⟩
      rw [catQ_self] at hoc
      obtain ⟨ac, cc', rfl, _, _⟩ := own_slice hoc
      have HK14 := Lib.hid (show Kp w13 w14 from hal.trans hk14)
      have HOC := Lib.hid hoc
      clear hal hbk hoc hk14
      go_wp2_with fail
      have hcq := gotsIn_cat HGX12.out HGY12.out
      rw [catQ_self] at hcq
      refine (eqGot_any ab ac (n1 + n2) cb cc' Qb (catQ n1 Qx Qy) V w14 (gotAt_own (own_below HOB.out HK14.out)) (gotAt_own HOC.out) (HGB.out.kp HK14.out) (hcq.kp (HK13.out.trans HK14.out)) (by have := HN1.out; have := HN2.out; omega)).mono ?_
      rintro e w15 ⟨rfl, hk15⟩
      have HK15 := Lib.hid (show Kp w13 w15 from HK14.out.trans hk15)
      clear hk15 hcq
      go_wp2_with fail
      obtain rfl : lr = lb := HLR.out.symm.trans HLLB.out
      refine (bytes_equal_same w15 qr qb lr dr db (L (n1 + n2)) HLLB.out (bin_kp HIR12.out (HK13.out.trans HK15.out)) (bin_kp HILB.out HK15.out)).mono ?_
      rintro e w16 ⟨rfl, rfl⟩
      go_wp2_with fail
      refine (sessionLive_any _).mono ?_
      rintro e w17 ⟨rfl, hk17⟩
      have HK17 := Lib.hid ((HKA13.out.trans HK15.out).trans (show Kp w16 w17 from hk17))
      clear hk17
      go_wp2_with fail
      go_ret
      exact ⟨rfl, HK17.out⟩
end Go.Proofs.YtacmnibhdmeidaaDoor
