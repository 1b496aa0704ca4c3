/-
  The reference's form of a number: spec.NumberBytes.
-/
import Derived.Test.YtcdbnjhkjfimkaaDoorTx6
import Derived.IntWalk
namespace Go.Proofs.YtcdbnjhkjfimkaaDoor
open Go Go.RowKit

/-- At a step of a region that draws its order: an append whose run is known. -/
theorem step_app {P : Program} {ops : Array Oper} {o : Oper} {a : Act} {w : World} {K : Act → World → Prop} {Q : Exit → Act → World → Prop} {E : Prop} (hgd : o.guard = none) (s x : Operand) (t tn : TypeId)
    (ho : o.op = .call { callee := .builtin .append, args := #[s, x], argTypes := #[t, tn] }) (vs vx : Value) (hs : a.eval s = vs) (hx : a.eval x = vx)
    (v' : Value) (w' : World) (hr : (Builtin.append_ #[t, tn] o.type #[vs, vx]).run P w = .ok v' w') (h : K (a.put o.dst v') w') :
    if Region.wanted o (yielded ops a.tmps) = true then Oper.wp P o a w K Q else E := by
  have hw : Region.wanted o (yielded ops a.tmps) = true := by simp [Region.wanted, hgd]
  rw [if_pos hw]
  exact Lib.wp_append_run w s x t tn ho vs vx hs hx v' w' hr h
abbrev BRow (w : World) (base : Nat) (v : Value) (n : Nat) (xs : List Int) : Prop := w.ownsRow base 5 1 v n (xs.map (Value.int .u8))
/-- append of one byte. -/
theorem app_b {wr : World} {base : Nat} {v : Value} {k : Nat} {xs : List Int} (W : World) (h : BRow wr base v k xs) (hk : Kp wr W) (hb : base ≤ W.heap.size) (hn : k ≤ 100000) (x : Int) :
    ∃ v1 w5, (Builtin.append_ #[26, 26] 26 #[v, .slice (some ⟨W.heap.size, 0, none⟩) 1 1]).run Tryd.prog (W.alloc (.cells #[.int .u8 x] 5)) = .ok v1 w5 ∧ BRow w5 base v1 (k + 1) (xs ++ [x]) ∧ (∀ w0, Kp w0 W → w0.heap.size ≤ base → Kp w0 w5) ∧ (∀ w1 : World, w1.heap.size ≤ base → Kp w1 W → Kp w1 w5) := by
  have h2 : BRow (W.alloc (.cells #[.int .u8 x] 5)) base v k xs := own_below h (hk.alloc _)
  obtain ⟨v1, w5, r1, r2, r3, _⟩ := run_append_bytes (W.alloc (.cells #[.int .u8 x] 5)) base v k xs h2 (some ⟨W.heap.size, 0, none⟩) 1 1 [x] (by simpa using bin_new W [x] 5) rfl (by omega) (by simp; omega)
  exact ⟨v1, w5, r1, r2, fun w0 h0 hb0 => (h0.alloc _).grown r3 (fun k' hk' => Nat.le_trans hb0 (own_ge h2 k' hk')), fun w0 hb0 h0 => (h0.alloc _).grown r3 (fun k' hk' => Nat.le_trans hb0 (own_ge h2 k' hk'))⟩
def NbPost (neg : Bool) (P : Int) (pv : List Int) (w : World) (e : Ending) (w' : World) : Prop := ∃ v, e = .returned v ∧ BRow w' w.heap.size v (numB neg P pv).length (numB neg P pv) ∧ Kp w w'
/-- Pairs of digits, in numbers. -/
def prV : List Int → List Int
  | a :: b :: r => (10 * a + b) :: prV r
  | _ => []
theorem prV_length : ∀ (l : List Int) (K : Nat), l.length = 2 * K → (prV l).length = K
  | [], K, h => by
    obtain rfl : K = 0 := by simp at h; omega
    rfl
  | [_], K, h => by simp at h; omega
  | a :: b :: r, K, h => by
    simp only [List.length_cons] at h
    have := prV_length r (K - 1) (by omega)
    simp only [prV, List.length_cons, this]
    omega
theorem prV_at : ∀ (l : List Int) (j : Nat), 2 * j + 1 < l.length → (prV l).getD j 0 = 10 * l.getD (2 * j) 0 + l.getD (2 * j + 1) 0
  | [], j, h => by simp at h
  | [_], j, h => by simp at h
  | a :: b :: r, 0, _ => rfl
  | a :: b :: r, j + 1, h => by
    have ih := prV_at r j (by simp only [List.length_cons] at h; omega)
    simp only [prV, List.getD_cons_succ, show 2 * (j + 1) = 2 * j + 1 + 1 by omega]
    exact ih
/-- They are the pairs of the letters. -/
theorem prV_prs : ∀ (l : List Int), prV (l ++ (if l.length % 2 = 1 then [0] else [])) = prs (l.map (· + 48))
  | [] => rfl
  | [a] => by
    simp only [List.length_cons, List.length_nil, Nat.zero_add, List.map_cons, List.map_nil, prs]
    simp [prV]
  | a :: b :: r => by
    have ih := prV_prs r
    simp only [List.length_cons, show (r.length + 1 + 1) % 2 = r.length % 2 by omega, List.cons_append, prV, List.map_cons, prs]
    rw [ih]
    congr 1
    omega
theorem grown_cell_o {w w' : World} {row : Option Nat} (h : w.grownBy w' row) {a : Addr} {v : Value} (hc : w.cell? a = some v) (hne : row ≠ some a.block) : w'.cell? a = some v :=
  (World.cell?_of_block (h.block _ (heap_lt_of_cell hc) (fun e => hne e.symm))).trans hc
/-- append of one byte; what stands in another block stays. -/
theorem app_far {wr : World} {base g L : Nat} {v : Value} {k : Nat} {xs E : List Int} (W : World) (h : BRow wr base v k xs) (hk : Kp wr W) (hb : base ≤ wr.heap.size) (hn : k ≤ 100000) (x : Int)
    (hE : ∀ i, i < L → wr.cell? ⟨g, i, none⟩ = some (.int .u8 (E.getD i 0))) (hL : 1 ≤ L) (hg : v.ownBlock ≠ some g) :
    ∃ v1 w5, (Builtin.append_ #[26, 26] 26 #[v, .slice (some ⟨W.heap.size, 0, none⟩) 1 1]).run Tryd.prog (W.alloc (.cells #[.int .u8 x] 5)) = .ok v1 w5 ∧ BRow w5 base v1 (k + 1) (xs ++ [x]) ∧ (∀ w0, Kp w0 wr → w0.heap.size ≤ base → Kp w0 w5) ∧ (∀ i, i < L → w5.cell? ⟨g, i, none⟩ = some (.int .u8 (E.getD i 0))) ∧ v1.ownBlock ≠ some g := by
  have h2 : BRow (W.alloc (.cells #[.int .u8 x] 5)) base v k xs := own_below h (hk.alloc _)
  have hz : (W.alloc (.cells #[.int .u8 x] 5)).heap.size = W.heap.size + 1 := Array.size_push _
  have hs := hk.size
  obtain ⟨v1, w5, r1, r2, r3, r4⟩ := run_append_bytes (W.alloc (.cells #[.int .u8 x] 5)) base v k xs h2 (some ⟨W.heap.size, 0, none⟩) 1 1 [x] (by simpa using bin_new W [x] 5) rfl (by omega) (by rw [hz]; omega)
  refine ⟨v1, w5, r1, r2, fun w0 h0 hb0 => ((h0.trans hk).alloc _).grown r3 (fun k' hk' => Nat.le_trans hb0 (own_ge h2 k' hk')), fun i hi => grown_cell_o r3 (below_some (hk.alloc _) (hE i hi)) hg, fun e => ?_⟩
  have hlt := heap_lt_of_cell (hE 0 hL)
  rcases r4 with r4 | r4
  · rw [r4] at e; exact hg e
  · rw [r4, hz] at e
    injection e with e
    dsimp only at hlt
    omega
theorem nb_rows (w : World) (p : Option Addr) (n c : Nat) (ds : List Int) (hi : Lib.BytesIn w p n ds) (hx : ds.length = n) (hn : 1 ≤ n) (hn2 : n ≤ 100) :
    ∃ g c1 w1, (Builtin.append_ #[26, 26] 26 #[.slice (some ⟨w.heap.size, 0, none⟩) 0 0, .slice p n c]).run Tryd.prog (w.alloc (.cells #[] 5)) = .ok (.slice (some ⟨g, 0, none⟩) n c1) w1 ∧ BRow w1 w.heap.size (.slice (some ⟨g, 0, none⟩) n c1) n ds ∧ Kp w w1 := by
  obtain ⟨v1, w1, hr1, ho1, hg1, _⟩ := run_append_bytes (w.alloc (.cells #[] 5)) w.heap.size _ 0 [] (by exact own_new w [] _ (by simp [maxLen])) p n c ds (bin_alloc hi _) hx (by omega) (by simp)
  rw [Nat.zero_add, List.nil_append] at ho1
  obtain ⟨g1, c1, rfl, _, _, _⟩ := own_pos ho1 (by omega)
  exact ⟨g1, c1, w1, hr1, ho1, ((Kp.refl w).alloc _).grown hg1 (fun k' hk' => own_ge (own_new w [] 5 (by simp [maxLen])) k' hk')⟩
theorem nb_ahead (w : World) (g c n : Nat) (ds : List Int) (hi : Lib.BytesIn w (some ⟨g, 0, none⟩) n ds) (hx : ds.length = n) (hn2 : n ≤ 100) :
    ∃ g2 c2 w2, (Builtin.append_ #[26, 26] 26 #[.slice (some ⟨w.heap.size, 0, none⟩) 1 1, .slice (some ⟨g, 0, none⟩) n c]).run Tryd.prog (w.alloc (.cells #[.int .u8 0] 5)) = .ok (.slice (some ⟨g2, 0, none⟩) (1 + n) c2) w2 ∧ BRow w2 w.heap.size (.slice (some ⟨g2, 0, none⟩) (1 + n) c2) (1 + n) (0 :: ds) ∧ Kp w w2 := by
  obtain ⟨v1, w1, hr1, ho1, hg1, _⟩ := run_append_bytes (w.alloc (.cells #[.int .u8 0] 5)) w.heap.size _ 1 [0] (by exact own_new w [0] _ (by simp [maxLen])) (some ⟨g, 0, none⟩) n c ds (bin_alloc hi _) hx (by omega) (by simp)
  obtain ⟨g1, c1, rfl, _, _, _⟩ := own_pos ho1 (by omega)
  exact ⟨g1, c1, w1, hr1, ho1, ((Kp.refl w).alloc _).grown hg1 (fun k' hk' => own_ge (own_new w [0] 5 (by simp [maxLen])) k' hk')⟩
theorem nb_behind (w0 w : World) (g c n : Nat) (E : List Int) (h : BRow w w0.heap.size (.slice (some ⟨g, 0, none⟩) n c) n E) (hk : Kp w0 w) (hn2 : n ≤ 100) :
    ∃ g2 c2 w2, (Builtin.append_ #[26, 26] 26 #[.slice (some ⟨g, 0, none⟩) n c, .slice (some ⟨w.heap.size, 0, none⟩) 1 1]).run Tryd.prog (w.alloc (.cells #[.int .u8 0] 5)) = .ok (.slice (some ⟨g2, 0, none⟩) (n + 1) c2) w2 ∧ BRow w2 w0.heap.size (.slice (some ⟨g2, 0, none⟩) (n + 1) c2) (n + 1) (E ++ [0]) ∧ Kp w0 w2 := by
  obtain ⟨v1, w1, hr1, ho1, h3, _⟩ := app_b w h (Kp.refl w) hk.size (by omega) 0
  obtain ⟨g1, c1, rfl, _, _, _⟩ := own_pos ho1 (by omega)
  exact ⟨g1, c1, w1, hr1, ho1, h3 w0 hk (Nat.le_refl _)⟩

set_option maxRecDepth 100000 in
set_option maxHeartbeats 4000000 in
theorem nb_even_pos0 (p : Option Addr) (n c K : Nat) (ds : List Int) (neg : Bool) (e P : Int) (w : World) (hi : Lib.BytesIn w p n ds) (hx : ds.length = n) (hn : 1 ≤ n) (hn2 : n ≤ 40) (hd : ∀ x ∈ ds, 0 ≤ x ∧ x ≤ 9) (he0 : -100 ≤ e) (he1 : e ≤ 100) (hP : P = e / 2) (hpar : e % 2 = 0) (hsg : 0 ≤ e) (hlen : (1 + n) % 2 = 0) (hK : (1 + n) = 2 * K) :
    Calls Tryd.prog 26 #[.slice p n c, .bool neg, .int .i64 e] w (NbPost neg P (prV ((0 :: ds))) w) := by
  have m0 : (e % 2 == 0) = true := by
    simp; omega
  have d0 : (e) / 2 = P := by
    omega
  have q0 : -50 ≤ P := by omega
  have q1 : P ≤ 50 := by omega
  have i0 : (1 : Int) ≤ (n : Int) := by omega
  have i1 : (n : Int) ≤ 40 := by omega
  have z0 : ((n : Int) == 0) = false := by simp; omega
  obtain ⟨g1, c1, w1, hr1, ho1, k1⟩ := nb_rows (w.alloc (.cells #[] 5)) p n c ds (bin_alloc hi _) hx hn (by omega)
  have HR1 := Lib.hid (show (Builtin.append_ #[26, 26] 26 #[.slice (some ⟨w.heap.size + 1, 0, none⟩) 0 0, .slice p n c]).run Tryd.prog ((w.alloc (.cells #[] 5)).alloc (.cells #[] 5)) = .ok (.slice (some ⟨g1, 0, none⟩) n c1) w1 from by rw [← Array.size_push] ; exact hr1)
  obtain ⟨g2, c2, w2, hr2, ho2, k2⟩ := nb_ahead w1 g1 c1 n ds (bin_of_own ho1) hx (by omega)
  have HR2 := Lib.hid hr2
  have HK3 := Lib.hid (show Kp w w2 from ((Kp.refl w).alloc _).trans (k1.trans k2))
  have HP0 := Lib.hid (show BRow w2 w.heap.size (.slice (some ⟨w.heap.size, 0, none⟩) 0 0) 0 [] from own_below (own_new w [] _ (by simp [maxLen])) (k1.trans k2))
  have HROW := Lib.hid ho2
  obtain ⟨_, _, hv3, hc3, hm3, hin3⟩ := own_pos ho2 (by omega)
  injection hv3 with e1 e2 e3
  injection e1 with e1
  injection e1 with e1
  subst e1 e3
  obtain ⟨E, hE⟩ : ∃ E, E = (0 :: ds) := ⟨_, rfl⟩
  rw [← hE] at hin3 ⊢
  have hEl : E.length = 2 * K := by rw [hE, ← hK]; simp [hx]; omega
  have hEd : ∀ x ∈ E, 0 ≤ x ∧ x ≤ 9 := fun x hm => by
    rw [hE] at hm
    simp only [List.mem_cons] at hm
    have h0 : x = 0 ∨ x ∈ ds := by
      rcases hm with h | h
      · exact .inl h
      · exact .inr h
    rcases h0 with rfl | h0
    · omega
    · exact hd x h0
  rw [show (1 + n) = 2 * K from hK] at hin3 hc3
  have HIN := Lib.hid (fun i (hi : i < 2 * K) => by
    have h := bin_cells hin3 i hi
    rw [Nat.zero_add] at h
    exact h)
  have HGN := Lib.hid (show (Value.slice (some ⟨w.heap.size, 0, none⟩) 0 0).ownBlock ≠ some g2 from fun he => by
    have he2 : w.heap.size = g2 := Option.some.inj he
    have h1 := own_lt HROW.out
    have h2 : (w.alloc (.cells #[] 5)).heap.size = w.heap.size + 1 := Array.size_push _
    have h3 := k1.size
    omega)
  have HED := Lib.hid hEd
  have HEL := Lib.hid hEl
  have hpl := prV_length E K hEl
  have HPA := Lib.hid (fun j (hj : j < K) => prV_at E j (by rw [hEl]; omega))
  obtain ⟨pv, hpv⟩ : ∃ pv, pv = prV E := ⟨_, rfl⟩
  rw [← hpv] at hpl HPA ⊢
  have HPL := Lib.hid hpl
  have HPOST := Lib.hid (fun w' v (h : BRow w' w.heap.size v (numB neg P pv).length (numB neg P pv)) (hk : Kp w w') => (show NbPost neg P pv w (.returned v) w' from ⟨v, rfl, h, hk⟩))
  have kk : (((1 + n) : Nat) : Int) = 2 * (K : Int) := by rw [hK]; omega
  have kb : (K : Int) ≤ 21 := by omega
  have k1' : (1 : Int) ≤ (K : Int) := by omega
  have hl0 : ((1 + (n : Int) % 2) == 1) = false := by
    simp
    omega
  have KK := Lib.hid hK
  clear hi hx hn hn2 hd hP hpar hlen hK hin3 hE hEl hEd hpl hpv hm3 kk ho1 k1 hr1 hr2 ho2 k2
  go_enter Tryd.func26, Tryd.ntmps26
  go_upto_region 5 with (at_builtin; refine Lib.wpList_append_run _ rfl _ _ _ _ rfl _ _ rfl rfl _ _ HR1.out ?_)
  go_upto_region 9 with (at_builtin; refine Lib.wpList_append_run _ rfl _ _ _ _ rfl _ _ rfl rfl _ _ HR2.out ?_)
  go_wp2_with fail
  obtain ⟨M, hM⟩ : ∃ M, M = 2 * K := ⟨_, rfl⟩
  rw [KK.out, ← hM]
  have HMK := Lib.hid hM
  have mb : (M : Int) ≤ 42 := by omega
  clear hM
  go_loopg [7, 10] K (fun G s7 s10 wr => ∃ (j : Nat) (v : Value), K - j = G ∧ j ≤ K ∧ v = s7 ∧ s10 = .int .i64 ((2 * j : Nat) : Int) ∧ BRow wr w.heap.size v j (pv.take j) ∧ Kp w wr ∧ (∀ i, i < 2 * K → wr.cell? ⟨g2, i, none⟩ = some (.int .u8 (E.getD i 0))) ∧ v.ownBlock ≠ some g2)
  case atStart => exact ⟨0, _, rfl, Nat.zero_le _, rfl, rfl, HP0.out, HK3.out, HIN.out, HGN.out⟩
  case round =>
    obtain ⟨j, v, rfl, hj, rfl, rfl, hrow, hkw, hin, hgn⟩ := hrel
    have HR := Lib.hid hrow
    have HKW := Lib.hid hkw
    have hjj := hj
    by_cases hlt : j < K
    · obtain ⟨t, ht⟩ : ∃ t, t = 2 * j := ⟨_, rfl⟩
      rw [← ht]
      have htM : t + 1 < M := by have := HMK.out; omega
      have s0 : (t : Int) < (M : Int) := by omega
      have s1 : (0 : Int) ≤ (t : Int) := by omega
      have s2 : ((t : Int) + 1).toNat = t + 1 := by omega
      have s3 : (t : Int) + 1 < (M : Int) := by omega
      have s4 : (0 : Int) ≤ (t : Int) + 1 := by omega
      have s5 : IntKind.i64.wrap ((t : Int) + 1) = (t : Int) + 1 := IntWalk.i64_in _ (by omega)
      have cE : ∀ i, i < 2 * K → ∃ a, a = E.getD i 0 ∧ 0 ≤ a ∧ a ≤ 9 ∧ wr.cell? ⟨g2, i, none⟩ = some (.int .u8 a) := fun i hi => by
        have hm : E.getD i 0 ∈ E := by
          rw [List.getD_eq_getElem?_getD, List.getElem?_eq_getElem (by rw [HEL.out]; exact hi)]
          exact List.getElem_mem _
        exact ⟨_, rfl, (HED.out _ hm).1, (HED.out _ hm).2, hin i hi⟩
      obtain ⟨a, ha, a0, a1, ca⟩ := cE t (by omega)
      obtain ⟨b, hb, b0, b1, cb⟩ := cE (t + 1) (by omega)
      have hpj := HPA.out j hlt
      rw [← ht, ← ha, ← hb] at hpj
      have u1 : IntKind.u8.wrap (10 * a) = 10 * a := by rw [IntKind.wrap_u8]; omega
      have u2 : IntKind.u8.wrap (10 * a + b) = 10 * a + b := by rw [IntKind.wrap_u8]; omega
      have HTK := Lib.hid (take_snoc' pv j (by rw [HPL.out]; exact hlt))
      rw [hpj] at HTK
      obtain ⟨v1, w5, r1, r2, r3, r4, r5⟩ := app_far wr.drew hrow ((Kp.refl wr).drew) hkw.size (by omega) (10 * a + b) hin (by omega) hgn
      have HA := Lib.hid (show (Builtin.append_ #[26, 26] 26 #[v, .slice (some ⟨wr.heap.size, 0, none⟩) 1 1]).run Tryd.prog (wr.drew.alloc (.cells #[.int .u8 (10 * a + b)] 5)) = .ok v1 w5 from r1)
      have HA2 := Lib.hid (show BRow w5 w.heap.size v1 (j + 1) (pv.take (j + 1)) from by rw [HTK.out]; exact r2)
      have HA3 := Lib.hid (r3 w hkw (Nat.le_refl _))
      have HA4 := Lib.hid r4
      have HA5 := Lib.hid r5
      have HCC := Lib.hid (show w5.cell? ⟨g2, t, none⟩ = some (.int .u8 a) ∧ w5.cell? ⟨g2, t + 1, none⟩ = some (.int .u8 b) from ⟨by rw [ha]; exact r4 _ (by omega), by rw [hb]; exact r4 _ (by omega)⟩)
      have HLT := Lib.hid hlt
      have HTT := Lib.hid ht
      clear ht htM cE ha hb hpj hrow hkw hin hgn r1 r2 r3 r4 r5 hlt hj hjj
      go_wp2_with fail
      go_region_held3 (fun w' => w'.cell? ⟨g2, t, none⟩ = some (.int .u8 a) ∧ w'.cell? ⟨g2, t + 1, none⟩ = some (.int .u8 b)) (first | with_reducible exact HCC.out | go_keep)
        ((refine step_app (by rfl) _ _ _ _ (by rfl) _ _ (by rfl) (by rfl) _ _ HA.out ?_))
      all_goals
        go_wp2_with fail
        go_roundg (K - (j + 1))
        case measure => have := HLT.out; omega
        case rel => exact ⟨j + 1, v1, rfl, HLT.out, rfl, int_eq (by have := HTT.out; omega), HA2.out, HA3.out, HA4.out, HA5.out⟩
    · obtain rfl : j = K := by omega
      obtain ⟨wo, rfl⟩ : ∃ wo : World, wo = wr := ⟨_, rfl⟩
      have hjM : ((2 * j : Nat) : Int) = (M : Int) := by rw [HMK.out]
      obtain ⟨gp, cp, rfl, _, _, hinp⟩ := own_pos hrow (by omega)
      have HGP := Lib.hid (fun i (hi : i < j) => by
        have h := bin_cells hinp i hi
        rw [Nat.zero_add, List.take_of_length_le (by rw [HPL.out]; exact Nat.le_refl _)] at h
        exact h)
      have HPX := Lib.hid (fun i (hi : i < j) => (show 0 ≤ pv.getD i 0 ∧ pv.getD i 0 ≤ 99 from by
        have hm : ∀ r, r < 2 * j → 0 ≤ E.getD r 0 ∧ E.getD r 0 ≤ 9 := fun r hr => HED.out _ (by
          rw [List.getD_eq_getElem?_getD, List.getElem?_eq_getElem (by rw [HEL.out]; exact hr)]
          exact List.getElem_mem _)
        have h1 := hm (2 * i) (by omega)
        have h2 := hm (2 * i + 1) (by omega)
        have h3 := HPA.out i hi
        omega))
      rw [hjM]
      clear hrow hkw hin hgn hinp hlt hj hjj hjM
      go_upto_region 16 with (fail)
      (try rw [d0])
      cases neg
      · have w0 := own_new wo [193 + P] 5 (by simp [maxLen])
        have HW0 := Lib.hid w0
        clear w0
        go_wp2_with fail
        (try rw [d0])
        go_loopg [12, 72] j (fun G sa sb wr => ∃ (i : Nat) (u : Value), j - i = G ∧ i ≤ j ∧ u = sa ∧ sb = .int .i64 (i : Int) ∧ BRow wr wo.heap.size u (i + 1) ((193 + P) :: (pv.take i).map (enc false)) ∧ Kp wo wr)
        case atStart => exact ⟨0, _, rfl, Nat.zero_le _, rfl, rfl, HW0.out, (Kp.refl wo).alloc _⟩
        case round =>
        obtain ⟨i, u, rfl, hi, rfl, rfl, hq, hkq⟩ := hrel
        have HQ := Lib.hid hq
        have HKQ := Lib.hid hkq
        by_cases hlt : i < j
        · have n1 : (i : Int) < (j : Int) := by omega
          have hcx := below_some hkq (HGP.out i hlt)
          have hxr := HPX.out i hlt
          obtain ⟨x, hx⟩ : ∃ x, x = pv.getD i 0 := ⟨_, rfl⟩
          rw [← hx] at hcx hxr
          have x0 : 0 ≤ x := hxr.1
          have x1 : x ≤ 99 := hxr.2
          obtain ⟨v5, w5, r1, r2, r3, _⟩ := app_b wr hq (Kp.refl wr) hkq.size (by omega) (x + 1)
          have HA := Lib.hid r1
          have HA2 := Lib.hid (show BRow w5 wo.heap.size v5 (i + 1 + 1) ((193 + P) :: (pv.take (i + 1)).map (enc false)) from by
            rw [take_snoc' pv i (by rw [HPL.out]; exact hlt), ← hx, List.map_append]
            exact r2)
          have HA3 := Lib.hid (r3 wo hkq (Nat.le_refl _))
          have HLT := Lib.hid hlt
          clear r1 r2 r3 hxr hx hq hkq hlt hi
          go_wp2_with (at_builtin; refine Lib.wpList_append_run _ rfl _ _ _ _ rfl _ _ rfl rfl _ _ HA.out ?_)
          go_roundg (j - (i + 1))
          case measure => have := HLT.out; omega
          case rel => exact ⟨i + 1, v5, rfl, HLT.out, rfl, by go_num, HA2.out, HA3.out⟩
        obtain rfl : i = j := by omega
        clear hlt hi hq hkq
        go_wp2_with fail
        go_ret
        exact HPOST.out _ _ (by
          have h := own_base HQ.out HKW.out.size
          rw [List.take_of_length_le (by rw [HPL.out]; exact Nat.le_refl _)] at h
          have e1 : numB false P pv = (193 + P) :: pv.map (enc false) := by simp [numB]
          have e2 : (numB false P pv).length = i + 1 := by rw [e1, List.length_cons, List.length_map, HPL.out]
          rw [e2, e1]
          exact h) (HKW.out.trans HKQ.out)
      · have w0 := own_new wo [62 - P] 5 (by simp [maxLen])
        have HW0 := Lib.hid w0
        clear w0
        go_wp2_with fail
        (try rw [d0])
        go_loopg [15, 89] j (fun G sa sb wr => ∃ (i : Nat) (u : Value), j - i = G ∧ i ≤ j ∧ u = sa ∧ sb = .int .i64 (i : Int) ∧ BRow wr wo.heap.size u (i + 1) ((62 - P) :: (pv.take i).map (enc true)) ∧ Kp wo wr)
        case atStart => exact ⟨0, _, rfl, Nat.zero_le _, rfl, rfl, HW0.out, (Kp.refl wo).alloc _⟩
        case round =>
        obtain ⟨i, u, rfl, hi, rfl, rfl, hq, hkq⟩ := hrel
        have HQ := Lib.hid hq
        have HKQ := Lib.hid hkq
        by_cases hlt : i < j
        · have n1 : (i : Int) < (j : Int) := by omega
          have hcx := below_some hkq (HGP.out i hlt)
          have hxr := HPX.out i hlt
          obtain ⟨x, hx⟩ : ∃ x, x = pv.getD i 0 := ⟨_, rfl⟩
          rw [← hx] at hcx hxr
          have x0 : 0 ≤ x := hxr.1
          have x1 : x ≤ 99 := hxr.2
          obtain ⟨v5, w5, r1, r2, r3, _⟩ := app_b wr hq (Kp.refl wr) hkq.size (by omega) (101 - x)
          have HA := Lib.hid r1
          have HA2 := Lib.hid (show BRow w5 wo.heap.size v5 (i + 1 + 1) ((62 - P) :: (pv.take (i + 1)).map (enc true)) from by
            rw [take_snoc' pv i (by rw [HPL.out]; exact hlt), ← hx, List.map_append]
            exact r2)
          have HA3 := Lib.hid (r3 wo hkq (Nat.le_refl _))
          have HLT := Lib.hid hlt
          clear r1 r2 r3 hxr hx hq hkq hlt hi
          go_wp2_with (at_builtin; refine Lib.wpList_append_run _ rfl _ _ _ _ rfl _ _ rfl rfl _ _ HA.out ?_)
          go_roundg (j - (i + 1))
          case measure => have := HLT.out; omega
          case rel => exact ⟨i + 1, v5, rfl, HLT.out, rfl, by go_num, HA2.out, HA3.out⟩
        obtain rfl : i = j := by omega
        clear hlt hi hq hkq
        by_cases h20 : i < 20
        · have n20 : (i : Int) < 20 := by omega
          obtain ⟨v5, w5, r1, r2, r3, _⟩ := app_b wr HQ.out (Kp.refl wr) HKQ.out.size (by omega) 102
          have HA := Lib.hid r1
          have HA2 := Lib.hid r2
          have HA3 := Lib.hid (r3 wo HKQ.out (Nat.le_refl _))
          have H20 := Lib.hid h20
          clear r1 r2 r3 h20
          go_wp2_with (at_builtin; refine Lib.wpList_append_run _ rfl _ _ _ _ rfl _ _ rfl rfl _ _ HA.out ?_)
          go_ret
          exact HPOST.out _ _ (by
            have h := own_base HA2.out HKW.out.size
            rw [List.take_of_length_le (by rw [HPL.out]; exact Nat.le_refl _)] at h
            have e1 : numB true P pv = (62 - P) :: pv.map (enc true) ++ [102] := by simp [numB, HPL.out, H20.out]
            have e2 : (numB true P pv).length = i + 1 + 1 := by rw [e1, List.length_append, List.length_cons, List.length_map, HPL.out]; rfl
            rw [e2, e1]
            exact h) (HKW.out.trans HA3.out)
        · have n20 : ¬ (i : Int) < 20 := by omega
          have H20 := Lib.hid h20
          clear h20
          go_wp2_with fail
          go_ret
          exact HPOST.out _ _ (by
            have h := own_base HQ.out HKW.out.size
            rw [List.take_of_length_le (by rw [HPL.out]; exact Nat.le_refl _)] at h
            have e1 : numB true P pv = (62 - P) :: pv.map (enc true) := by simp [numB, HPL.out, H20.out]
            have e2 : (numB true P pv).length = i + 1 := by rw [e1, List.length_cons, List.length_map, HPL.out]
            rw [e2, e1]
            exact h) (HKW.out.trans HKQ.out)
set_option maxRecDepth 100000 in
set_option maxHeartbeats 4000000 in
theorem nb_even_pos1 (p : Option Addr) (n c K : Nat) (ds : List Int) (neg : Bool) (e P : Int) (w : World) (hi : Lib.BytesIn w p n ds) (hx : ds.length = n) (hn : 1 ≤ n) (hn2 : n ≤ 40) (hd : ∀ x ∈ ds, 0 ≤ x ∧ x ≤ 9) (he0 : -100 ≤ e) (he1 : e ≤ 100) (hP : P = e / 2) (hpar : e % 2 = 0) (hsg : 0 ≤ e) (hlen : (1 + n) % 2 = 1) (hK : (1 + n) + 1 = 2 * K) :
    Calls Tryd.prog 26 #[.slice p n c, .bool neg, .int .i64 e] w (NbPost neg P (prV ((0 :: ds) ++ [0])) w) := by
  have m0 : (e % 2 == 0) = true := by
    simp; omega
  have d0 : (e) / 2 = P := by
    omega
  have q0 : -50 ≤ P := by omega
  have q1 : P ≤ 50 := by omega
  have i0 : (1 : Int) ≤ (n : Int) := by omega
  have i1 : (n : Int) ≤ 40 := by omega
  have z0 : ((n : Int) == 0) = false := by simp; omega
  obtain ⟨g1, c1, w1, hr1, ho1, k1⟩ := nb_rows (w.alloc (.cells #[] 5)) p n c ds (bin_alloc hi _) hx hn (by omega)
  have HR1 := Lib.hid (show (Builtin.append_ #[26, 26] 26 #[.slice (some ⟨w.heap.size + 1, 0, none⟩) 0 0, .slice p n c]).run Tryd.prog ((w.alloc (.cells #[] 5)).alloc (.cells #[] 5)) = .ok (.slice (some ⟨g1, 0, none⟩) n c1) w1 from by rw [← Array.size_push] ; exact hr1)
  obtain ⟨g2, c2, w2, hr2, ho2, k2⟩ := nb_ahead w1 g1 c1 n ds (bin_of_own ho1) hx (by omega)
  have HR2 := Lib.hid hr2
  obtain ⟨g3, c3, w3, hr3, ho3, k3⟩ := nb_behind w1 w2 g2 c2 (1 + n) (0 :: ds) ho2 k2 (by omega)
  have HR3 := Lib.hid hr3
  have HK3 := Lib.hid (show Kp w w3 from ((Kp.refl w).alloc _).trans (k1.trans k3))
  have HP0 := Lib.hid (show BRow w3 w.heap.size (.slice (some ⟨w.heap.size, 0, none⟩) 0 0) 0 [] from own_below (own_new w [] _ (by simp [maxLen])) (k1.trans k3))
  have HROW := Lib.hid ho3
  obtain ⟨_, _, hv3, hc3, hm3, hin3⟩ := own_pos ho3 (by omega)
  injection hv3 with e1 e2 e3
  injection e1 with e1
  injection e1 with e1
  subst e1 e3
  obtain ⟨E, hE⟩ : ∃ E, E = (0 :: ds) ++ [0] := ⟨_, rfl⟩
  rw [← hE] at hin3 ⊢
  have hEl : E.length = 2 * K := by rw [hE, ← hK]; simp [hx]; omega
  have hEd : ∀ x ∈ E, 0 ≤ x ∧ x ≤ 9 := fun x hm => by
    rw [hE] at hm
    simp only [List.cons_append, List.mem_cons, List.mem_append, List.not_mem_nil, or_false] at hm
    have h0 : x = 0 ∨ x ∈ ds := by
      rcases hm with h | h | h
      · exact .inl h
      · exact .inr h
      · exact .inl h
    rcases h0 with rfl | h0
    · omega
    · exact hd x h0
  rw [show (1 + n) + 1 = 2 * K from hK] at hin3 hc3
  have HIN := Lib.hid (fun i (hi : i < 2 * K) => by
    have h := bin_cells hin3 i hi
    rw [Nat.zero_add] at h
    exact h)
  have HGN := Lib.hid (show (Value.slice (some ⟨w.heap.size, 0, none⟩) 0 0).ownBlock ≠ some g3 from fun he => by
    have he2 : w.heap.size = g3 := Option.some.inj he
    have h1 := own_lt HROW.out
    have h2 : (w.alloc (.cells #[] 5)).heap.size = w.heap.size + 1 := Array.size_push _
    have h3 := k1.size
    omega)
  have HED := Lib.hid hEd
  have HEL := Lib.hid hEl
  have hpl := prV_length E K hEl
  have HPA := Lib.hid (fun j (hj : j < K) => prV_at E j (by rw [hEl]; omega))
  obtain ⟨pv, hpv⟩ : ∃ pv, pv = prV E := ⟨_, rfl⟩
  rw [← hpv] at hpl HPA ⊢
  have HPL := Lib.hid hpl
  have HPOST := Lib.hid (fun w' v (h : BRow w' w.heap.size v (numB neg P pv).length (numB neg P pv)) (hk : Kp w w') => (show NbPost neg P pv w (.returned v) w' from ⟨v, rfl, h, hk⟩))
  have kk : (((1 + n) + 1 : Nat) : Int) = 2 * (K : Int) := by rw [hK]; omega
  have kb : (K : Int) ≤ 21 := by omega
  have k1' : (1 : Int) ≤ (K : Int) := by omega
  have hl0 : ((1 + (n : Int) % 2) == 1) = true := by
    simp
    omega
  have KK := Lib.hid hK
  clear hi hx hn hn2 hd hP hpar hlen hK hin3 hE hEl hEd hpl hpv hm3 kk ho1 k1 hr1 hr2 ho2 k2 hr3 ho3 k3
  go_enter Tryd.func26, Tryd.ntmps26
  go_upto_region 5 with (at_builtin; refine Lib.wpList_append_run _ rfl _ _ _ _ rfl _ _ rfl rfl _ _ HR1.out ?_)
  go_upto_region 9 with (at_builtin; refine Lib.wpList_append_run _ rfl _ _ _ _ rfl _ _ rfl rfl _ _ HR2.out ?_)
  go_upto_region 11 with (at_builtin; refine Lib.wpList_append_run _ rfl _ _ _ _ rfl _ _ rfl rfl _ _ HR3.out ?_)
  go_wp2_with fail
  obtain ⟨M, hM⟩ : ∃ M, M = 2 * K := ⟨_, rfl⟩
  rw [KK.out, ← hM]
  have HMK := Lib.hid hM
  have mb : (M : Int) ≤ 42 := by omega
  clear hM
  go_loopg [7, 10] K (fun G s7 s10 wr => ∃ (j : Nat) (v : Value), K - j = G ∧ j ≤ K ∧ v = s7 ∧ s10 = .int .i64 ((2 * j : Nat) : Int) ∧ BRow wr w.heap.size v j (pv.take j) ∧ Kp w wr ∧ (∀ i, i < 2 * K → wr.cell? ⟨g3, i, none⟩ = some (.int .u8 (E.getD i 0))) ∧ v.ownBlock ≠ some g3)
  case atStart => exact ⟨0, _, rfl, Nat.zero_le _, rfl, rfl, HP0.out, HK3.out, HIN.out, HGN.out⟩
  case round =>
    obtain ⟨j, v, rfl, hj, rfl, rfl, hrow, hkw, hin, hgn⟩ := hrel
    have HR := Lib.hid hrow
    have HKW := Lib.hid hkw
    have hjj := hj
    by_cases hlt : j < K
    · obtain ⟨t, ht⟩ : ∃ t, t = 2 * j := ⟨_, rfl⟩
      rw [← ht]
      have htM : t + 1 < M := by have := HMK.out; omega
      have s0 : (t : Int) < (M : Int) := by omega
      have s1 : (0 : Int) ≤ (t : Int) := by omega
      have s2 : ((t : Int) + 1).toNat = t + 1 := by omega
      have s3 : (t : Int) + 1 < (M : Int) := by omega
      have s4 : (0 : Int) ≤ (t : Int) + 1 := by omega
      have s5 : IntKind.i64.wrap ((t : Int) + 1) = (t : Int) + 1 := IntWalk.i64_in _ (by omega)
      have cE : ∀ i, i < 2 * K → ∃ a, a = E.getD i 0 ∧ 0 ≤ a ∧ a ≤ 9 ∧ wr.cell? ⟨g3, i, none⟩ = some (.int .u8 a) := fun i hi => by
        have hm : E.getD i 0 ∈ E := by
          rw [List.getD_eq_getElem?_getD, List.getElem?_eq_getElem (by rw [HEL.out]; exact hi)]
          exact List.getElem_mem _
        exact ⟨_, rfl, (HED.out _ hm).1, (HED.out _ hm).2, hin i hi⟩
      obtain ⟨a, ha, a0, a1, ca⟩ := cE t (by omega)
      obtain ⟨b, hb, b0, b1, cb⟩ := cE (t + 1) (by omega)
      have hpj := HPA.out j hlt
      rw [← ht, ← ha, ← hb] at hpj
      have u1 : IntKind.u8.wrap (10 * a) = 10 * a := by rw [IntKind.wrap_u8]; omega
      have u2 : IntKind.u8.wrap (10 * a + b) = 10 * a + b := by rw [IntKind.wrap_u8]; omega
      have HTK := Lib.hid (take_snoc' pv j (by rw [HPL.out]; exact hlt))
      rw [hpj] at HTK
      obtain ⟨v1, w5, r1, r2, r3, r4, r5⟩ := app_far wr.drew hrow ((Kp.refl wr).drew) hkw.size (by omega) (10 * a + b) hin (by omega) hgn
      have HA := Lib.hid (show (Builtin.append_ #[26, 26] 26 #[v, .slice (some ⟨wr.heap.size, 0, none⟩) 1 1]).run Tryd.prog (wr.drew.alloc (.cells #[.int .u8 (10 * a + b)] 5)) = .ok v1 w5 from r1)
      have HA2 := Lib.hid (show BRow w5 w.heap.size v1 (j + 1) (pv.take (j + 1)) from by rw [HTK.out]; exact r2)
      have HA3 := Lib.hid (r3 w hkw (Nat.le_refl _))
      have HA4 := Lib.hid r4
      have HA5 := Lib.hid r5
      have HCC := Lib.hid (show w5.cell? ⟨g3, t, none⟩ = some (.int .u8 a) ∧ w5.cell? ⟨g3, t + 1, none⟩ = some (.int .u8 b) from ⟨by rw [ha]; exact r4 _ (by omega), by rw [hb]; exact r4 _ (by omega)⟩)
      have HLT := Lib.hid hlt
      have HTT := Lib.hid ht
      clear ht htM cE ha hb hpj hrow hkw hin hgn r1 r2 r3 r4 r5 hlt hj hjj
      go_wp2_with fail
      go_region_held3 (fun w' => w'.cell? ⟨g3, t, none⟩ = some (.int .u8 a) ∧ w'.cell? ⟨g3, t + 1, none⟩ = some (.int .u8 b)) (first | with_reducible exact HCC.out | go_keep)
        ((refine step_app (by rfl) _ _ _ _ (by rfl) _ _ (by rfl) (by rfl) _ _ HA.out ?_))
      all_goals
        go_wp2_with fail
        go_roundg (K - (j + 1))
        case measure => have := HLT.out; omega
        case rel => exact ⟨j + 1, v1, rfl, HLT.out, rfl, int_eq (by have := HTT.out; omega), HA2.out, HA3.out, HA4.out, HA5.out⟩
    · obtain rfl : j = K := by omega
      obtain ⟨wo, rfl⟩ : ∃ wo : World, wo = wr := ⟨_, rfl⟩
      have hjM : ((2 * j : Nat) : Int) = (M : Int) := by rw [HMK.out]
      obtain ⟨gp, cp, rfl, _, _, hinp⟩ := own_pos hrow (by omega)
      have HGP := Lib.hid (fun i (hi : i < j) => by
        have h := bin_cells hinp i hi
        rw [Nat.zero_add, List.take_of_length_le (by rw [HPL.out]; exact Nat.le_refl _)] at h
        exact h)
      have HPX := Lib.hid (fun i (hi : i < j) => (show 0 ≤ pv.getD i 0 ∧ pv.getD i 0 ≤ 99 from by
        have hm : ∀ r, r < 2 * j → 0 ≤ E.getD r 0 ∧ E.getD r 0 ≤ 9 := fun r hr => HED.out _ (by
          rw [List.getD_eq_getElem?_getD, List.getElem?_eq_getElem (by rw [HEL.out]; exact hr)]
          exact List.getElem_mem _)
        have h1 := hm (2 * i) (by omega)
        have h2 := hm (2 * i + 1) (by omega)
        have h3 := HPA.out i hi
        omega))
      rw [hjM]
      clear hrow hkw hin hgn hinp hlt hj hjj hjM
      go_upto_region 16 with (fail)
      (try rw [d0])
      cases neg
      · have w0 := own_new wo [193 + P] 5 (by simp [maxLen])
        have HW0 := Lib.hid w0
        clear w0
        go_wp2_with fail
        (try rw [d0])
        go_loopg [12, 72] j (fun G sa sb wr => ∃ (i : Nat) (u : Value), j - i = G ∧ i ≤ j ∧ u = sa ∧ sb = .int .i64 (i : Int) ∧ BRow wr wo.heap.size u (i + 1) ((193 + P) :: (pv.take i).map (enc false)) ∧ Kp wo wr)
        case atStart => exact ⟨0, _, rfl, Nat.zero_le _, rfl, rfl, HW0.out, (Kp.refl wo).alloc _⟩
        case round =>
        obtain ⟨i, u, rfl, hi, rfl, rfl, hq, hkq⟩ := hrel
        have HQ := Lib.hid hq
        have HKQ := Lib.hid hkq
        by_cases hlt : i < j
        · have n1 : (i : Int) < (j : Int) := by omega
          have hcx := below_some hkq (HGP.out i hlt)
          have hxr := HPX.out i hlt
          obtain ⟨x, hx⟩ : ∃ x, x = pv.getD i 0 := ⟨_, rfl⟩
          rw [← hx] at hcx hxr
          have x0 : 0 ≤ x := hxr.1
          have x1 : x ≤ 99 := hxr.2
          obtain ⟨v5, w5, r1, r2, r3, _⟩ := app_b wr hq (Kp.refl wr) hkq.size (by omega) (x + 1)
          have HA := Lib.hid r1
          have HA2 := Lib.hid (show BRow w5 wo.heap.size v5 (i + 1 + 1) ((193 + P) :: (pv.take (i + 1)).map (enc false)) from by
            rw [take_snoc' pv i (by rw [HPL.out]; exact hlt), ← hx, List.map_append]
            exact r2)
          have HA3 := Lib.hid (r3 wo hkq (Nat.le_refl _))
          have HLT := Lib.hid hlt
          clear r1 r2 r3 hxr hx hq hkq hlt hi
          go_wp2_with (at_builtin; refine Lib.wpList_append_run _ rfl _ _ _ _ rfl _ _ rfl rfl _ _ HA.out ?_)
          go_roundg (j - (i + 1))
          case measure => have := HLT.out; omega
          case rel => exact ⟨i + 1, v5, rfl, HLT.out, rfl, by go_num, HA2.out, HA3.out⟩
        obtain rfl : i = j := by omega
        clear hlt hi hq hkq
        go_wp2_with fail
        go_ret
        exact HPOST.out _ _ (by
          have h := own_base HQ.out HKW.out.size
          rw [List.take_of_length_le (by rw [HPL.out]; exact Nat.le_refl _)] at h
          have e1 : numB false P pv = (193 + P) :: pv.map (enc false) := by simp [numB]
          have e2 : (numB false P pv).length = i + 1 := by rw [e1, List.length_cons, List.length_map, HPL.out]
          rw [e2, e1]
          exact h) (HKW.out.trans HKQ.out)
      · have w0 := own_new wo [62 - P] 5 (by simp [maxLen])
        have HW0 := Lib.hid w0
        clear w0
        go_wp2_with fail
        (try rw [d0])
        go_loopg [15, 89] j (fun G sa sb wr => ∃ (i : Nat) (u : Value), j - i = G ∧ i ≤ j ∧ u = sa ∧ sb = .int .i64 (i : Int) ∧ BRow wr wo.heap.size u (i + 1) ((62 - P) :: (pv.take i).map (enc true)) ∧ Kp wo wr)
        case atStart => exact ⟨0, _, rfl, Nat.zero_le _, rfl, rfl, HW0.out, (Kp.refl wo).alloc _⟩
        case round =>
        obtain ⟨i, u, rfl, hi, rfl, rfl, hq, hkq⟩ := hrel
        have HQ := Lib.hid hq
        have HKQ := Lib.hid hkq
        by_cases hlt : i < j
        · have n1 : (i : Int) < (j : Int) := by omega
          have hcx := below_some hkq (HGP.out i hlt)
          have hxr := HPX.out i hlt
          obtain ⟨x, hx⟩ : ∃ x, x = pv.getD i 0 := ⟨_, rfl⟩
          rw [← hx] at hcx hxr
          have x0 : 0 ≤ x := hxr.1
          have x1 : x ≤ 99 := hxr.2
          obtain ⟨v5, w5, r1, r2, r3, _⟩ := app_b wr hq (Kp.refl wr) hkq.size (by omega) (101 - x)
          have HA := Lib.hid r1
          have HA2 := Lib.hid (show BRow w5 wo.heap.size v5 (i + 1 + 1) ((62 - P) :: (pv.take (i + 1)).map (enc true)) from by
            rw [take_snoc' pv i (by rw [HPL.out]; exact hlt), ← hx, List.map_append]
            exact r2)
          have HA3 := Lib.hid (r3 wo hkq (Nat.le_refl _))
          have HLT := Lib.hid hlt
          clear r1 r2 r3 hxr hx hq hkq hlt hi
          go_wp2_with (at_builtin; refine Lib.wpList_append_run _ rfl _ _ _ _ rfl _ _ rfl rfl _ _ HA.out ?_)
          go_roundg (j - (i + 1))
          case measure => have := HLT.out; omega
          case rel => exact ⟨i + 1, v5, rfl, HLT.out, rfl, by go_num, HA2.out, HA3.out⟩
        obtain rfl : i = j := by omega
        clear hlt hi hq hkq
        by_cases h20 : i < 20
        · have n20 : (i : Int) < 20 := by omega
          obtain ⟨v5, w5, r1, r2, r3, _⟩ := app_b wr HQ.out (Kp.refl wr) HKQ.out.size (by omega) 102
          have HA := Lib.hid r1
          have HA2 := Lib.hid r2
          have HA3 := Lib.hid (r3 wo HKQ.out (Nat.le_refl _))
          have H20 := Lib.hid h20
          clear r1 r2 r3 h20
          go_wp2_with (at_builtin; refine Lib.wpList_append_run _ rfl _ _ _ _ rfl _ _ rfl rfl _ _ HA.out ?_)
          go_ret
          exact HPOST.out _ _ (by
            have h := own_base HA2.out HKW.out.size
            rw [List.take_of_length_le (by rw [HPL.out]; exact Nat.le_refl _)] at h
            have e1 : numB true P pv = (62 - P) :: pv.map (enc true) ++ [102] := by simp [numB, HPL.out, H20.out]
            have e2 : (numB true P pv).length = i + 1 + 1 := by rw [e1, List.length_append, List.length_cons, List.length_map, HPL.out]; rfl
            rw [e2, e1]
            exact h) (HKW.out.trans HA3.out)
        · have n20 : ¬ (i : Int) < 20 := by omega
          have H20 := Lib.hid h20
          clear h20
          go_wp2_with fail
          go_ret
          exact HPOST.out _ _ (by
            have h := own_base HQ.out HKW.out.size
            rw [List.take_of_length_le (by rw [HPL.out]; exact Nat.le_refl _)] at h
            have e1 : numB true P pv = (62 - P) :: pv.map (enc true) := by simp [numB, HPL.out, H20.out]
            have e2 : (numB true P pv).length = i + 1 := by rw [e1, List.length_cons, List.length_map, HPL.out]
            rw [e2, e1]
            exact h) (HKW.out.trans HKQ.out)
set_option maxRecDepth 100000 in
set_option maxHeartbeats 4000000 in
theorem nb_even_neg0 (p : Option Addr) (n c K : Nat) (ds : List Int) (neg : Bool) (e P : Int) (w : World) (hi : Lib.BytesIn w p n ds) (hx : ds.length = n) (hn : 1 ≤ n) (hn2 : n ≤ 40) (hd : ∀ x ∈ ds, 0 ≤ x ∧ x ≤ 9) (he0 : -100 ≤ e) (he1 : e ≤ 100) (hP : P = e / 2) (hpar : e % 2 = 0) (hsg : e < 0) (hlen : (1 + n) % 2 = 0) (hK : (1 + n) = 2 * K) :
    Calls Tryd.prog 26 #[.slice p n c, .bool neg, .int .i64 e] w (NbPost neg P (prV ((0 :: ds))) w) := by
  have m0 : (e.tmod 2 == 0) = true := by
    rw [tmod2_neg e hsg]; simp; omega
  have d0 : (e).tdiv 2 = P := by
    have h2 := Int.tdiv_mul_add_tmod e 2 ; have h3 := tmod2_neg e hsg; omega
  have q0 : -50 ≤ P := by omega
  have q1 : P ≤ 50 := by omega
  have i0 : (1 : Int) ≤ (n : Int) := by omega
  have i1 : (n : Int) ≤ 40 := by omega
  have z0 : ((n : Int) == 0) = false := by simp; omega
  obtain ⟨g1, c1, w1, hr1, ho1, k1⟩ := nb_rows (w.alloc (.cells #[] 5)) p n c ds (bin_alloc hi _) hx hn (by omega)
  have HR1 := Lib.hid (show (Builtin.append_ #[26, 26] 26 #[.slice (some ⟨w.heap.size + 1, 0, none⟩) 0 0, .slice p n c]).run Tryd.prog ((w.alloc (.cells #[] 5)).alloc (.cells #[] 5)) = .ok (.slice (some ⟨g1, 0, none⟩) n c1) w1 from by rw [← Array.size_push] ; exact hr1)
  obtain ⟨g2, c2, w2, hr2, ho2, k2⟩ := nb_ahead w1 g1 c1 n ds (bin_of_own ho1) hx (by omega)
  have HR2 := Lib.hid hr2
  have HK3 := Lib.hid (show Kp w w2 from ((Kp.refl w).alloc _).trans (k1.trans k2))
  have HP0 := Lib.hid (show BRow w2 w.heap.size (.slice (some ⟨w.heap.size, 0, none⟩) 0 0) 0 [] from own_below (own_new w [] _ (by simp [maxLen])) (k1.trans k2))
  have HROW := Lib.hid ho2
  obtain ⟨_, _, hv3, hc3, hm3, hin3⟩ := own_pos ho2 (by omega)
  injection hv3 with e1 e2 e3
  injection e1 with e1
  injection e1 with e1
  subst e1 e3
  obtain ⟨E, hE⟩ : ∃ E, E = (0 :: ds) := ⟨_, rfl⟩
  rw [← hE] at hin3 ⊢
  have hEl : E.length = 2 * K := by rw [hE, ← hK]; simp [hx]; omega
  have hEd : ∀ x ∈ E, 0 ≤ x ∧ x ≤ 9 := fun x hm => by
    rw [hE] at hm
    simp only [List.mem_cons] at hm
    have h0 : x = 0 ∨ x ∈ ds := by
      rcases hm with h | h
      · exact .inl h
      · exact .inr h
    rcases h0 with rfl | h0
    · omega
    · exact hd x h0
  rw [show (1 + n) = 2 * K from hK] at hin3 hc3
  have HIN := Lib.hid (fun i (hi : i < 2 * K) => by
    have h := bin_cells hin3 i hi
    rw [Nat.zero_add] at h
    exact h)
  have HGN := Lib.hid (show (Value.slice (some ⟨w.heap.size, 0, none⟩) 0 0).ownBlock ≠ some g2 from fun he => by
    have he2 : w.heap.size = g2 := Option.some.inj he
    have h1 := own_lt HROW.out
    have h2 : (w.alloc (.cells #[] 5)).heap.size = w.heap.size + 1 := Array.size_push _
    have h3 := k1.size
    omega)
  have HED := Lib.hid hEd
  have HEL := Lib.hid hEl
  have hpl := prV_length E K hEl
  have HPA := Lib.hid (fun j (hj : j < K) => prV_at E j (by rw [hEl]; omega))
  obtain ⟨pv, hpv⟩ : ∃ pv, pv = prV E := ⟨_, rfl⟩
  rw [← hpv] at hpl HPA ⊢
  have HPL := Lib.hid hpl
  have HPOST := Lib.hid (fun w' v (h : BRow w' w.heap.size v (numB neg P pv).length (numB neg P pv)) (hk : Kp w w') => (show NbPost neg P pv w (.returned v) w' from ⟨v, rfl, h, hk⟩))
  have kk : (((1 + n) : Nat) : Int) = 2 * (K : Int) := by rw [hK]; omega
  have kb : (K : Int) ≤ 21 := by omega
  have k1' : (1 : Int) ≤ (K : Int) := by omega
  have hl0 : ((1 + (n : Int) % 2) == 1) = false := by
    simp
    omega
  have KK := Lib.hid hK
  clear hi hx hn hn2 hd hP hpar hlen hK hin3 hE hEl hEd hpl hpv hm3 kk ho1 k1 hr1 hr2 ho2 k2
  go_enter Tryd.func26, Tryd.ntmps26
  go_upto_region 5 with (at_builtin; refine Lib.wpList_append_run _ rfl _ _ _ _ rfl _ _ rfl rfl _ _ HR1.out ?_)
  go_upto_region 9 with (at_builtin; refine Lib.wpList_append_run _ rfl _ _ _ _ rfl _ _ rfl rfl _ _ HR2.out ?_)
  go_wp2_with fail
  obtain ⟨M, hM⟩ : ∃ M, M = 2 * K := ⟨_, rfl⟩
  rw [KK.out, ← hM]
  have HMK := Lib.hid hM
  have mb : (M : Int) ≤ 42 := by omega
  clear hM
  go_loopg [7, 10] K (fun G s7 s10 wr => ∃ (j : Nat) (v : Value), K - j = G ∧ j ≤ K ∧ v = s7 ∧ s10 = .int .i64 ((2 * j : Nat) : Int) ∧ BRow wr w.heap.size v j (pv.take j) ∧ Kp w wr ∧ (∀ i, i < 2 * K → wr.cell? ⟨g2, i, none⟩ = some (.int .u8 (E.getD i 0))) ∧ v.ownBlock ≠ some g2)
  case atStart => exact ⟨0, _, rfl, Nat.zero_le _, rfl, rfl, HP0.out, HK3.out, HIN.out, HGN.out⟩
  case round =>
    obtain ⟨j, v, rfl, hj, rfl, rfl, hrow, hkw, hin, hgn⟩ := hrel
    have HR := Lib.hid hrow
    have HKW := Lib.hid hkw
    have hjj := hj
    by_cases hlt : j < K
    · obtain ⟨t, ht⟩ : ∃ t, t = 2 * j := ⟨_, rfl⟩
      rw [← ht]
      have htM : t + 1 < M := by have := HMK.out; omega
      have s0 : (t : Int) < (M : Int) := by omega
      have s1 : (0 : Int) ≤ (t : Int) := by omega
      have s2 : ((t : Int) + 1).toNat = t + 1 := by omega
      have s3 : (t : Int) + 1 < (M : Int) := by omega
      have s4 : (0 : Int) ≤ (t : Int) + 1 := by omega
      have s5 : IntKind.i64.wrap ((t : Int) + 1) = (t : Int) + 1 := IntWalk.i64_in _ (by omega)
      have cE : ∀ i, i < 2 * K → ∃ a, a = E.getD i 0 ∧ 0 ≤ a ∧ a ≤ 9 ∧ wr.cell? ⟨g2, i, none⟩ = some (.int .u8 a) := fun i hi => by
        have hm : E.getD i 0 ∈ E := by
          rw [List.getD_eq_getElem?_getD, List.getElem?_eq_getElem (by rw [HEL.out]; exact hi)]
          exact List.getElem_mem _
        exact ⟨_, rfl, (HED.out _ hm).1, (HED.out _ hm).2, hin i hi⟩
      obtain ⟨a, ha, a0, a1, ca⟩ := cE t (by omega)
      obtain ⟨b, hb, b0, b1, cb⟩ := cE (t + 1) (by omega)
      have hpj := HPA.out j hlt
      rw [← ht, ← ha, ← hb] at hpj
      have u1 : IntKind.u8.wrap (10 * a) = 10 * a := by rw [IntKind.wrap_u8]; omega
      have u2 : IntKind.u8.wrap (10 * a + b) = 10 * a + b := by rw [IntKind.wrap_u8]; omega
      have HTK := Lib.hid (take_snoc' pv j (by rw [HPL.out]; exact hlt))
      rw [hpj] at HTK
      obtain ⟨v1, w5, r1, r2, r3, r4, r5⟩ := app_far wr.drew hrow ((Kp.refl wr).drew) hkw.size (by omega) (10 * a + b) hin (by omega) hgn
      have HA := Lib.hid (show (Builtin.append_ #[26, 26] 26 #[v, .slice (some ⟨wr.heap.size, 0, none⟩) 1 1]).run Tryd.prog (wr.drew.alloc (.cells #[.int .u8 (10 * a + b)] 5)) = .ok v1 w5 from r1)
      have HA2 := Lib.hid (show BRow w5 w.heap.size v1 (j + 1) (pv.take (j + 1)) from by rw [HTK.out]; exact r2)
      have HA3 := Lib.hid (r3 w hkw (Nat.le_refl _))
      have HA4 := Lib.hid r4
      have HA5 := Lib.hid r5
      have HCC := Lib.hid (show w5.cell? ⟨g2, t, none⟩ = some (.int .u8 a) ∧ w5.cell? ⟨g2, t + 1, none⟩ = some (.int .u8 b) from ⟨by rw [ha]; exact r4 _ (by omega), by rw [hb]; exact r4 _ (by omega)⟩)
      have HLT := Lib.hid hlt
      have HTT := Lib.hid ht
      clear ht htM cE ha hb hpj hrow hkw hin hgn r1 r2 r3 r4 r5 hlt hj hjj
      go_wp2_with fail
      go_region_held3 (fun w' => w'.cell? ⟨g2, t, none⟩ = some (.int .u8 a) ∧ w'.cell? ⟨g2, t + 1, none⟩ = some (.int .u8 b)) (first | with_reducible exact HCC.out | go_keep)
        ((refine step_app (by rfl) _ _ _ _ (by rfl) _ _ (by rfl) (by rfl) _ _ HA.out ?_))
      all_goals
        go_wp2_with fail
        go_roundg (K - (j + 1))
        case measure => have := HLT.out; omega
        case rel => exact ⟨j + 1, v1, rfl, HLT.out, rfl, int_eq (by have := HTT.out; omega), HA2.out, HA3.out, HA4.out, HA5.out⟩
    · obtain rfl : j = K := by omega
      obtain ⟨wo, rfl⟩ : ∃ wo : World, wo = wr := ⟨_, rfl⟩
      have hjM : ((2 * j : Nat) : Int) = (M : Int) := by rw [HMK.out]
      obtain ⟨gp, cp, rfl, _, _, hinp⟩ := own_pos hrow (by omega)
      have HGP := Lib.hid (fun i (hi : i < j) => by
        have h := bin_cells hinp i hi
        rw [Nat.zero_add, List.take_of_length_le (by rw [HPL.out]; exact Nat.le_refl _)] at h
        exact h)
      have HPX := Lib.hid (fun i (hi : i < j) => (show 0 ≤ pv.getD i 0 ∧ pv.getD i 0 ≤ 99 from by
        have hm : ∀ r, r < 2 * j → 0 ≤ E.getD r 0 ∧ E.getD r 0 ≤ 9 := fun r hr => HED.out _ (by
          rw [List.getD_eq_getElem?_getD, List.getElem?_eq_getElem (by rw [HEL.out]; exact hr)]
          exact List.getElem_mem _)
        have h1 := hm (2 * i) (by omega)
        have h2 := hm (2 * i + 1) (by omega)
        have h3 := HPA.out i hi
        omega))
      rw [hjM]
      clear hrow hkw hin hgn hinp hlt hj hjj hjM
      go_upto_region 16 with (fail)
      (try rw [d0])
      cases neg
      · have w0 := own_new wo [193 + P] 5 (by simp [maxLen])
        have HW0 := Lib.hid w0
        clear w0
        go_wp2_with fail
        (try rw [d0])
        go_loopg [12, 72] j (fun G sa sb wr => ∃ (i : Nat) (u : Value), j - i = G ∧ i ≤ j ∧ u = sa ∧ sb = .int .i64 (i : Int) ∧ BRow wr wo.heap.size u (i + 1) ((193 + P) :: (pv.take i).map (enc false)) ∧ Kp wo wr)
        case atStart => exact ⟨0, _, rfl, Nat.zero_le _, rfl, rfl, HW0.out, (Kp.refl wo).alloc _⟩
        case round =>
        obtain ⟨i, u, rfl, hi, rfl, rfl, hq, hkq⟩ := hrel
        have HQ := Lib.hid hq
        have HKQ := Lib.hid hkq
        by_cases hlt : i < j
        · have n1 : (i : Int) < (j : Int) := by omega
          have hcx := below_some hkq (HGP.out i hlt)
          have hxr := HPX.out i hlt
          obtain ⟨x, hx⟩ : ∃ x, x = pv.getD i 0 := ⟨_, rfl⟩
          rw [← hx] at hcx hxr
          have x0 : 0 ≤ x := hxr.1
          have x1 : x ≤ 99 := hxr.2
          obtain ⟨v5, w5, r1, r2, r3, _⟩ := app_b wr hq (Kp.refl wr) hkq.size (by omega) (x + 1)
          have HA := Lib.hid r1
          have HA2 := Lib.hid (show BRow w5 wo.heap.size v5 (i + 1 + 1) ((193 + P) :: (pv.take (i + 1)).map (enc false)) from by
            rw [take_snoc' pv i (by rw [HPL.out]; exact hlt), ← hx, List.map_append]
            exact r2)
          have HA3 := Lib.hid (r3 wo hkq (Nat.le_refl _))
          have HLT := Lib.hid hlt
          clear r1 r2 r3 hxr hx hq hkq hlt hi
          go_wp2_with (at_builtin; refine Lib.wpList_append_run _ rfl _ _ _ _ rfl _ _ rfl rfl _ _ HA.out ?_)
          go_roundg (j - (i + 1))
          case measure => have := HLT.out; omega
          case rel => exact ⟨i + 1, v5, rfl, HLT.out, rfl, by go_num, HA2.out, HA3.out⟩
        obtain rfl : i = j := by omega
        clear hlt hi hq hkq
        go_wp2_with fail
        go_ret
        exact HPOST.out _ _ (by
          have h := own_base HQ.out HKW.out.size
          rw [List.take_of_length_le (by rw [HPL.out]; exact Nat.le_refl _)] at h
          have e1 : numB false P pv = (193 + P) :: pv.map (enc false) := by simp [numB]
          have e2 : (numB false P pv).length = i + 1 := by rw [e1, List.length_cons, List.length_map, HPL.out]
          rw [e2, e1]
          exact h) (HKW.out.trans HKQ.out)
      · have w0 := own_new wo [62 - P] 5 (by simp [maxLen])
        have HW0 := Lib.hid w0
        clear w0
        go_wp2_with fail
        (try rw [d0])
        go_loopg [15, 89] j (fun G sa sb wr => ∃ (i : Nat) (u : Value), j - i = G ∧ i ≤ j ∧ u = sa ∧ sb = .int .i64 (i : Int) ∧ BRow wr wo.heap.size u (i + 1) ((62 - P) :: (pv.take i).map (enc true)) ∧ Kp wo wr)
        case atStart => exact ⟨0, _, rfl, Nat.zero_le _, rfl, rfl, HW0.out, (Kp.refl wo).alloc _⟩
        case round =>
        obtain ⟨i, u, rfl, hi, rfl, rfl, hq, hkq⟩ := hrel
        have HQ := Lib.hid hq
        have HKQ := Lib.hid hkq
        by_cases hlt : i < j
        · have n1 : (i : Int) < (j : Int) := by omega
          have hcx := below_some hkq (HGP.out i hlt)
          have hxr := HPX.out i hlt
          obtain ⟨x, hx⟩ : ∃ x, x = pv.getD i 0 := ⟨_, rfl⟩
          rw [← hx] at hcx hxr
          have x0 : 0 ≤ x := hxr.1
          have x1 : x ≤ 99 := hxr.2
          obtain ⟨v5, w5, r1, r2, r3, _⟩ := app_b wr hq (Kp.refl wr) hkq.size (by omega) (101 - x)
          have HA := Lib.hid r1
          have HA2 := Lib.hid (show BRow w5 wo.heap.size v5 (i + 1 + 1) ((62 - P) :: (pv.take (i + 1)).map (enc true)) from by
            rw [take_snoc' pv i (by rw [HPL.out]; exact hlt), ← hx, List.map_append]
            exact r2)
          have HA3 := Lib.hid (r3 wo hkq (Nat.le_refl _))
          have HLT := Lib.hid hlt
          clear r1 r2 r3 hxr hx hq hkq hlt hi
          go_wp2_with (at_builtin; refine Lib.wpList_append_run _ rfl _ _ _ _ rfl _ _ rfl rfl _ _ HA.out ?_)
          go_roundg (j - (i + 1))
          case measure => have := HLT.out; omega
          case rel => exact ⟨i + 1, v5, rfl, HLT.out, rfl, by go_num, HA2.out, HA3.out⟩
        obtain rfl : i = j := by omega
        clear hlt hi hq hkq
        by_cases h20 : i < 20
        · have n20 : (i : Int) < 20 := by omega
          obtain ⟨v5, w5, r1, r2, r3, _⟩ := app_b wr HQ.out (Kp.refl wr) HKQ.out.size (by omega) 102
          have HA := Lib.hid r1
          have HA2 := Lib.hid r2
          have HA3 := Lib.hid (r3 wo HKQ.out (Nat.le_refl _))
          have H20 := Lib.hid h20
          clear r1 r2 r3 h20
          go_wp2_with (at_builtin; refine Lib.wpList_append_run _ rfl _ _ _ _ rfl _ _ rfl rfl _ _ HA.out ?_)
          go_ret
          exact HPOST.out _ _ (by
            have h := own_base HA2.out HKW.out.size
            rw [List.take_of_length_le (by rw [HPL.out]; exact Nat.le_refl _)] at h
            have e1 : numB true P pv = (62 - P) :: pv.map (enc true) ++ [102] := by simp [numB, HPL.out, H20.out]
            have e2 : (numB true P pv).length = i + 1 + 1 := by rw [e1, List.length_append, List.length_cons, List.length_map, HPL.out]; rfl
            rw [e2, e1]
            exact h) (HKW.out.trans HA3.out)
        · have n20 : ¬ (i : Int) < 20 := by omega
          have H20 := Lib.hid h20
          clear h20
          go_wp2_with fail
          go_ret
          exact HPOST.out _ _ (by
            have h := own_base HQ.out HKW.out.size
            rw [List.take_of_length_le (by rw [HPL.out]; exact Nat.le_refl _)] at h
            have e1 : numB true P pv = (62 - P) :: pv.map (enc true) := by simp [numB, HPL.out, H20.out]
            have e2 : (numB true P pv).length = i + 1 := by rw [e1, List.length_cons, List.length_map, HPL.out]
            rw [e2, e1]
            exact h) (HKW.out.trans HKQ.out)
set_option maxRecDepth 100000 in
set_option maxHeartbeats 4000000 in
theorem nb_even_neg1 (p : Option Addr) (n c K : Nat) (ds : List Int) (neg : Bool) (e P : Int) (w : World) (hi : Lib.BytesIn w p n ds) (hx : ds.length = n) (hn : 1 ≤ n) (hn2 : n ≤ 40) (hd : ∀ x ∈ ds, 0 ≤ x ∧ x ≤ 9) (he0 : -100 ≤ e) (he1 : e ≤ 100) (hP : P = e / 2) (hpar : e % 2 = 0) (hsg : e < 0) (hlen : (1 + n) % 2 = 1) (hK : (1 + n) + 1 = 2 * K) :
    Calls Tryd.prog 26 #[.slice p n c, .bool neg, .int .i64 e] w (NbPost neg P (prV ((0 :: ds) ++ [0])) w) := by
  have m0 : (e.tmod 2 == 0) = true := by
    rw [tmod2_neg e hsg]; simp; omega
  have d0 : (e).tdiv 2 = P := by
    have h2 := Int.tdiv_mul_add_tmod e 2 ; have h3 := tmod2_neg e hsg; omega
  have q0 : -50 ≤ P := by omega
  have q1 : P ≤ 50 := by omega
  have i0 : (1 : Int) ≤ (n : Int) := by omega
  have i1 : (n : Int) ≤ 40 := by omega
  have z0 : ((n : Int) == 0) = false := by simp; omega
  obtain ⟨g1, c1, w1, hr1, ho1, k1⟩ := nb_rows (w.alloc (.cells #[] 5)) p n c ds (bin_alloc hi _) hx hn (by omega)
  have HR1 := Lib.hid (show (Builtin.append_ #[26, 26] 26 #[.slice (some ⟨w.heap.size + 1, 0, none⟩) 0 0, .slice p n c]).run Tryd.prog ((w.alloc (.cells #[] 5)).alloc (.cells #[] 5)) = .ok (.slice (some ⟨g1, 0, none⟩) n c1) w1 from by rw [← Array.size_push] ; exact hr1)
  obtain ⟨g2, c2, w2, hr2, ho2, k2⟩ := nb_ahead w1 g1 c1 n ds (bin_of_own ho1) hx (by omega)
  have HR2 := Lib.hid hr2
  obtain ⟨g3, c3, w3, hr3, ho3, k3⟩ := nb_behind w1 w2 g2 c2 (1 + n) (0 :: ds) ho2 k2 (by omega)
  have HR3 := Lib.hid hr3
  have HK3 := Lib.hid (show Kp w w3 from ((Kp.refl w).alloc _).trans (k1.trans k3))
  have HP0 := Lib.hid (show BRow w3 w.heap.size (.slice (some ⟨w.heap.size, 0, none⟩) 0 0) 0 [] from own_below (own_new w [] _ (by simp [maxLen])) (k1.trans k3))
  have HROW := Lib.hid ho3
  obtain ⟨_, _, hv3, hc3, hm3, hin3⟩ := own_pos ho3 (by omega)
  injection hv3 with e1 e2 e3
  injection e1 with e1
  injection e1 with e1
  subst e1 e3
  obtain ⟨E, hE⟩ : ∃ E, E = (0 :: ds) ++ [0] := ⟨_, rfl⟩
  rw [← hE] at hin3 ⊢
  have hEl : E.length = 2 * K := by rw [hE, ← hK]; simp [hx]; omega
  have hEd : ∀ x ∈ E, 0 ≤ x ∧ x ≤ 9 := fun x hm => by
    rw [hE] at hm
    simp only [List.cons_append, List.mem_cons, List.mem_append, List.not_mem_nil, or_false] at hm
    have h0 : x = 0 ∨ x ∈ ds := by
      rcases hm with h | h | h
      · exact .inl h
      · exact .inr h
      · exact .inl h
    rcases h0 with rfl | h0
    · omega
    · exact hd x h0
  rw [show (1 + n) + 1 = 2 * K from hK] at hin3 hc3
  have HIN := Lib.hid (fun i (hi : i < 2 * K) => by
    have h := bin_cells hin3 i hi
    rw [Nat.zero_add] at h
    exact h)
  have HGN := Lib.hid (show (Value.slice (some ⟨w.heap.size, 0, none⟩) 0 0).ownBlock ≠ some g3 from fun he => by
    have he2 : w.heap.size = g3 := Option.some.inj he
    have h1 := own_lt HROW.out
    have h2 : (w.alloc (.cells #[] 5)).heap.size = w.heap.size + 1 := Array.size_push _
    have h3 := k1.size
    omega)
  have HED := Lib.hid hEd
  have HEL := Lib.hid hEl
  have hpl := prV_length E K hEl
  have HPA := Lib.hid (fun j (hj : j < K) => prV_at E j (by rw [hEl]; omega))
  obtain ⟨pv, hpv⟩ : ∃ pv, pv = prV E := ⟨_, rfl⟩
  rw [← hpv] at hpl HPA ⊢
  have HPL := Lib.hid hpl
  have HPOST := Lib.hid (fun w' v (h : BRow w' w.heap.size v (numB neg P pv).length (numB neg P pv)) (hk : Kp w w') => (show NbPost neg P pv w (.returned v) w' from ⟨v, rfl, h, hk⟩))
  have kk : (((1 + n) + 1 : Nat) : Int) = 2 * (K : Int) := by rw [hK]; omega
  have kb : (K : Int) ≤ 21 := by omega
  have k1' : (1 : Int) ≤ (K : Int) := by omega
  have hl0 : ((1 + (n : Int) % 2) == 1) = true := by
    simp
    omega
  have KK := Lib.hid hK
  clear hi hx hn hn2 hd hP hpar hlen hK hin3 hE hEl hEd hpl hpv hm3 kk ho1 k1 hr1 hr2 ho2 k2 hr3 ho3 k3
  go_enter Tryd.func26, Tryd.ntmps26
  go_upto_region 5 with (at_builtin; refine Lib.wpList_append_run _ rfl _ _ _ _ rfl _ _ rfl rfl _ _ HR1.out ?_)
  go_upto_region 9 with (at_builtin; refine Lib.wpList_append_run _ rfl _ _ _ _ rfl _ _ rfl rfl _ _ HR2.out ?_)
  go_upto_region 11 with (at_builtin; refine Lib.wpList_append_run _ rfl _ _ _ _ rfl _ _ rfl rfl _ _ HR3.out ?_)
  go_wp2_with fail
  obtain ⟨M, hM⟩ : ∃ M, M = 2 * K := ⟨_, rfl⟩
  rw [KK.out, ← hM]
  have HMK := Lib.hid hM
  have mb : (M : Int) ≤ 42 := by omega
  clear hM
  go_loopg [7, 10] K (fun G s7 s10 wr => ∃ (j : Nat) (v : Value), K - j = G ∧ j ≤ K ∧ v = s7 ∧ s10 = .int .i64 ((2 * j : Nat) : Int) ∧ BRow wr w.heap.size v j (pv.take j) ∧ Kp w wr ∧ (∀ i, i < 2 * K → wr.cell? ⟨g3, i, none⟩ = some (.int .u8 (E.getD i 0))) ∧ v.ownBlock ≠ some g3)
  case atStart => exact ⟨0, _, rfl, Nat.zero_le _, rfl, rfl, HP0.out, HK3.out, HIN.out, HGN.out⟩
  case round =>
    obtain ⟨j, v, rfl, hj, rfl, rfl, hrow, hkw, hin, hgn⟩ := hrel
    have HR := Lib.hid hrow
    have HKW := Lib.hid hkw
    have hjj := hj
    by_cases hlt : j < K
    · obtain ⟨t, ht⟩ : ∃ t, t = 2 * j := ⟨_, rfl⟩
      rw [← ht]
      have htM : t + 1 < M := by have := HMK.out; omega
      have s0 : (t : Int) < (M : Int) := by omega
      have s1 : (0 : Int) ≤ (t : Int) := by omega
      have s2 : ((t : Int) + 1).toNat = t + 1 := by omega
      have s3 : (t : Int) + 1 < (M : Int) := by omega
      have s4 : (0 : Int) ≤ (t : Int) + 1 := by omega
      have s5 : IntKind.i64.wrap ((t : Int) + 1) = (t : Int) + 1 := IntWalk.i64_in _ (by omega)
      have cE : ∀ i, i < 2 * K → ∃ a, a = E.getD i 0 ∧ 0 ≤ a ∧ a ≤ 9 ∧ wr.cell? ⟨g3, i, none⟩ = some (.int .u8 a) := fun i hi => by
        have hm : E.getD i 0 ∈ E := by
          rw [List.getD_eq_getElem?_getD, List.getElem?_eq_getElem (by rw [HEL.out]; exact hi)]
          exact List.getElem_mem _
        exact ⟨_, rfl, (HED.out _ hm).1, (HED.out _ hm).2, hin i hi⟩
      obtain ⟨a, ha, a0, a1, ca⟩ := cE t (by omega)
      obtain ⟨b, hb, b0, b1, cb⟩ := cE (t + 1) (by omega)
      have hpj := HPA.out j hlt
      rw [← ht, ← ha, ← hb] at hpj
      have u1 : IntKind.u8.wrap (10 * a) = 10 * a := by rw [IntKind.wrap_u8]; omega
      have u2 : IntKind.u8.wrap (10 * a + b) = 10 * a + b := by rw [IntKind.wrap_u8]; omega
      have HTK := Lib.hid (take_snoc' pv j (by rw [HPL.out]; exact hlt))
      rw [hpj] at HTK
      obtain ⟨v1, w5, r1, r2, r3, r4, r5⟩ := app_far wr.drew hrow ((Kp.refl wr).drew) hkw.size (by omega) (10 * a + b) hin (by omega) hgn
      have HA := Lib.hid (show (Builtin.append_ #[26, 26] 26 #[v, .slice (some ⟨wr.heap.size, 0, none⟩) 1 1]).run Tryd.prog (wr.drew.alloc (.cells #[.int .u8 (10 * a + b)] 5)) = .ok v1 w5 from r1)
      have HA2 := Lib.hid (show BRow w5 w.heap.size v1 (j + 1) (pv.take (j + 1)) from by rw [HTK.out]; exact r2)
      have HA3 := Lib.hid (r3 w hkw (Nat.le_refl _))
      have HA4 := Lib.hid r4
      have HA5 := Lib.hid r5
      have HCC := Lib.hid (show w5.cell? ⟨g3, t, none⟩ = some (.int .u8 a) ∧ w5.cell? ⟨g3, t + 1, none⟩ = some (.int .u8 b) from ⟨by rw [ha]; exact r4 _ (by omega), by rw [hb]; exact r4 _ (by omega)⟩)
      have HLT := Lib.hid hlt
      have HTT := Lib.hid ht
      clear ht htM cE ha hb hpj hrow hkw hin hgn r1 r2 r3 r4 r5 hlt hj hjj
      go_wp2_with fail
      go_region_held3 (fun w' => w'.cell? ⟨g3, t, none⟩ = some (.int .u8 a) ∧ w'.cell? ⟨g3, t + 1, none⟩ = some (.int .u8 b)) (first | with_reducible exact HCC.out | go_keep)
        ((refine step_app (by rfl) _ _ _ _ (by rfl) _ _ (by rfl) (by rfl) _ _ HA.out ?_))
      all_goals
        go_wp2_with fail
        go_roundg (K - (j + 1))
        case measure => have := HLT.out; omega
        case rel => exact ⟨j + 1, v1, rfl, HLT.out, rfl, int_eq (by have := HTT.out; omega), HA2.out, HA3.out, HA4.out, HA5.out⟩
    · obtain rfl : j = K := by omega
      obtain ⟨wo, rfl⟩ : ∃ wo : World, wo = wr := ⟨_, rfl⟩
      have hjM : ((2 * j : Nat) : Int) = (M : Int) := by rw [HMK.out]
      obtain ⟨gp, cp, rfl, _, _, hinp⟩ := own_pos hrow (by omega)
      have HGP := Lib.hid (fun i (hi : i < j) => by
        have h := bin_cells hinp i hi
        rw [Nat.zero_add, List.take_of_length_le (by rw [HPL.out]; exact Nat.le_refl _)] at h
        exact h)
      have HPX := Lib.hid (fun i (hi : i < j) => (show 0 ≤ pv.getD i 0 ∧ pv.getD i 0 ≤ 99 from by
        have hm : ∀ r, r < 2 * j → 0 ≤ E.getD r 0 ∧ E.getD r 0 ≤ 9 := fun r hr => HED.out _ (by
          rw [List.getD_eq_getElem?_getD, List.getElem?_eq_getElem (by rw [HEL.out]; exact hr)]
          exact List.getElem_mem _)
        have h1 := hm (2 * i) (by omega)
        have h2 := hm (2 * i + 1) (by omega)
        have h3 := HPA.out i hi
        omega))
      rw [hjM]
      clear hrow hkw hin hgn hinp hlt hj hjj hjM
      go_upto_region 16 with (fail)
      (try rw [d0])
      cases neg
      · have w0 := own_new wo [193 + P] 5 (by simp [maxLen])
        have HW0 := Lib.hid w0
        clear w0
        go_wp2_with fail
        (try rw [d0])
        go_loopg [12, 72] j (fun G sa sb wr => ∃ (i : Nat) (u : Value), j - i = G ∧ i ≤ j ∧ u = sa ∧ sb = .int .i64 (i : Int) ∧ BRow wr wo.heap.size u (i + 1) ((193 + P) :: (pv.take i).map (enc false)) ∧ Kp wo wr)
        case atStart => exact ⟨0, _, rfl, Nat.zero_le _, rfl, rfl, HW0.out, (Kp.refl wo).alloc _⟩
        case round =>
        obtain ⟨i, u, rfl, hi, rfl, rfl, hq, hkq⟩ := hrel
        have HQ := Lib.hid hq
        have HKQ := Lib.hid hkq
        by_cases hlt : i < j
        · have n1 : (i : Int) < (j : Int) := by omega
          have hcx := below_some hkq (HGP.out i hlt)
          have hxr := HPX.out i hlt
          obtain ⟨x, hx⟩ : ∃ x, x = pv.getD i 0 := ⟨_, rfl⟩
          rw [← hx] at hcx hxr
          have x0 : 0 ≤ x := hxr.1
          have x1 : x ≤ 99 := hxr.2
          obtain ⟨v5, w5, r1, r2, r3, _⟩ := app_b wr hq (Kp.refl wr) hkq.size (by omega) (x + 1)
          have HA := Lib.hid r1
          have HA2 := Lib.hid (show BRow w5 wo.heap.size v5 (i + 1 + 1) ((193 + P) :: (pv.take (i + 1)).map (enc false)) from by
            rw [take_snoc' pv i (by rw [HPL.out]; exact hlt), ← hx, List.map_append]
            exact r2)
          have HA3 := Lib.hid (r3 wo hkq (Nat.le_refl _))
          have HLT := Lib.hid hlt
          clear r1 r2 r3 hxr hx hq hkq hlt hi
          go_wp2_with (at_builtin; refine Lib.wpList_append_run _ rfl _ _ _ _ rfl _ _ rfl rfl _ _ HA.out ?_)
          go_roundg (j - (i + 1))
          case measure => have := HLT.out; omega
          case rel => exact ⟨i + 1, v5, rfl, HLT.out, rfl, by go_num, HA2.out, HA3.out⟩
        obtain rfl : i = j := by omega
        clear hlt hi hq hkq
        go_wp2_with fail
        go_ret
        exact HPOST.out _ _ (by
          have h := own_base HQ.out HKW.out.size
          rw [List.take_of_length_le (by rw [HPL.out]; exact Nat.le_refl _)] at h
          have e1 : numB false P pv = (193 + P) :: pv.map (enc false) := by simp [numB]
          have e2 : (numB false P pv).length = i + 1 := by rw [e1, List.length_cons, List.length_map, HPL.out]
          rw [e2, e1]
          exact h) (HKW.out.trans HKQ.out)
      · have w0 := own_new wo [62 - P] 5 (by simp [maxLen])
        have HW0 := Lib.hid w0
        clear w0
        go_wp2_with fail
        (try rw [d0])
        go_loopg [15, 89] j (fun G sa sb wr => ∃ (i : Nat) (u : Value), j - i = G ∧ i ≤ j ∧ u = sa ∧ sb = .int .i64 (i : Int) ∧ BRow wr wo.heap.size u (i + 1) ((62 - P) :: (pv.take i).map (enc true)) ∧ Kp wo wr)
        case atStart => exact ⟨0, _, rfl, Nat.zero_le _, rfl, rfl, HW0.out, (Kp.refl wo).alloc _⟩
        case round =>
        obtain ⟨i, u, rfl, hi, rfl, rfl, hq, hkq⟩ := hrel
        have HQ := Lib.hid hq
        have HKQ := Lib.hid hkq
        by_cases hlt : i < j
        · have n1 : (i : Int) < (j : Int) := by omega
          have hcx := below_some hkq (HGP.out i hlt)
          have hxr := HPX.out i hlt
          obtain ⟨x, hx⟩ : ∃ x, x = pv.getD i 0 := ⟨_, rfl⟩
          rw [← hx] at hcx hxr
          have x0 : 0 ≤ x := hxr.1
          have x1 : x ≤ 99 := hxr.2
          obtain ⟨v5, w5, r1, r2, r3, _⟩ := app_b wr hq (Kp.refl wr) hkq.size (by omega) (101 - x)
          have HA := Lib.hid r1
          have HA2 := Lib.hid (show BRow w5 wo.heap.size v5 (i + 1 + 1) ((62 - P) :: (pv.take (i + 1)).map (enc true)) from by
            rw [take_snoc' pv i (by rw [HPL.out]; exact hlt), ← hx, List.map_append]
            exact r2)
          have HA3 := Lib.hid (r3 wo hkq (Nat.le_refl _))
          have HLT := Lib.hid hlt
          clear r1 r2 r3 hxr hx hq hkq hlt hi
          go_wp2_with (at_builtin; refine Lib.wpList_append_run _ rfl _ _ _ _ rfl _ _ rfl rfl _ _ HA.out ?_)
          go_roundg (j - (i + 1))
          case measure => have := HLT.out; omega
          case rel => exact ⟨i + 1, v5, rfl, HLT.out, rfl, by go_num, HA2.out, HA3.out⟩
        obtain rfl : i = j := by omega
        clear hlt hi hq hkq
        by_cases h20 : i < 20
        · have n20 : (i : Int) < 20 := by omega
          obtain ⟨v5, w5, r1, r2, r3, _⟩ := app_b wr HQ.out (Kp.refl wr) HKQ.out.size (by omega) 102
          have HA := Lib.hid r1
          have HA2 := Lib.hid r2
          have HA3 := Lib.hid (r3 wo HKQ.out (Nat.le_refl _))
          have H20 := Lib.hid h20
          clear r1 r2 r3 h20
          go_wp2_with (at_builtin; refine Lib.wpList_append_run _ rfl _ _ _ _ rfl _ _ rfl rfl _ _ HA.out ?_)
          go_ret
          exact HPOST.out _ _ (by
            have h := own_base HA2.out HKW.out.size
            rw [List.take_of_length_le (by rw [HPL.out]; exact Nat.le_refl _)] at h
            have e1 : numB true P pv = (62 - P) :: pv.map (enc true) ++ [102] := by simp [numB, HPL.out, H20.out]
            have e2 : (numB true P pv).length = i + 1 + 1 := by rw [e1, List.length_append, List.length_cons, List.length_map, HPL.out]; rfl
            rw [e2, e1]
            exact h) (HKW.out.trans HA3.out)
        · have n20 : ¬ (i : Int) < 20 := by omega
          have H20 := Lib.hid h20
          clear h20
          go_wp2_with fail
          go_ret
          exact HPOST.out _ _ (by
            have h := own_base HQ.out HKW.out.size
            rw [List.take_of_length_le (by rw [HPL.out]; exact Nat.le_refl _)] at h
            have e1 : numB true P pv = (62 - P) :: pv.map (enc true) := by simp [numB, HPL.out, H20.out]
            have e2 : (numB true P pv).length = i + 1 := by rw [e1, List.length_cons, List.length_map, HPL.out]
            rw [e2, e1]
            exact h) (HKW.out.trans HKQ.out)
set_option maxRecDepth 100000 in
set_option maxHeartbeats 4000000 in
theorem nb_odd_pos0 (p : Option Addr) (n c K : Nat) (ds : List Int) (neg : Bool) (e P : Int) (w : World) (hi : Lib.BytesIn w p n ds) (hx : ds.length = n) (hn : 1 ≤ n) (hn2 : n ≤ 40) (hd : ∀ x ∈ ds, 0 ≤ x ∧ x ≤ 9) (he0 : -100 ≤ e) (he1 : e ≤ 100) (hP : P = e / 2) (hpar : e % 2 = 1) (hsg : 0 ≤ e) (hlen : n % 2 = 0) (hK : n = 2 * K) :
    Calls Tryd.prog 26 #[.slice p n c, .bool neg, .int .i64 e] w (NbPost neg P (prV (ds)) w) := by
  have m0 : (e % 2 == 0) = false := by
    simp; omega
  have d0 : (e - 1) / 2 = P := by
    omega
  have q0 : -50 ≤ P := by omega
  have q1 : P ≤ 50 := by omega
  have i0 : (1 : Int) ≤ (n : Int) := by omega
  have i1 : (n : Int) ≤ 40 := by omega
  have z0 : ((n : Int) == 0) = false := by simp; omega
  have es : 0 ≤ e - 1 := by omega
  obtain ⟨g1, c1, w1, hr1, ho1, k1⟩ := nb_rows (w.alloc (.cells #[] 5)) p n c ds (bin_alloc hi _) hx hn (by omega)
  have HR1 := Lib.hid (show (Builtin.append_ #[26, 26] 26 #[.slice (some ⟨w.heap.size + 1, 0, none⟩) 0 0, .slice p n c]).run Tryd.prog ((w.alloc (.cells #[] 5)).alloc (.cells #[] 5)) = .ok (.slice (some ⟨g1, 0, none⟩) n c1) w1 from by rw [← Array.size_push] ; exact hr1)
  have HK3 := Lib.hid (show Kp w w1 from ((Kp.refl w).alloc _).trans k1)
  have HP0 := Lib.hid (show BRow w1 w.heap.size (.slice (some ⟨w.heap.size, 0, none⟩) 0 0) 0 [] from own_below (own_new w [] _ (by simp [maxLen])) k1)
  have HROW := Lib.hid ho1
  obtain ⟨_, _, hv3, hc3, hm3, hin3⟩ := own_pos ho1 (by omega)
  injection hv3 with e1 e2 e3
  injection e1 with e1
  injection e1 with e1
  subst e1 e3
  obtain ⟨E, hE⟩ : ∃ E, E = ds := ⟨_, rfl⟩
  rw [← hE] at hin3 ⊢
  have hEl : E.length = 2 * K := by rw [hE, ← hK]; simp [hx]
  have hEd : ∀ x ∈ E, 0 ≤ x ∧ x ≤ 9 := fun x hm => by
    rw [hE] at hm
    have h0 : x = 0 ∨ x ∈ ds := by
      exact .inr hm
    rcases h0 with rfl | h0
    · omega
    · exact hd x h0
  rw [show n = 2 * K from hK] at hin3 hc3
  have HIN := Lib.hid (fun i (hi : i < 2 * K) => by
    have h := bin_cells hin3 i hi
    rw [Nat.zero_add] at h
    exact h)
  have HGN := Lib.hid (show (Value.slice (some ⟨w.heap.size, 0, none⟩) 0 0).ownBlock ≠ some g1 from fun he => by
    have he2 : w.heap.size = g1 := Option.some.inj he
    have h1 := own_lt HROW.out
    have h2 : (w.alloc (.cells #[] 5)).heap.size = w.heap.size + 1 := Array.size_push _
    skip
    omega)
  have HED := Lib.hid hEd
  have HEL := Lib.hid hEl
  have hpl := prV_length E K hEl
  have HPA := Lib.hid (fun j (hj : j < K) => prV_at E j (by rw [hEl]; omega))
  obtain ⟨pv, hpv⟩ : ∃ pv, pv = prV E := ⟨_, rfl⟩
  rw [← hpv] at hpl HPA ⊢
  have HPL := Lib.hid hpl
  have HPOST := Lib.hid (fun w' v (h : BRow w' w.heap.size v (numB neg P pv).length (numB neg P pv)) (hk : Kp w w') => (show NbPost neg P pv w (.returned v) w' from ⟨v, rfl, h, hk⟩))
  have kk : ((n : Nat) : Int) = 2 * (K : Int) := by rw [hK]; omega
  have kb : (K : Int) ≤ 21 := by omega
  have k1' : (1 : Int) ≤ (K : Int) := by omega
  have hl0 : (((n : Int) % 2) == 1) = false := by
    simp
    omega
  have KK := Lib.hid hK
  clear hi hx hn hn2 hd hP hpar hlen hK hin3 hE hEl hEd hpl hpv hm3 kk ho1 k1 hr1
  go_enter Tryd.func26, Tryd.ntmps26
  go_upto_region 5 with (at_builtin; refine Lib.wpList_append_run _ rfl _ _ _ _ rfl _ _ rfl rfl _ _ HR1.out ?_)
  go_wp2_with fail
  obtain ⟨M, hM⟩ : ∃ M, M = 2 * K := ⟨_, rfl⟩
  rw [KK.out, ← hM]
  have HMK := Lib.hid hM
  have mb : (M : Int) ≤ 42 := by omega
  clear hM
  go_loopg [7, 10] K (fun G s7 s10 wr => ∃ (j : Nat) (v : Value), K - j = G ∧ j ≤ K ∧ v = s7 ∧ s10 = .int .i64 ((2 * j : Nat) : Int) ∧ BRow wr w.heap.size v j (pv.take j) ∧ Kp w wr ∧ (∀ i, i < 2 * K → wr.cell? ⟨g1, i, none⟩ = some (.int .u8 (E.getD i 0))) ∧ v.ownBlock ≠ some g1)
  case atStart => exact ⟨0, _, rfl, Nat.zero_le _, rfl, rfl, HP0.out, HK3.out, HIN.out, HGN.out⟩
  case round =>
    obtain ⟨j, v, rfl, hj, rfl, rfl, hrow, hkw, hin, hgn⟩ := hrel
    have HR := Lib.hid hrow
    have HKW := Lib.hid hkw
    have hjj := hj
    by_cases hlt : j < K
    · obtain ⟨t, ht⟩ : ∃ t, t = 2 * j := ⟨_, rfl⟩
      rw [← ht]
      have htM : t + 1 < M := by have := HMK.out; omega
      have s0 : (t : Int) < (M : Int) := by omega
      have s1 : (0 : Int) ≤ (t : Int) := by omega
      have s2 : ((t : Int) + 1).toNat = t + 1 := by omega
      have s3 : (t : Int) + 1 < (M : Int) := by omega
      have s4 : (0 : Int) ≤ (t : Int) + 1 := by omega
      have s5 : IntKind.i64.wrap ((t : Int) + 1) = (t : Int) + 1 := IntWalk.i64_in _ (by omega)
      have cE : ∀ i, i < 2 * K → ∃ a, a = E.getD i 0 ∧ 0 ≤ a ∧ a ≤ 9 ∧ wr.cell? ⟨g1, i, none⟩ = some (.int .u8 a) := fun i hi => by
        have hm : E.getD i 0 ∈ E := by
          rw [List.getD_eq_getElem?_getD, List.getElem?_eq_getElem (by rw [HEL.out]; exact hi)]
          exact List.getElem_mem _
        exact ⟨_, rfl, (HED.out _ hm).1, (HED.out _ hm).2, hin i hi⟩
      obtain ⟨a, ha, a0, a1, ca⟩ := cE t (by omega)
      obtain ⟨b, hb, b0, b1, cb⟩ := cE (t + 1) (by omega)
      have hpj := HPA.out j hlt
      rw [← ht, ← ha, ← hb] at hpj
      have u1 : IntKind.u8.wrap (10 * a) = 10 * a := by rw [IntKind.wrap_u8]; omega
      have u2 : IntKind.u8.wrap (10 * a + b) = 10 * a + b := by rw [IntKind.wrap_u8]; omega
      have HTK := Lib.hid (take_snoc' pv j (by rw [HPL.out]; exact hlt))
      rw [hpj] at HTK
      obtain ⟨v1, w5, r1, r2, r3, r4, r5⟩ := app_far wr.drew hrow ((Kp.refl wr).drew) hkw.size (by omega) (10 * a + b) hin (by omega) hgn
      have HA := Lib.hid (show (Builtin.append_ #[26, 26] 26 #[v, .slice (some ⟨wr.heap.size, 0, none⟩) 1 1]).run Tryd.prog (wr.drew.alloc (.cells #[.int .u8 (10 * a + b)] 5)) = .ok v1 w5 from r1)
      have HA2 := Lib.hid (show BRow w5 w.heap.size v1 (j + 1) (pv.take (j + 1)) from by rw [HTK.out]; exact r2)
      have HA3 := Lib.hid (r3 w hkw (Nat.le_refl _))
      have HA4 := Lib.hid r4
      have HA5 := Lib.hid r5
      have HCC := Lib.hid (show w5.cell? ⟨g1, t, none⟩ = some (.int .u8 a) ∧ w5.cell? ⟨g1, t + 1, none⟩ = some (.int .u8 b) from ⟨by rw [ha]; exact r4 _ (by omega), by rw [hb]; exact r4 _ (by omega)⟩)
      have HLT := Lib.hid hlt
      have HTT := Lib.hid ht
      clear ht htM cE ha hb hpj hrow hkw hin hgn r1 r2 r3 r4 r5 hlt hj hjj
      go_wp2_with fail
      go_region_held3 (fun w' => w'.cell? ⟨g1, t, none⟩ = some (.int .u8 a) ∧ w'.cell? ⟨g1, t + 1, none⟩ = some (.int .u8 b)) (first | with_reducible exact HCC.out | go_keep)
        ((refine step_app (by rfl) _ _ _ _ (by rfl) _ _ (by rfl) (by rfl) _ _ HA.out ?_))
      all_goals
        go_wp2_with fail
        go_roundg (K - (j + 1))
        case measure => have := HLT.out; omega
        case rel => exact ⟨j + 1, v1, rfl, HLT.out, rfl, int_eq (by have := HTT.out; omega), HA2.out, HA3.out, HA4.out, HA5.out⟩
    · obtain rfl : j = K := by omega
      obtain ⟨wo, rfl⟩ : ∃ wo : World, wo = wr := ⟨_, rfl⟩
      have hjM : ((2 * j : Nat) : Int) = (M : Int) := by rw [HMK.out]
      obtain ⟨gp, cp, rfl, _, _, hinp⟩ := own_pos hrow (by omega)
      have HGP := Lib.hid (fun i (hi : i < j) => by
        have h := bin_cells hinp i hi
        rw [Nat.zero_add, List.take_of_length_le (by rw [HPL.out]; exact Nat.le_refl _)] at h
        exact h)
      have HPX := Lib.hid (fun i (hi : i < j) => (show 0 ≤ pv.getD i 0 ∧ pv.getD i 0 ≤ 99 from by
        have hm : ∀ r, r < 2 * j → 0 ≤ E.getD r 0 ∧ E.getD r 0 ≤ 9 := fun r hr => HED.out _ (by
          rw [List.getD_eq_getElem?_getD, List.getElem?_eq_getElem (by rw [HEL.out]; exact hr)]
          exact List.getElem_mem _)
        have h1 := hm (2 * i) (by omega)
        have h2 := hm (2 * i + 1) (by omega)
        have h3 := HPA.out i hi
        omega))
      rw [hjM]
      clear hrow hkw hin hgn hinp hlt hj hjj hjM
      go_upto_region 16 with (fail)
      (try rw [d0])
      cases neg
      · have w0 := own_new wo [193 + P] 5 (by simp [maxLen])
        have HW0 := Lib.hid w0
        clear w0
        go_wp2_with fail
        (try rw [d0])
        go_loopg [12, 72] j (fun G sa sb wr => ∃ (i : Nat) (u : Value), j - i = G ∧ i ≤ j ∧ u = sa ∧ sb = .int .i64 (i : Int) ∧ BRow wr wo.heap.size u (i + 1) ((193 + P) :: (pv.take i).map (enc false)) ∧ Kp wo wr)
        case atStart => exact ⟨0, _, rfl, Nat.zero_le _, rfl, rfl, HW0.out, (Kp.refl wo).alloc _⟩
        case round =>
        obtain ⟨i, u, rfl, hi, rfl, rfl, hq, hkq⟩ := hrel
        have HQ := Lib.hid hq
        have HKQ := Lib.hid hkq
        by_cases hlt : i < j
        · have n1 : (i : Int) < (j : Int) := by omega
          have hcx := below_some hkq (HGP.out i hlt)
          have hxr := HPX.out i hlt
          obtain ⟨x, hx⟩ : ∃ x, x = pv.getD i 0 := ⟨_, rfl⟩
          rw [← hx] at hcx hxr
          have x0 : 0 ≤ x := hxr.1
          have x1 : x ≤ 99 := hxr.2
          obtain ⟨v5, w5, r1, r2, r3, _⟩ := app_b wr hq (Kp.refl wr) hkq.size (by omega) (x + 1)
          have HA := Lib.hid r1
          have HA2 := Lib.hid (show BRow w5 wo.heap.size v5 (i + 1 + 1) ((193 + P) :: (pv.take (i + 1)).map (enc false)) from by
            rw [take_snoc' pv i (by rw [HPL.out]; exact hlt), ← hx, List.map_append]
            exact r2)
          have HA3 := Lib.hid (r3 wo hkq (Nat.le_refl _))
          have HLT := Lib.hid hlt
          clear r1 r2 r3 hxr hx hq hkq hlt hi
          go_wp2_with (at_builtin; refine Lib.wpList_append_run _ rfl _ _ _ _ rfl _ _ rfl rfl _ _ HA.out ?_)
          go_roundg (j - (i + 1))
          case measure => have := HLT.out; omega
          case rel => exact ⟨i + 1, v5, rfl, HLT.out, rfl, by go_num, HA2.out, HA3.out⟩
        obtain rfl : i = j := by omega
        clear hlt hi hq hkq
        go_wp2_with fail
        go_ret
        exact HPOST.out _ _ (by
          have h := own_base HQ.out HKW.out.size
          rw [List.take_of_length_le (by rw [HPL.out]; exact Nat.le_refl _)] at h
          have e1 : numB false P pv = (193 + P) :: pv.map (enc false) := by simp [numB]
          have e2 : (numB false P pv).length = i + 1 := by rw [e1, List.length_cons, List.length_map, HPL.out]
          rw [e2, e1]
          exact h) (HKW.out.trans HKQ.out)
      · have w0 := own_new wo [62 - P] 5 (by simp [maxLen])
        have HW0 := Lib.hid w0
        clear w0
        go_wp2_with fail
        (try rw [d0])
        go_loopg [15, 89] j (fun G sa sb wr => ∃ (i : Nat) (u : Value), j - i = G ∧ i ≤ j ∧ u = sa ∧ sb = .int .i64 (i : Int) ∧ BRow wr wo.heap.size u (i + 1) ((62 - P) :: (pv.take i).map (enc true)) ∧ Kp wo wr)
        case atStart => exact ⟨0, _, rfl, Nat.zero_le _, rfl, rfl, HW0.out, (Kp.refl wo).alloc _⟩
        case round =>
        obtain ⟨i, u, rfl, hi, rfl, rfl, hq, hkq⟩ := hrel
        have HQ := Lib.hid hq
        have HKQ := Lib.hid hkq
        by_cases hlt : i < j
        · have n1 : (i : Int) < (j : Int) := by omega
          have hcx := below_some hkq (HGP.out i hlt)
          have hxr := HPX.out i hlt
          obtain ⟨x, hx⟩ : ∃ x, x = pv.getD i 0 := ⟨_, rfl⟩
          rw [← hx] at hcx hxr
          have x0 : 0 ≤ x := hxr.1
          have x1 : x ≤ 99 := hxr.2
          obtain ⟨v5, w5, r1, r2, r3, _⟩ := app_b wr hq (Kp.refl wr) hkq.size (by omega) (101 - x)
          have HA := Lib.hid r1
          have HA2 := Lib.hid (show BRow w5 wo.heap.size v5 (i + 1 + 1) ((62 - P) :: (pv.take (i + 1)).map (enc true)) from by
            rw [take_snoc' pv i (by rw [HPL.out]; exact hlt), ← hx, List.map_append]
            exact r2)
          have HA3 := Lib.hid (r3 wo hkq (Nat.le_refl _))
          have HLT := Lib.hid hlt
          clear r1 r2 r3 hxr hx hq hkq hlt hi
          go_wp2_with (at_builtin; refine Lib.wpList_append_run _ rfl _ _ _ _ rfl _ _ rfl rfl _ _ HA.out ?_)
          go_roundg (j - (i + 1))
          case measure => have := HLT.out; omega
          case rel => exact ⟨i + 1, v5, rfl, HLT.out, rfl, by go_num, HA2.out, HA3.out⟩
        obtain rfl : i = j := by omega
        clear hlt hi hq hkq
        by_cases h20 : i < 20
        · have n20 : (i : Int) < 20 := by omega
          obtain ⟨v5, w5, r1, r2, r3, _⟩ := app_b wr HQ.out (Kp.refl wr) HKQ.out.size (by omega) 102
          have HA := Lib.hid r1
          have HA2 := Lib.hid r2
          have HA3 := Lib.hid (r3 wo HKQ.out (Nat.le_refl _))
          have H20 := Lib.hid h20
          clear r1 r2 r3 h20
          go_wp2_with (at_builtin; refine Lib.wpList_append_run _ rfl _ _ _ _ rfl _ _ rfl rfl _ _ HA.out ?_)
          go_ret
          exact HPOST.out _ _ (by
            have h := own_base HA2.out HKW.out.size
            rw [List.take_of_length_le (by rw [HPL.out]; exact Nat.le_refl _)] at h
            have e1 : numB true P pv = (62 - P) :: pv.map (enc true) ++ [102] := by simp [numB, HPL.out, H20.out]
            have e2 : (numB true P pv).length = i + 1 + 1 := by rw [e1, List.length_append, List.length_cons, List.length_map, HPL.out]; rfl
            rw [e2, e1]
            exact h) (HKW.out.trans HA3.out)
        · have n20 : ¬ (i : Int) < 20 := by omega
          have H20 := Lib.hid h20
          clear h20
          go_wp2_with fail
          go_ret
          exact HPOST.out _ _ (by
            have h := own_base HQ.out HKW.out.size
            rw [List.take_of_length_le (by rw [HPL.out]; exact Nat.le_refl _)] at h
            have e1 : numB true P pv = (62 - P) :: pv.map (enc true) := by simp [numB, HPL.out, H20.out]
            have e2 : (numB true P pv).length = i + 1 := by rw [e1, List.length_cons, List.length_map, HPL.out]
            rw [e2, e1]
            exact h) (HKW.out.trans HKQ.out)
set_option maxRecDepth 100000 in
set_option maxHeartbeats 4000000 in
theorem nb_odd_pos1 (p : Option Addr) (n c K : Nat) (ds : List Int) (neg : Bool) (e P : Int) (w : World) (hi : Lib.BytesIn w p n ds) (hx : ds.length = n) (hn : 1 ≤ n) (hn2 : n ≤ 40) (hd : ∀ x ∈ ds, 0 ≤ x ∧ x ≤ 9) (he0 : -100 ≤ e) (he1 : e ≤ 100) (hP : P = e / 2) (hpar : e % 2 = 1) (hsg : 0 ≤ e) (hlen : n % 2 = 1) (hK : n + 1 = 2 * K) :
    Calls Tryd.prog 26 #[.slice p n c, .bool neg, .int .i64 e] w (NbPost neg P (prV (ds ++ [0])) w) := by
  have m0 : (e % 2 == 0) = false := by
    simp; omega
  have d0 : (e - 1) / 2 = P := by
    omega
  have q0 : -50 ≤ P := by omega
  have q1 : P ≤ 50 := by omega
  have i0 : (1 : Int) ≤ (n : Int) := by omega
  have i1 : (n : Int) ≤ 40 := by omega
  have z0 : ((n : Int) == 0) = false := by simp; omega
  have es : 0 ≤ e - 1 := by omega
  obtain ⟨g1, c1, w1, hr1, ho1, k1⟩ := nb_rows (w.alloc (.cells #[] 5)) p n c ds (bin_alloc hi _) hx hn (by omega)
  have HR1 := Lib.hid (show (Builtin.append_ #[26, 26] 26 #[.slice (some ⟨w.heap.size + 1, 0, none⟩) 0 0, .slice p n c]).run Tryd.prog ((w.alloc (.cells #[] 5)).alloc (.cells #[] 5)) = .ok (.slice (some ⟨g1, 0, none⟩) n c1) w1 from by rw [← Array.size_push] ; exact hr1)
  obtain ⟨g3, c3, w3, hr3, ho3, k3⟩ := nb_behind (w.alloc (.cells #[] 5)) w1 g1 c1 n ds ho1 k1 (by omega)
  have HR3 := Lib.hid hr3
  have HK3 := Lib.hid (show Kp w w3 from ((Kp.refl w).alloc _).trans k3)
  have HP0 := Lib.hid (show BRow w3 w.heap.size (.slice (some ⟨w.heap.size, 0, none⟩) 0 0) 0 [] from own_below (own_new w [] _ (by simp [maxLen])) k3)
  have HROW := Lib.hid ho3
  obtain ⟨_, _, hv3, hc3, hm3, hin3⟩ := own_pos ho3 (by omega)
  injection hv3 with e1 e2 e3
  injection e1 with e1
  injection e1 with e1
  subst e1 e3
  obtain ⟨E, hE⟩ : ∃ E, E = ds ++ [0] := ⟨_, rfl⟩
  rw [← hE] at hin3 ⊢
  have hEl : E.length = 2 * K := by rw [hE, ← hK]; simp [hx]
  have hEd : ∀ x ∈ E, 0 ≤ x ∧ x ≤ 9 := fun x hm => by
    rw [hE] at hm
    simp only [List.mem_append, List.mem_cons, List.not_mem_nil, or_false] at hm
    have h0 : x = 0 ∨ x ∈ ds := by
      rcases hm with h | h
      · exact .inr h
      · exact .inl h
    rcases h0 with rfl | h0
    · omega
    · exact hd x h0
  rw [show n + 1 = 2 * K from hK] at hin3 hc3
  have HIN := Lib.hid (fun i (hi : i < 2 * K) => by
    have h := bin_cells hin3 i hi
    rw [Nat.zero_add] at h
    exact h)
  have HGN := Lib.hid (show (Value.slice (some ⟨w.heap.size, 0, none⟩) 0 0).ownBlock ≠ some g3 from fun he => by
    have he2 : w.heap.size = g3 := Option.some.inj he
    have h1 := own_lt HROW.out
    have h2 : (w.alloc (.cells #[] 5)).heap.size = w.heap.size + 1 := Array.size_push _
    skip
    omega)
  have HED := Lib.hid hEd
  have HEL := Lib.hid hEl
  have hpl := prV_length E K hEl
  have HPA := Lib.hid (fun j (hj : j < K) => prV_at E j (by rw [hEl]; omega))
  obtain ⟨pv, hpv⟩ : ∃ pv, pv = prV E := ⟨_, rfl⟩
  rw [← hpv] at hpl HPA ⊢
  have HPL := Lib.hid hpl
  have HPOST := Lib.hid (fun w' v (h : BRow w' w.heap.size v (numB neg P pv).length (numB neg P pv)) (hk : Kp w w') => (show NbPost neg P pv w (.returned v) w' from ⟨v, rfl, h, hk⟩))
  have kk : ((n + 1 : Nat) : Int) = 2 * (K : Int) := by rw [hK]; omega
  have kb : (K : Int) ≤ 21 := by omega
  have k1' : (1 : Int) ≤ (K : Int) := by omega
  have hl0 : (((n : Int) % 2) == 1) = true := by
    simp
    omega
  have KK := Lib.hid hK
  clear hi hx hn hn2 hd hP hpar hlen hK hin3 hE hEl hEd hpl hpv hm3 kk ho1 k1 hr1 hr3 ho3 k3
  go_enter Tryd.func26, Tryd.ntmps26
  go_upto_region 5 with (at_builtin; refine Lib.wpList_append_run _ rfl _ _ _ _ rfl _ _ rfl rfl _ _ HR1.out ?_)
  go_upto_region 11 with (at_builtin; refine Lib.wpList_append_run _ rfl _ _ _ _ rfl _ _ rfl rfl _ _ HR3.out ?_)
  go_wp2_with fail
  obtain ⟨M, hM⟩ : ∃ M, M = 2 * K := ⟨_, rfl⟩
  rw [KK.out, ← hM]
  have HMK := Lib.hid hM
  have mb : (M : Int) ≤ 42 := by omega
  clear hM
  go_loopg [7, 10] K (fun G s7 s10 wr => ∃ (j : Nat) (v : Value), K - j = G ∧ j ≤ K ∧ v = s7 ∧ s10 = .int .i64 ((2 * j : Nat) : Int) ∧ BRow wr w.heap.size v j (pv.take j) ∧ Kp w wr ∧ (∀ i, i < 2 * K → wr.cell? ⟨g3, i, none⟩ = some (.int .u8 (E.getD i 0))) ∧ v.ownBlock ≠ some g3)
  case atStart => exact ⟨0, _, rfl, Nat.zero_le _, rfl, rfl, HP0.out, HK3.out, HIN.out, HGN.out⟩
  case round =>
    obtain ⟨j, v, rfl, hj, rfl, rfl, hrow, hkw, hin, hgn⟩ := hrel
    have HR := Lib.hid hrow
    have HKW := Lib.hid hkw
    have hjj := hj
    by_cases hlt : j < K
    · obtain ⟨t, ht⟩ : ∃ t, t = 2 * j := ⟨_, rfl⟩
      rw [← ht]
      have htM : t + 1 < M := by have := HMK.out; omega
      have s0 : (t : Int) < (M : Int) := by omega
      have s1 : (0 : Int) ≤ (t : Int) := by omega
      have s2 : ((t : Int) + 1).toNat = t + 1 := by omega
      have s3 : (t : Int) + 1 < (M : Int) := by omega
      have s4 : (0 : Int) ≤ (t : Int) + 1 := by omega
      have s5 : IntKind.i64.wrap ((t : Int) + 1) = (t : Int) + 1 := IntWalk.i64_in _ (by omega)
      have cE : ∀ i, i < 2 * K → ∃ a, a = E.getD i 0 ∧ 0 ≤ a ∧ a ≤ 9 ∧ wr.cell? ⟨g3, i, none⟩ = some (.int .u8 a) := fun i hi => by
        have hm : E.getD i 0 ∈ E := by
          rw [List.getD_eq_getElem?_getD, List.getElem?_eq_getElem (by rw [HEL.out]; exact hi)]
          exact List.getElem_mem _
        exact ⟨_, rfl, (HED.out _ hm).1, (HED.out _ hm).2, hin i hi⟩
      obtain ⟨a, ha, a0, a1, ca⟩ := cE t (by omega)
      obtain ⟨b, hb, b0, b1, cb⟩ := cE (t + 1) (by omega)
      have hpj := HPA.out j hlt
      rw [← ht, ← ha, ← hb] at hpj
      have u1 : IntKind.u8.wrap (10 * a) = 10 * a := by rw [IntKind.wrap_u8]; omega
      have u2 : IntKind.u8.wrap (10 * a + b) = 10 * a + b := by rw [IntKind.wrap_u8]; omega
      have HTK := Lib.hid (take_snoc' pv j (by rw [HPL.out]; exact hlt))
      rw [hpj] at HTK
      obtain ⟨v1, w5, r1, r2, r3, r4, r5⟩ := app_far wr.drew hrow ((Kp.refl wr).drew) hkw.size (by omega) (10 * a + b) hin (by omega) hgn
      have HA := Lib.hid (show (Builtin.append_ #[26, 26] 26 #[v, .slice (some ⟨wr.heap.size, 0, none⟩) 1 1]).run Tryd.prog (wr.drew.alloc (.cells #[.int .u8 (10 * a + b)] 5)) = .ok v1 w5 from r1)
      have HA2 := Lib.hid (show BRow w5 w.heap.size v1 (j + 1) (pv.take (j + 1)) from by rw [HTK.out]; exact r2)
      have HA3 := Lib.hid (r3 w hkw (Nat.le_refl _))
      have HA4 := Lib.hid r4
      have HA5 := Lib.hid r5
      have HCC := Lib.hid (show w5.cell? ⟨g3, t, none⟩ = some (.int .u8 a) ∧ w5.cell? ⟨g3, t + 1, none⟩ = some (.int .u8 b) from ⟨by rw [ha]; exact r4 _ (by omega), by rw [hb]; exact r4 _ (by omega)⟩)
      have HLT := Lib.hid hlt
      have HTT := Lib.hid ht
      clear ht htM cE ha hb hpj hrow hkw hin hgn r1 r2 r3 r4 r5 hlt hj hjj
      go_wp2_with fail
      go_region_held3 (fun w' => w'.cell? ⟨g3, t, none⟩ = some (.int .u8 a) ∧ w'.cell? ⟨g3, t + 1, none⟩ = some (.int .u8 b)) (first | with_reducible exact HCC.out | go_keep)
        ((refine step_app (by rfl) _ _ _ _ (by rfl) _ _ (by rfl) (by rfl) _ _ HA.out ?_))
      all_goals
        go_wp2_with fail
        go_roundg (K - (j + 1))
        case measure => have := HLT.out; omega
        case rel => exact ⟨j + 1, v1, rfl, HLT.out, rfl, int_eq (by have := HTT.out; omega), HA2.out, HA3.out, HA4.out, HA5.out⟩
    · obtain rfl : j = K := by omega
      obtain ⟨wo, rfl⟩ : ∃ wo : World, wo = wr := ⟨_, rfl⟩
      have hjM : ((2 * j : Nat) : Int) = (M : Int) := by rw [HMK.out]
      obtain ⟨gp, cp, rfl, _, _, hinp⟩ := own_pos hrow (by omega)
      have HGP := Lib.hid (fun i (hi : i < j) => by
        have h := bin_cells hinp i hi
        rw [Nat.zero_add, List.take_of_length_le (by rw [HPL.out]; exact Nat.le_refl _)] at h
        exact h)
      have HPX := Lib.hid (fun i (hi : i < j) => (show 0 ≤ pv.getD i 0 ∧ pv.getD i 0 ≤ 99 from by
        have hm : ∀ r, r < 2 * j → 0 ≤ E.getD r 0 ∧ E.getD r 0 ≤ 9 := fun r hr => HED.out _ (by
          rw [List.getD_eq_getElem?_getD, List.getElem?_eq_getElem (by rw [HEL.out]; exact hr)]
          exact List.getElem_mem _)
        have h1 := hm (2 * i) (by omega)
        have h2 := hm (2 * i + 1) (by omega)
        have h3 := HPA.out i hi
        omega))
      rw [hjM]
      clear hrow hkw hin hgn hinp hlt hj hjj hjM
      go_upto_region 16 with (fail)
      (try rw [d0])
      cases neg
      · have w0 := own_new wo [193 + P] 5 (by simp [maxLen])
        have HW0 := Lib.hid w0
        clear w0
        go_wp2_with fail
        (try rw [d0])
        go_loopg [12, 72] j (fun G sa sb wr => ∃ (i : Nat) (u : Value), j - i = G ∧ i ≤ j ∧ u = sa ∧ sb = .int .i64 (i : Int) ∧ BRow wr wo.heap.size u (i + 1) ((193 + P) :: (pv.take i).map (enc false)) ∧ Kp wo wr)
        case atStart => exact ⟨0, _, rfl, Nat.zero_le _, rfl, rfl, HW0.out, (Kp.refl wo).alloc _⟩
        case round =>
        obtain ⟨i, u, rfl, hi, rfl, rfl, hq, hkq⟩ := hrel
        have HQ := Lib.hid hq
        have HKQ := Lib.hid hkq
        by_cases hlt : i < j
        · have n1 : (i : Int) < (j : Int) := by omega
          have hcx := below_some hkq (HGP.out i hlt)
          have hxr := HPX.out i hlt
          obtain ⟨x, hx⟩ : ∃ x, x = pv.getD i 0 := ⟨_, rfl⟩
          rw [← hx] at hcx hxr
          have x0 : 0 ≤ x := hxr.1
          have x1 : x ≤ 99 := hxr.2
          obtain ⟨v5, w5, r1, r2, r3, _⟩ := app_b wr hq (Kp.refl wr) hkq.size (by omega) (x + 1)
          have HA := Lib.hid r1
          have HA2 := Lib.hid (show BRow w5 wo.heap.size v5 (i + 1 + 1) ((193 + P) :: (pv.take (i + 1)).map (enc false)) from by
            rw [take_snoc' pv i (by rw [HPL.out]; exact hlt), ← hx, List.map_append]
            exact r2)
          have HA3 := Lib.hid (r3 wo hkq (Nat.le_refl _))
          have HLT := Lib.hid hlt
          clear r1 r2 r3 hxr hx hq hkq hlt hi
          go_wp2_with (at_builtin; refine Lib.wpList_append_run _ rfl _ _ _ _ rfl _ _ rfl rfl _ _ HA.out ?_)
          go_roundg (j - (i + 1))
          case measure => have := HLT.out; omega
          case rel => exact ⟨i + 1, v5, rfl, HLT.out, rfl, by go_num, HA2.out, HA3.out⟩
        obtain rfl : i = j := by omega
        clear hlt hi hq hkq
        go_wp2_with fail
        go_ret
        exact HPOST.out _ _ (by
          have h := own_base HQ.out HKW.out.size
          rw [List.take_of_length_le (by rw [HPL.out]; exact Nat.le_refl _)] at h
          have e1 : numB false P pv = (193 + P) :: pv.map (enc false) := by simp [numB]
          have e2 : (numB false P pv).length = i + 1 := by rw [e1, List.length_cons, List.length_map, HPL.out]
          rw [e2, e1]
          exact h) (HKW.out.trans HKQ.out)
      · have w0 := own_new wo [62 - P] 5 (by simp [maxLen])
        have HW0 := Lib.hid w0
        clear w0
        go_wp2_with fail
        (try rw [d0])
        go_loopg [15, 89] j (fun G sa sb wr => ∃ (i : Nat) (u : Value), j - i = G ∧ i ≤ j ∧ u = sa ∧ sb = .int .i64 (i : Int) ∧ BRow wr wo.heap.size u (i + 1) ((62 - P) :: (pv.take i).map (enc true)) ∧ Kp wo wr)
        case atStart => exact ⟨0, _, rfl, Nat.zero_le _, rfl, rfl, HW0.out, (Kp.refl wo).alloc _⟩
        case round =>
        obtain ⟨i, u, rfl, hi, rfl, rfl, hq, hkq⟩ := hrel
        have HQ := Lib.hid hq
        have HKQ := Lib.hid hkq
        by_cases hlt : i < j
        · have n1 : (i : Int) < (j : Int) := by omega
          have hcx := below_some hkq (HGP.out i hlt)
          have hxr := HPX.out i hlt
          obtain ⟨x, hx⟩ : ∃ x, x = pv.getD i 0 := ⟨_, rfl⟩
          rw [← hx] at hcx hxr
          have x0 : 0 ≤ x := hxr.1
          have x1 : x ≤ 99 := hxr.2
          obtain ⟨v5, w5, r1, r2, r3, _⟩ := app_b wr hq (Kp.refl wr) hkq.size (by omega) (101 - x)
          have HA := Lib.hid r1
          have HA2 := Lib.hid (show BRow w5 wo.heap.size v5 (i + 1 + 1) ((62 - P) :: (pv.take (i + 1)).map (enc true)) from by
            rw [take_snoc' pv i (by rw [HPL.out]; exact hlt), ← hx, List.map_append]
            exact r2)
          have HA3 := Lib.hid (r3 wo hkq (Nat.le_refl _))
          have HLT := Lib.hid hlt
          clear r1 r2 r3 hxr hx hq hkq hlt hi
          go_wp2_with (at_builtin; refine Lib.wpList_append_run _ rfl _ _ _ _ rfl _ _ rfl rfl _ _ HA.out ?_)
          go_roundg (j - (i + 1))
          case measure => have := HLT.out; omega
          case rel => exact ⟨i + 1, v5, rfl, HLT.out, rfl, by go_num, HA2.out, HA3.out⟩
        obtain rfl : i = j := by omega
        clear hlt hi hq hkq
        by_cases h20 : i < 20
        · have n20 : (i : Int) < 20 := by omega
          obtain ⟨v5, w5, r1, r2, r3, _⟩ := app_b wr HQ.out (Kp.refl wr) HKQ.out.size (by omega) 102
          have HA := Lib.hid r1
          have HA2 := Lib.hid r2
          have HA3 := Lib.hid (r3 wo HKQ.out (Nat.le_refl _))
          have H20 := Lib.hid h20
          clear r1 r2 r3 h20
          go_wp2_with (at_builtin; refine Lib.wpList_append_run _ rfl _ _ _ _ rfl _ _ rfl rfl _ _ HA.out ?_)
          go_ret
          exact HPOST.out _ _ (by
            have h := own_base HA2.out HKW.out.size
            rw [List.take_of_length_le (by rw [HPL.out]; exact Nat.le_refl _)] at h
            have e1 : numB true P pv = (62 - P) :: pv.map (enc true) ++ [102] := by simp [numB, HPL.out, H20.out]
            have e2 : (numB true P pv).length = i + 1 + 1 := by rw [e1, List.length_append, List.length_cons, List.length_map, HPL.out]; rfl
            rw [e2, e1]
            exact h) (HKW.out.trans HA3.out)
        · have n20 : ¬ (i : Int) < 20 := by omega
          have H20 := Lib.hid h20
          clear h20
          go_wp2_with fail
          go_ret
          exact HPOST.out _ _ (by
            have h := own_base HQ.out HKW.out.size
            rw [List.take_of_length_le (by rw [HPL.out]; exact Nat.le_refl _)] at h
            have e1 : numB true P pv = (62 - P) :: pv.map (enc true) := by simp [numB, HPL.out, H20.out]
            have e2 : (numB true P pv).length = i + 1 := by rw [e1, List.length_cons, List.length_map, HPL.out]
            rw [e2, e1]
            exact h) (HKW.out.trans HKQ.out)
set_option maxRecDepth 100000 in
set_option maxHeartbeats 4000000 in
theorem nb_odd_neg0 (p : Option Addr) (n c K : Nat) (ds : List Int) (neg : Bool) (e P : Int) (w : World) (hi : Lib.BytesIn w p n ds) (hx : ds.length = n) (hn : 1 ≤ n) (hn2 : n ≤ 40) (hd : ∀ x ∈ ds, 0 ≤ x ∧ x ≤ 9) (he0 : -100 ≤ e) (he1 : e ≤ 100) (hP : P = e / 2) (hpar : e % 2 = 1) (hsg : e < 0) (hlen : n % 2 = 0) (hK : n = 2 * K) :
    Calls Tryd.prog 26 #[.slice p n c, .bool neg, .int .i64 e] w (NbPost neg P (prV (ds)) w) := by
  have m0 : (e.tmod 2 == 0) = false := by
    rw [tmod2_neg e hsg]; simp; omega
  have d0 : (e - 1).tdiv 2 = P := by
    rw [hP]; have := tdiv2_neg e hsg; omega
  have q0 : -50 ≤ P := by omega
  have q1 : P ≤ 50 := by omega
  have i0 : (1 : Int) ≤ (n : Int) := by omega
  have i1 : (n : Int) ≤ 40 := by omega
  have z0 : ((n : Int) == 0) = false := by simp; omega
  obtain ⟨g1, c1, w1, hr1, ho1, k1⟩ := nb_rows (w.alloc (.cells #[] 5)) p n c ds (bin_alloc hi _) hx hn (by omega)
  have HR1 := Lib.hid (show (Builtin.append_ #[26, 26] 26 #[.slice (some ⟨w.heap.size + 1, 0, none⟩) 0 0, .slice p n c]).run Tryd.prog ((w.alloc (.cells #[] 5)).alloc (.cells #[] 5)) = .ok (.slice (some ⟨g1, 0, none⟩) n c1) w1 from by rw [← Array.size_push] ; exact hr1)
  have HK3 := Lib.hid (show Kp w w1 from ((Kp.refl w).alloc _).trans k1)
  have HP0 := Lib.hid (show BRow w1 w.heap.size (.slice (some ⟨w.heap.size, 0, none⟩) 0 0) 0 [] from own_below (own_new w [] _ (by simp [maxLen])) k1)
  have HROW := Lib.hid ho1
  obtain ⟨_, _, hv3, hc3, hm3, hin3⟩ := own_pos ho1 (by omega)
  injection hv3 with e1 e2 e3
  injection e1 with e1
  injection e1 with e1
  subst e1 e3
  obtain ⟨E, hE⟩ : ∃ E, E = ds := ⟨_, rfl⟩
  rw [← hE] at hin3 ⊢
  have hEl : E.length = 2 * K := by rw [hE, ← hK]; simp [hx]
  have hEd : ∀ x ∈ E, 0 ≤ x ∧ x ≤ 9 := fun x hm => by
    rw [hE] at hm
    have h0 : x = 0 ∨ x ∈ ds := by
      exact .inr hm
    rcases h0 with rfl | h0
    · omega
    · exact hd x h0
  rw [show n = 2 * K from hK] at hin3 hc3
  have HIN := Lib.hid (fun i (hi : i < 2 * K) => by
    have h := bin_cells hin3 i hi
    rw [Nat.zero_add] at h
    exact h)
  have HGN := Lib.hid (show (Value.slice (some ⟨w.heap.size, 0, none⟩) 0 0).ownBlock ≠ some g1 from fun he => by
    have he2 : w.heap.size = g1 := Option.some.inj he
    have h1 := own_lt HROW.out
    have h2 : (w.alloc (.cells #[] 5)).heap.size = w.heap.size + 1 := Array.size_push _
    skip
    omega)
  have HED := Lib.hid hEd
  have HEL := Lib.hid hEl
  have hpl := prV_length E K hEl
  have HPA := Lib.hid (fun j (hj : j < K) => prV_at E j (by rw [hEl]; omega))
  obtain ⟨pv, hpv⟩ : ∃ pv, pv = prV E := ⟨_, rfl⟩
  rw [← hpv] at hpl HPA ⊢
  have HPL := Lib.hid hpl
  have HPOST := Lib.hid (fun w' v (h : BRow w' w.heap.size v (numB neg P pv).length (numB neg P pv)) (hk : Kp w w') => (show NbPost neg P pv w (.returned v) w' from ⟨v, rfl, h, hk⟩))
  have kk : ((n : Nat) : Int) = 2 * (K : Int) := by rw [hK]; omega
  have kb : (K : Int) ≤ 21 := by omega
  have k1' : (1 : Int) ≤ (K : Int) := by omega
  have hl0 : (((n : Int) % 2) == 1) = false := by
    simp
    omega
  have KK := Lib.hid hK
  clear hi hx hn hn2 hd hP hpar hlen hK hin3 hE hEl hEd hpl hpv hm3 kk ho1 k1 hr1
  go_enter Tryd.func26, Tryd.ntmps26
  go_upto_region 5 with (at_builtin; refine Lib.wpList_append_run _ rfl _ _ _ _ rfl _ _ rfl rfl _ _ HR1.out ?_)
  go_wp2_with fail
  obtain ⟨M, hM⟩ : ∃ M, M = 2 * K := ⟨_, rfl⟩
  rw [KK.out, ← hM]
  have HMK := Lib.hid hM
  have mb : (M : Int) ≤ 42 := by omega
  clear hM
  go_loopg [7, 10] K (fun G s7 s10 wr => ∃ (j : Nat) (v : Value), K - j = G ∧ j ≤ K ∧ v = s7 ∧ s10 = .int .i64 ((2 * j : Nat) : Int) ∧ BRow wr w.heap.size v j (pv.take j) ∧ Kp w wr ∧ (∀ i, i < 2 * K → wr.cell? ⟨g1, i, none⟩ = some (.int .u8 (E.getD i 0))) ∧ v.ownBlock ≠ some g1)
  case atStart => exact ⟨0, _, rfl, Nat.zero_le _, rfl, rfl, HP0.out, HK3.out, HIN.out, HGN.out⟩
  case round =>
    obtain ⟨j, v, rfl, hj, rfl, rfl, hrow, hkw, hin, hgn⟩ := hrel
    have HR := Lib.hid hrow
    have HKW := Lib.hid hkw
    have hjj := hj
    by_cases hlt : j < K
    · obtain ⟨t, ht⟩ : ∃ t, t = 2 * j := ⟨_, rfl⟩
      rw [← ht]
      have htM : t + 1 < M := by have := HMK.out; omega
      have s0 : (t : Int) < (M : Int) := by omega
      have s1 : (0 : Int) ≤ (t : Int) := by omega
      have s2 : ((t : Int) + 1).toNat = t + 1 := by omega
      have s3 : (t : Int) + 1 < (M : Int) := by omega
      have s4 : (0 : Int) ≤ (t : Int) + 1 := by omega
      have s5 : IntKind.i64.wrap ((t : Int) + 1) = (t : Int) + 1 := IntWalk.i64_in _ (by omega)
      have cE : ∀ i, i < 2 * K → ∃ a, a = E.getD i 0 ∧ 0 ≤ a ∧ a ≤ 9 ∧ wr.cell? ⟨g1, i, none⟩ = some (.int .u8 a) := fun i hi => by
        have hm : E.getD i 0 ∈ E := by
          rw [List.getD_eq_getElem?_getD, List.getElem?_eq_getElem (by rw [HEL.out]; exact hi)]
          exact List.getElem_mem _
        exact ⟨_, rfl, (HED.out _ hm).1, (HED.out _ hm).2, hin i hi⟩
      obtain ⟨a, ha, a0, a1, ca⟩ := cE t (by omega)
      obtain ⟨b, hb, b0, b1, cb⟩ := cE (t + 1) (by omega)
      have hpj := HPA.out j hlt
      rw [← ht, ← ha, ← hb] at hpj
      have u1 : IntKind.u8.wrap (10 * a) = 10 * a := by rw [IntKind.wrap_u8]; omega
      have u2 : IntKind.u8.wrap (10 * a + b) = 10 * a + b := by rw [IntKind.wrap_u8]; omega
      have HTK := Lib.hid (take_snoc' pv j (by rw [HPL.out]; exact hlt))
      rw [hpj] at HTK
      obtain ⟨v1, w5, r1, r2, r3, r4, r5⟩ := app_far wr.drew hrow ((Kp.refl wr).drew) hkw.size (by omega) (10 * a + b) hin (by omega) hgn
      have HA := Lib.hid (show (Builtin.append_ #[26, 26] 26 #[v, .slice (some ⟨wr.heap.size, 0, none⟩) 1 1]).run Tryd.prog (wr.drew.alloc (.cells #[.int .u8 (10 * a + b)] 5)) = .ok v1 w5 from r1)
      have HA2 := Lib.hid (show BRow w5 w.heap.size v1 (j + 1) (pv.take (j + 1)) from by rw [HTK.out]; exact r2)
      have HA3 := Lib.hid (r3 w hkw (Nat.le_refl _))
      have HA4 := Lib.hid r4
      have HA5 := Lib.hid r5
      have HCC := Lib.hid (show w5.cell? ⟨g1, t, none⟩ = some (.int .u8 a) ∧ w5.cell? ⟨g1, t + 1, none⟩ = some (.int .u8 b) from ⟨by rw [ha]; exact r4 _ (by omega), by rw [hb]; exact r4 _ (by omega)⟩)
      have HLT := Lib.hid hlt
      have HTT := Lib.hid ht
      clear ht htM cE ha hb hpj hrow hkw hin hgn r1 r2 r3 r4 r5 hlt hj hjj
      go_wp2_with fail
      go_region_held3 (fun w' => w'.cell? ⟨g1, t, none⟩ = some (.int .u8 a) ∧ w'.cell? ⟨g1, t + 1, none⟩ = some (.int .u8 b)) (first | with_reducible exact HCC.out | go_keep)
        ((refine step_app (by rfl) _ _ _ _ (by rfl) _ _ (by rfl) (by rfl) _ _ HA.out ?_))
      all_goals
        go_wp2_with fail
        go_roundg (K - (j + 1))
        case measure => have := HLT.out; omega
        case rel => exact ⟨j + 1, v1, rfl, HLT.out, rfl, int_eq (by have := HTT.out; omega), HA2.out, HA3.out, HA4.out, HA5.out⟩
    · obtain rfl : j = K := by omega
      obtain ⟨wo, rfl⟩ : ∃ wo : World, wo = wr := ⟨_, rfl⟩
      have hjM : ((2 * j : Nat) : Int) = (M : Int) := by rw [HMK.out]
      obtain ⟨gp, cp, rfl, _, _, hinp⟩ := own_pos hrow (by omega)
      have HGP := Lib.hid (fun i (hi : i < j) => by
        have h := bin_cells hinp i hi
        rw [Nat.zero_add, List.take_of_length_le (by rw [HPL.out]; exact Nat.le_refl _)] at h
        exact h)
      have HPX := Lib.hid (fun i (hi : i < j) => (show 0 ≤ pv.getD i 0 ∧ pv.getD i 0 ≤ 99 from by
        have hm : ∀ r, r < 2 * j → 0 ≤ E.getD r 0 ∧ E.getD r 0 ≤ 9 := fun r hr => HED.out _ (by
          rw [List.getD_eq_getElem?_getD, List.getElem?_eq_getElem (by rw [HEL.out]; exact hr)]
          exact List.getElem_mem _)
        have h1 := hm (2 * i) (by omega)
        have h2 := hm (2 * i + 1) (by omega)
        have h3 := HPA.out i hi
        omega))
      rw [hjM]
      clear hrow hkw hin hgn hinp hlt hj hjj hjM
      go_upto_region 16 with (fail)
      (try rw [d0])
      cases neg
      · have w0 := own_new wo [193 + P] 5 (by simp [maxLen])
        have HW0 := Lib.hid w0
        clear w0
        go_wp2_with fail
        (try rw [d0])
        go_loopg [12, 72] j (fun G sa sb wr => ∃ (i : Nat) (u : Value), j - i = G ∧ i ≤ j ∧ u = sa ∧ sb = .int .i64 (i : Int) ∧ BRow wr wo.heap.size u (i + 1) ((193 + P) :: (pv.take i).map (enc false)) ∧ Kp wo wr)
        case atStart => exact ⟨0, _, rfl, Nat.zero_le _, rfl, rfl, HW0.out, (Kp.refl wo).alloc _⟩
        case round =>
        obtain ⟨i, u, rfl, hi, rfl, rfl, hq, hkq⟩ := hrel
        have HQ := Lib.hid hq
        have HKQ := Lib.hid hkq
        by_cases hlt : i < j
        · have n1 : (i : Int) < (j : Int) := by omega
          have hcx := below_some hkq (HGP.out i hlt)
          have hxr := HPX.out i hlt
          obtain ⟨x, hx⟩ : ∃ x, x = pv.getD i 0 := ⟨_, rfl⟩
          rw [← hx] at hcx hxr
          have x0 : 0 ≤ x := hxr.1
          have x1 : x ≤ 99 := hxr.2
          obtain ⟨v5, w5, r1, r2, r3, _⟩ := app_b wr hq (Kp.refl wr) hkq.size (by omega) (x + 1)
          have HA := Lib.hid r1
          have HA2 := Lib.hid (show BRow w5 wo.heap.size v5 (i + 1 + 1) ((193 + P) :: (pv.take (i + 1)).map (enc false)) from by
            rw [take_snoc' pv i (by rw [HPL.out]; exact hlt), ← hx, List.map_append]
            exact r2)
          have HA3 := Lib.hid (r3 wo hkq (Nat.le_refl _))
          have HLT := Lib.hid hlt
          clear r1 r2 r3 hxr hx hq hkq hlt hi
          go_wp2_with (at_builtin; refine Lib.wpList_append_run _ rfl _ _ _ _ rfl _ _ rfl rfl _ _ HA.out ?_)
          go_roundg (j - (i + 1))
          case measure => have := HLT.out; omega
          case rel => exact ⟨i + 1, v5, rfl, HLT.out, rfl, by go_num, HA2.out, HA3.out⟩
        obtain rfl : i = j := by omega
        clear hlt hi hq hkq
        go_wp2_with fail
        go_ret
        exact HPOST.out _ _ (by
          have h := own_base HQ.out HKW.out.size
          rw [List.take_of_length_le (by rw [HPL.out]; exact Nat.le_refl _)] at h
          have e1 : numB false P pv = (193 + P) :: pv.map (enc false) := by simp [numB]
          have e2 : (numB false P pv).length = i + 1 := by rw [e1, List.length_cons, List.length_map, HPL.out]
          rw [e2, e1]
          exact h) (HKW.out.trans HKQ.out)
      · have w0 := own_new wo [62 - P] 5 (by simp [maxLen])
        have HW0 := Lib.hid w0
        clear w0
        go_wp2_with fail
        (try rw [d0])
        go_loopg [15, 89] j (fun G sa sb wr => ∃ (i : Nat) (u : Value), j - i = G ∧ i ≤ j ∧ u = sa ∧ sb = .int .i64 (i : Int) ∧ BRow wr wo.heap.size u (i + 1) ((62 - P) :: (pv.take i).map (enc true)) ∧ Kp wo wr)
        case atStart => exact ⟨0, _, rfl, Nat.zero_le _, rfl, rfl, HW0.out, (Kp.refl wo).alloc _⟩
        case round =>
        obtain ⟨i, u, rfl, hi, rfl, rfl, hq, hkq⟩ := hrel
        have HQ := Lib.hid hq
        have HKQ := Lib.hid hkq
        by_cases hlt : i < j
        · have n1 : (i : Int) < (j : Int) := by omega
          have hcx := below_some hkq (HGP.out i hlt)
          have hxr := HPX.out i hlt
          obtain ⟨x, hx⟩ : ∃ x, x = pv.getD i 0 := ⟨_, rfl⟩
          rw [← hx] at hcx hxr
          have x0 : 0 ≤ x := hxr.1
          have x1 : x ≤ 99 := hxr.2
          obtain ⟨v5, w5, r1, r2, r3, _⟩ := app_b wr hq (Kp.refl wr) hkq.size (by omega) (101 - x)
          have HA := Lib.hid r1
          have HA2 := Lib.hid (show BRow w5 wo.heap.size v5 (i + 1 + 1) ((62 - P) :: (pv.take (i + 1)).map (enc true)) from by
            rw [take_snoc' pv i (by rw [HPL.out]; exact hlt), ← hx, List.map_append]
            exact r2)
          have HA3 := Lib.hid (r3 wo hkq (Nat.le_refl _))
          have HLT := Lib.hid hlt
          clear r1 r2 r3 hxr hx hq hkq hlt hi
          go_wp2_with (at_builtin; refine Lib.wpList_append_run _ rfl _ _ _ _ rfl _ _ rfl rfl _ _ HA.out ?_)
          go_roundg (j - (i + 1))
          case measure => have := HLT.out; omega
          case rel => exact ⟨i + 1, v5, rfl, HLT.out, rfl, by go_num, HA2.out, HA3.out⟩
        obtain rfl : i = j := by omega
        clear hlt hi hq hkq
        by_cases h20 : i < 20
        · have n20 : (i : Int) < 20 := by omega
          obtain ⟨v5, w5, r1, r2, r3, _⟩ := app_b wr HQ.out (Kp.refl wr) HKQ.out.size (by omega) 102
          have HA := Lib.hid r1
          have HA2 := Lib.hid r2
          have HA3 := Lib.hid (r3 wo HKQ.out (Nat.le_refl _))
          have H20 := Lib.hid h20
          clear r1 r2 r3 h20
          go_wp2_with (at_builtin; refine Lib.wpList_append_run _ rfl _ _ _ _ rfl _ _ rfl rfl _ _ HA.out ?_)
          go_ret
          exact HPOST.out _ _ (by
            have h := own_base HA2.out HKW.out.size
            rw [List.take_of_length_le (by rw [HPL.out]; exact Nat.le_refl _)] at h
            have e1 : numB true P pv = (62 - P) :: pv.map (enc true) ++ [102] := by simp [numB, HPL.out, H20.out]
            have e2 : (numB true P pv).length = i + 1 + 1 := by rw [e1, List.length_append, List.length_cons, List.length_map, HPL.out]; rfl
            rw [e2, e1]
            exact h) (HKW.out.trans HA3.out)
        · have n20 : ¬ (i : Int) < 20 := by omega
          have H20 := Lib.hid h20
          clear h20
          go_wp2_with fail
          go_ret
          exact HPOST.out _ _ (by
            have h := own_base HQ.out HKW.out.size
            rw [List.take_of_length_le (by rw [HPL.out]; exact Nat.le_refl _)] at h
            have e1 : numB true P pv = (62 - P) :: pv.map (enc true) := by simp [numB, HPL.out, H20.out]
            have e2 : (numB true P pv).length = i + 1 := by rw [e1, List.length_cons, List.length_map, HPL.out]
            rw [e2, e1]
            exact h) (HKW.out.trans HKQ.out)
set_option maxRecDepth 100000 in
set_option maxHeartbeats 4000000 in
theorem nb_odd_neg1 (p : Option Addr) (n c K : Nat) (ds : List Int) (neg : Bool) (e P : Int) (w : World) (hi : Lib.BytesIn w p n ds) (hx : ds.length = n) (hn : 1 ≤ n) (hn2 : n ≤ 40) (hd : ∀ x ∈ ds, 0 ≤ x ∧ x ≤ 9) (he0 : -100 ≤ e) (he1 : e ≤ 100) (hP : P = e / 2) (hpar : e % 2 = 1) (hsg : e < 0) (hlen : n % 2 = 1) (hK : n + 1 = 2 * K) :
    Calls Tryd.prog 26 #[.slice p n c, .bool neg, .int .i64 e] w (NbPost neg P (prV (ds ++ [0])) w) := by
  have m0 : (e.tmod 2 == 0) = false := by
    rw [tmod2_neg e hsg]; simp; omega
  have d0 : (e - 1).tdiv 2 = P := by
    rw [hP]; have := tdiv2_neg e hsg; omega
  have q0 : -50 ≤ P := by omega
  have q1 : P ≤ 50 := by omega
  have i0 : (1 : Int) ≤ (n : Int) := by omega
  have i1 : (n : Int) ≤ 40 := by omega
  have z0 : ((n : Int) == 0) = false := by simp; omega
  obtain ⟨g1, c1, w1, hr1, ho1, k1⟩ := nb_rows (w.alloc (.cells #[] 5)) p n c ds (bin_alloc hi _) hx hn (by omega)
  have HR1 := Lib.hid (show (Builtin.append_ #[26, 26] 26 #[.slice (some ⟨w.heap.size + 1, 0, none⟩) 0 0, .slice p n c]).run Tryd.prog ((w.alloc (.cells #[] 5)).alloc (.cells #[] 5)) = .ok (.slice (some ⟨g1, 0, none⟩) n c1) w1 from by rw [← Array.size_push] ; exact hr1)
  obtain ⟨g3, c3, w3, hr3, ho3, k3⟩ := nb_behind (w.alloc (.cells #[] 5)) w1 g1 c1 n ds ho1 k1 (by omega)
  have HR3 := Lib.hid hr3
  have HK3 := Lib.hid (show Kp w w3 from ((Kp.refl w).alloc _).trans k3)
  have HP0 := Lib.hid (show BRow w3 w.heap.size (.slice (some ⟨w.heap.size, 0, none⟩) 0 0) 0 [] from own_below (own_new w [] _ (by simp [maxLen])) k3)
  have HROW := Lib.hid ho3
  obtain ⟨_, _, hv3, hc3, hm3, hin3⟩ := own_pos ho3 (by omega)
  injection hv3 with e1 e2 e3
  injection e1 with e1
  injection e1 with e1
  subst e1 e3
  obtain ⟨E, hE⟩ : ∃ E, E = ds ++ [0] := ⟨_, rfl⟩
  rw [← hE] at hin3 ⊢
  have hEl : E.length = 2 * K := by rw [hE, ← hK]; simp [hx]
  have hEd : ∀ x ∈ E, 0 ≤ x ∧ x ≤ 9 := fun x hm => by
    rw [hE] at hm
    simp only [List.mem_append, List.mem_cons, List.not_mem_nil, or_false] at hm
    have h0 : x = 0 ∨ x ∈ ds := by
      rcases hm with h | h
      · exact .inr h
      · exact .inl h
    rcases h0 with rfl | h0
    · omega
    · exact hd x h0
  rw [show n + 1 = 2 * K from hK] at hin3 hc3
  have HIN := Lib.hid (fun i (hi : i < 2 * K) => by
    have h := bin_cells hin3 i hi
    rw [Nat.zero_add] at h
    exact h)
  have HGN := Lib.hid (show (Value.slice (some ⟨w.heap.size, 0, none⟩) 0 0).ownBlock ≠ some g3 from fun he => by
    have he2 : w.heap.size = g3 := Option.some.inj he
    have h1 := own_lt HROW.out
    have h2 : (w.alloc (.cells #[] 5)).heap.size = w.heap.size + 1 := Array.size_push _
    skip
    omega)
  have HED := Lib.hid hEd
  have HEL := Lib.hid hEl
  have hpl := prV_length E K hEl
  have HPA := Lib.hid (fun j (hj : j < K) => prV_at E j (by rw [hEl]; omega))
  obtain ⟨pv, hpv⟩ : ∃ pv, pv = prV E := ⟨_, rfl⟩
  rw [← hpv] at hpl HPA ⊢
  have HPL := Lib.hid hpl
  have HPOST := Lib.hid (fun w' v (h : BRow w' w.heap.size v (numB neg P pv).length (numB neg P pv)) (hk : Kp w w') => (show NbPost neg P pv w (.returned v) w' from ⟨v, rfl, h, hk⟩))
  have kk : ((n + 1 : Nat) : Int) = 2 * (K : Int) := by rw [hK]; omega
  have kb : (K : Int) ≤ 21 := by omega
  have k1' : (1 : Int) ≤ (K : Int) := by omega
  have hl0 : (((n : Int) % 2) == 1) = true := by
    simp
    omega
  have KK := Lib.hid hK
  clear hi hx hn hn2 hd hP hpar hlen hK hin3 hE hEl hEd hpl hpv hm3 kk ho1 k1 hr1 hr3 ho3 k3
  go_enter Tryd.func26, Tryd.ntmps26
  go_upto_region 5 with (at_builtin; refine Lib.wpList_append_run _ rfl _ _ _ _ rfl _ _ rfl rfl _ _ HR1.out ?_)
  go_upto_region 11 with (at_builtin; refine Lib.wpList_append_run _ rfl _ _ _ _ rfl _ _ rfl rfl _ _ HR3.out ?_)
  go_wp2_with fail
  obtain ⟨M, hM⟩ : ∃ M, M = 2 * K := ⟨_, rfl⟩
  rw [KK.out, ← hM]
  have HMK := Lib.hid hM
  have mb : (M : Int) ≤ 42 := by omega
  clear hM
  go_loopg [7, 10] K (fun G s7 s10 wr => ∃ (j : Nat) (v : Value), K - j = G ∧ j ≤ K ∧ v = s7 ∧ s10 = .int .i64 ((2 * j : Nat) : Int) ∧ BRow wr w.heap.size v j (pv.take j) ∧ Kp w wr ∧ (∀ i, i < 2 * K → wr.cell? ⟨g3, i, none⟩ = some (.int .u8 (E.getD i 0))) ∧ v.ownBlock ≠ some g3)
  case atStart => exact ⟨0, _, rfl, Nat.zero_le _, rfl, rfl, HP0.out, HK3.out, HIN.out, HGN.out⟩
  case round =>
    obtain ⟨j, v, rfl, hj, rfl, rfl, hrow, hkw, hin, hgn⟩ := hrel
    have HR := Lib.hid hrow
    have HKW := Lib.hid hkw
    have hjj := hj
    by_cases hlt : j < K
    · obtain ⟨t, ht⟩ : ∃ t, t = 2 * j := ⟨_, rfl⟩
      rw [← ht]
      have htM : t + 1 < M := by have := HMK.out; omega
      have s0 : (t : Int) < (M : Int) := by omega
      have s1 : (0 : Int) ≤ (t : Int) := by omega
      have s2 : ((t : Int) + 1).toNat = t + 1 := by omega
      have s3 : (t : Int) + 1 < (M : Int) := by omega
      have s4 : (0 : Int) ≤ (t : Int) + 1 := by omega
      have s5 : IntKind.i64.wrap ((t : Int) + 1) = (t : Int) + 1 := IntWalk.i64_in _ (by omega)
      have cE : ∀ i, i < 2 * K → ∃ a, a = E.getD i 0 ∧ 0 ≤ a ∧ a ≤ 9 ∧ wr.cell? ⟨g3, i, none⟩ = some (.int .u8 a) := fun i hi => by
        have hm : E.getD i 0 ∈ E := by
          rw [List.getD_eq_getElem?_getD, List.getElem?_eq_getElem (by rw [HEL.out]; exact hi)]
          exact List.getElem_mem _
        exact ⟨_, rfl, (HED.out _ hm).1, (HED.out _ hm).2, hin i hi⟩
      obtain ⟨a, ha, a0, a1, ca⟩ := cE t (by omega)
      obtain ⟨b, hb, b0, b1, cb⟩ := cE (t + 1) (by omega)
      have hpj := HPA.out j hlt
      rw [← ht, ← ha, ← hb] at hpj
      have u1 : IntKind.u8.wrap (10 * a) = 10 * a := by rw [IntKind.wrap_u8]; omega
      have u2 : IntKind.u8.wrap (10 * a + b) = 10 * a + b := by rw [IntKind.wrap_u8]; omega
      have HTK := Lib.hid (take_snoc' pv j (by rw [HPL.out]; exact hlt))
      rw [hpj] at HTK
      obtain ⟨v1, w5, r1, r2, r3, r4, r5⟩ := app_far wr.drew hrow ((Kp.refl wr).drew) hkw.size (by omega) (10 * a + b) hin (by omega) hgn
      have HA := Lib.hid (show (Builtin.append_ #[26, 26] 26 #[v, .slice (some ⟨wr.heap.size, 0, none⟩) 1 1]).run Tryd.prog (wr.drew.alloc (.cells #[.int .u8 (10 * a + b)] 5)) = .ok v1 w5 from r1)
      have HA2 := Lib.hid (show BRow w5 w.heap.size v1 (j + 1) (pv.take (j + 1)) from by rw [HTK.out]; exact r2)
      have HA3 := Lib.hid (r3 w hkw (Nat.le_refl _))
      have HA4 := Lib.hid r4
      have HA5 := Lib.hid r5
      have HCC := Lib.hid (show w5.cell? ⟨g3, t, none⟩ = some (.int .u8 a) ∧ w5.cell? ⟨g3, t + 1, none⟩ = some (.int .u8 b) from ⟨by rw [ha]; exact r4 _ (by omega), by rw [hb]; exact r4 _ (by omega)⟩)
      have HLT := Lib.hid hlt
      have HTT := Lib.hid ht
      clear ht htM cE ha hb hpj hrow hkw hin hgn r1 r2 r3 r4 r5 hlt hj hjj
      go_wp2_with fail
      go_region_held3 (fun w' => w'.cell? ⟨g3, t, none⟩ = some (.int .u8 a) ∧ w'.cell? ⟨g3, t + 1, none⟩ = some (.int .u8 b)) (first | with_reducible exact HCC.out | go_keep)
        ((refine step_app (by rfl) _ _ _ _ (by rfl) _ _ (by rfl) (by rfl) _ _ HA.out ?_))
      all_goals
        go_wp2_with fail
        go_roundg (K - (j + 1))
        case measure => have := HLT.out; omega
        case rel => exact ⟨j + 1, v1, rfl, HLT.out, rfl, int_eq (by have := HTT.out; omega), HA2.out, HA3.out, HA4.out, HA5.out⟩
    · obtain rfl : j = K := by omega
      obtain ⟨wo, rfl⟩ : ∃ wo : World, wo = wr := ⟨_, rfl⟩
      have hjM : ((2 * j : Nat) : Int) = (M : Int) := by rw [HMK.out]
      obtain ⟨gp, cp, rfl, _, _, hinp⟩ := own_pos hrow (by omega)
      have HGP := Lib.hid (fun i (hi : i < j) => by
        have h := bin_cells hinp i hi
        rw [Nat.zero_add, List.take_of_length_le (by rw [HPL.out]; exact Nat.le_refl _)] at h
        exact h)
      have HPX := Lib.hid (fun i (hi : i < j) => (show 0 ≤ pv.getD i 0 ∧ pv.getD i 0 ≤ 99 from by
        have hm : ∀ r, r < 2 * j → 0 ≤ E.getD r 0 ∧ E.getD r 0 ≤ 9 := fun r hr => HED.out _ (by
          rw [List.getD_eq_getElem?_getD, List.getElem?_eq_getElem (by rw [HEL.out]; exact hr)]
          exact List.getElem_mem _)
        have h1 := hm (2 * i) (by omega)
        have h2 := hm (2 * i + 1) (by omega)
        have h3 := HPA.out i hi
        omega))
      rw [hjM]
      clear hrow hkw hin hgn hinp hlt hj hjj hjM
      go_upto_region 16 with (fail)
      (try rw [d0])
      cases neg
      · have w0 := own_new wo [193 + P] 5 (by simp [maxLen])
        have HW0 := Lib.hid w0
        clear w0
        go_wp2_with fail
        (try rw [d0])
        go_loopg [12, 72] j (fun G sa sb wr => ∃ (i : Nat) (u : Value), j - i = G ∧ i ≤ j ∧ u = sa ∧ sb = .int .i64 (i : Int) ∧ BRow wr wo.heap.size u (i + 1) ((193 + P) :: (pv.take i).map (enc false)) ∧ Kp wo wr)
        case atStart => exact ⟨0, _, rfl, Nat.zero_le _, rfl, rfl, HW0.out, (Kp.refl wo).alloc _⟩
        case round =>
        obtain ⟨i, u, rfl, hi, rfl, rfl, hq, hkq⟩ := hrel
        have HQ := Lib.hid hq
        have HKQ := Lib.hid hkq
        by_cases hlt : i < j
        · have n1 : (i : Int) < (j : Int) := by omega
          have hcx := below_some hkq (HGP.out i hlt)
          have hxr := HPX.out i hlt
          obtain ⟨x, hx⟩ : ∃ x, x = pv.getD i 0 := ⟨_, rfl⟩
          rw [← hx] at hcx hxr
          have x0 : 0 ≤ x := hxr.1
          have x1 : x ≤ 99 := hxr.2
          obtain ⟨v5, w5, r1, r2, r3, _⟩ := app_b wr hq (Kp.refl wr) hkq.size (by omega) (x + 1)
          have HA := Lib.hid r1
          have HA2 := Lib.hid (show BRow w5 wo.heap.size v5 (i + 1 + 1) ((193 + P) :: (pv.take (i + 1)).map (enc false)) from by
            rw [take_snoc' pv i (by rw [HPL.out]; exact hlt), ← hx, List.map_append]
            exact r2)
          have HA3 := Lib.hid (r3 wo hkq (Nat.le_refl _))
          have HLT := Lib.hid hlt
          clear r1 r2 r3 hxr hx hq hkq hlt hi
          go_wp2_with (at_builtin; refine Lib.wpList_append_run _ rfl _ _ _ _ rfl _ _ rfl rfl _ _ HA.out ?_)
          go_roundg (j - (i + 1))
          case measure => have := HLT.out; omega
          case rel => exact ⟨i + 1, v5, rfl, HLT.out, rfl, by go_num, HA2.out, HA3.out⟩
        obtain rfl : i = j := by omega
        clear hlt hi hq hkq
        go_wp2_with fail
        go_ret
        exact HPOST.out _ _ (by
          have h := own_base HQ.out HKW.out.size
          rw [List.take_of_length_le (by rw [HPL.out]; exact Nat.le_refl _)] at h
          have e1 : numB false P pv = (193 + P) :: pv.map (enc false) := by simp [numB]
          have e2 : (numB false P pv).length = i + 1 := by rw [e1, List.length_cons, List.length_map, HPL.out]
          rw [e2, e1]
          exact h) (HKW.out.trans HKQ.out)
      · have w0 := own_new wo [62 - P] 5 (by simp [maxLen])
        have HW0 := Lib.hid w0
        clear w0
        go_wp2_with fail
        (try rw [d0])
        go_loopg [15, 89] j (fun G sa sb wr => ∃ (i : Nat) (u : Value), j - i = G ∧ i ≤ j ∧ u = sa ∧ sb = .int .i64 (i : Int) ∧ BRow wr wo.heap.size u (i + 1) ((62 - P) :: (pv.take i).map (enc true)) ∧ Kp wo wr)
        case atStart => exact ⟨0, _, rfl, Nat.zero_le _, rfl, rfl, HW0.out, (Kp.refl wo).alloc _⟩
        case round =>
        obtain ⟨i, u, rfl, hi, rfl, rfl, hq, hkq⟩ := hrel
        have HQ := Lib.hid hq
        have HKQ := Lib.hid hkq
        by_cases hlt : i < j
        · have n1 : (i : Int) < (j : Int) := by omega
          have hcx := below_some hkq (HGP.out i hlt)
          have hxr := HPX.out i hlt
          obtain ⟨x, hx⟩ : ∃ x, x = pv.getD i 0 := ⟨_, rfl⟩
          rw [← hx] at hcx hxr
          have x0 : 0 ≤ x := hxr.1
          have x1 : x ≤ 99 := hxr.2
          obtain ⟨v5, w5, r1, r2, r3, _⟩ := app_b wr hq (Kp.refl wr) hkq.size (by omega) (101 - x)
          have HA := Lib.hid r1
          have HA2 := Lib.hid (show BRow w5 wo.heap.size v5 (i + 1 + 1) ((62 - P) :: (pv.take (i + 1)).map (enc true)) from by
            rw [take_snoc' pv i (by rw [HPL.out]; exact hlt), ← hx, List.map_append]
            exact r2)
          have HA3 := Lib.hid (r3 wo hkq (Nat.le_refl _))
          have HLT := Lib.hid hlt
          clear r1 r2 r3 hxr hx hq hkq hlt hi
          go_wp2_with (at_builtin; refine Lib.wpList_append_run _ rfl _ _ _ _ rfl _ _ rfl rfl _ _ HA.out ?_)
          go_roundg (j - (i + 1))
          case measure => have := HLT.out; omega
          case rel => exact ⟨i + 1, v5, rfl, HLT.out, rfl, by go_num, HA2.out, HA3.out⟩
        obtain rfl : i = j := by omega
        clear hlt hi hq hkq
        by_cases h20 : i < 20
        · have n20 : (i : Int) < 20 := by omega
          obtain ⟨v5, w5, r1, r2, r3, _⟩ := app_b wr HQ.out (Kp.refl wr) HKQ.out.size (by omega) 102
          have HA := Lib.hid r1
          have HA2 := Lib.hid r2
          have HA3 := Lib.hid (r3 wo HKQ.out (Nat.le_refl _))
          have H20 := Lib.hid h20
          clear r1 r2 r3 h20
          go_wp2_with (at_builtin; refine Lib.wpList_append_run _ rfl _ _ _ _ rfl _ _ rfl rfl _ _ HA.out ?_)
          go_ret
          exact HPOST.out _ _ (by
            have h := own_base HA2.out HKW.out.size
            rw [List.take_of_length_le (by rw [HPL.out]; exact Nat.le_refl _)] at h
            have e1 : numB true P pv = (62 - P) :: pv.map (enc true) ++ [102] := by simp [numB, HPL.out, H20.out]
            have e2 : (numB true P pv).length = i + 1 + 1 := by rw [e1, List.length_append, List.length_cons, List.length_map, HPL.out]; rfl
            rw [e2, e1]
            exact h) (HKW.out.trans HA3.out)
        · have n20 : ¬ (i : Int) < 20 := by omega
          have H20 := Lib.hid h20
          clear h20
          go_wp2_with fail
          go_ret
          exact HPOST.out _ _ (by
            have h := own_base HQ.out HKW.out.size
            rw [List.take_of_length_le (by rw [HPL.out]; exact Nat.le_refl _)] at h
            have e1 : numB true P pv = (62 - P) :: pv.map (enc true) := by simp [numB, HPL.out, H20.out]
            have e2 : (numB true P pv).length = i + 1 := by rw [e1, List.length_cons, List.length_map, HPL.out]
            rw [e2, e1]
            exact h) (HKW.out.trans HKQ.out)

/-- The reference's form of digits: the form of these pairs. -/
theorem numberBytes_any (p : Option Addr) (n c : Nat) (ds : List Int) (neg : Bool) (e : Int) (w : World) (hi : Lib.BytesIn w p n ds) (hx : ds.length = n) (hn : 1 ≤ n) (hn2 : n ≤ 40) (hd : ∀ x ∈ ds, 0 ≤ x ∧ x ≤ 9) (he0 : -100 ≤ e) (he1 : e ≤ 100) :
    Calls Tryd.prog 26 #[.slice p n c, .bool neg, .int .i64 e] w (NbPost neg (e / 2) (prs (evenL e (ds.map (· + 48)))) w) := by
  have h1 := prV_prs (0 :: ds)
  have h2 := prV_prs ds
  have hl : (0 :: ds).length = 1 + n := by rw [List.length_cons, hx]; omega
  rw [hl] at h1
  rw [hx] at h2
  by_cases he : e % 2 = 0
  · have e1 : evenL e (ds.map (· + 48)) = (0 :: ds).map (· + 48) := by unfold evenL; rw [if_pos he]; rfl
    rw [e1]
    by_cases hm : (1 + n) % 2 = 1
    · rw [if_pos hm] at h1
      rw [← h1]
      by_cases hs : 0 ≤ e
      · exact nb_even_pos1 p n c ((1 + n + 1) / 2) ds neg e _ w hi hx hn hn2 hd he0 he1 rfl he hs hm (by omega)
      · exact nb_even_neg1 p n c ((1 + n + 1) / 2) ds neg e _ w hi hx hn hn2 hd he0 he1 rfl he (by omega) hm (by omega)
    · rw [if_neg hm, List.append_nil] at h1
      rw [← h1]
      by_cases hs : 0 ≤ e
      · exact nb_even_pos0 p n c ((1 + n) / 2) ds neg e _ w hi hx hn hn2 hd he0 he1 rfl he hs (by omega) (by omega)
      · exact nb_even_neg0 p n c ((1 + n) / 2) ds neg e _ w hi hx hn hn2 hd he0 he1 rfl he (by omega) (by omega) (by omega)
  · have e1 : evenL e (ds.map (· + 48)) = ds.map (· + 48) := by unfold evenL; rw [if_neg he]
    rw [e1]
    by_cases hm : n % 2 = 1
    · rw [if_pos hm] at h2
      rw [← h2]
      by_cases hs : 0 ≤ e
      · exact nb_odd_pos1 p n c ((n + 1) / 2) ds neg e _ w hi hx hn hn2 hd he0 he1 rfl (by omega) hs hm (by omega)
      · exact nb_odd_neg1 p n c ((n + 1) / 2) ds neg e _ w hi hx hn hn2 hd he0 he1 rfl (by omega) (by omega) hm (by omega)
    · rw [if_neg hm, List.append_nil] at h2
      rw [← h2]
      by_cases hs : 0 ≤ e
      · exact nb_odd_pos0 p n c (n / 2) ds neg e _ w hi hx hn hn2 hd he0 he1 rfl (by omega) hs (by omega) (by omega)
      · exact nb_odd_neg0 p n c (n / 2) ds neg e _ w hi hx hn hn2 hd he0 he1 rfl (by omega) (by omega) (by omega) (by omega)
end Go.Proofs.YtcdbnjhkjfimkaaDoor
