/-
  FnSessionPairs: keys and values with flags, one behind the other, are read again, and nothing is left.
-/
import Derived.Test.YtgjfejalinkohaaDoorSes19
namespace Go.Proofs.YtgjfejalinkohaaDoor
open Go Go.RowKit

/-- At a step of a region that draws its order: an append whose run is known. -/
theorem step_append_run {P : Program} {ops : Array Oper} {o : Oper} {a : Act} {w : World} {K : Act → World → Prop} {Q : Exit → Act → World → Prop} {E : Prop} (hgd : o.guard = none) (s x : Operand) (t tn : TypeId)
    (ho : o.op = .call { callee := .builtin .append, args := #[s, x], argTypes := #[t, tn] }) (vs vx : Value) (hs : a.eval s = vs) (hx : a.eval x = vx)
    (v' : Value) (w' : World) (hr : (Builtin.append_ #[t, tn] o.type #[vs, vx]).run P w = .ok v' w') (h : K (a.put o.dst v') w') :
    if Region.wanted o (yielded ops a.tmps) = true then Oper.wp P o a w K Q else E := by
  have hw : Region.wanted o (yielded ops a.tmps) = true := by simp [Region.wanted, hgd]
  rw [if_pos hw]
  exact Lib.wp_append_run w s x t tn ho vs vx hs hx v' w' hr h

/-- A step that writes a pair. -/
structure PairAt (XK XV : Nat → List Int) (LK LV : Nat → Nat) (fs : List Int) (r : Nat) (s : PStep) : Prop where
  kind : s.kind = 4
  ys : s.ys = XK r
  zs : s.zs = XV r
  k1 : s.k1 = LK r
  k2 : s.k2 = LV r
  fl : fs.getD r 0 = (s.flag : Int)
  m1 : LK r ≤ 600
  m2 : LV r ≤ 600

theorem PairAt.ok {XK XV : Nat → List Int} {LK LV : Nat → Nat} {fs : List Int} {r : Nat} {s : PStep} (h : PairAt XK XV LK LV fs r s) (h1 : (XK r).length = LK r) (h2 : (XV r).length = LV r) (h3 : fs.getD r 0 < 256) : s.Ok :=
  ⟨by rw [h.kind]; omega, by rw [h.ys, h.k1, h1], by rw [h.zs, h.k2, h2], by rw [h.k1]; have := h.m1; omega, by rw [h.k2]; have := h.m2; omega, by rw [h.fl] at h3; omega, fun e => by rw [h.kind] at e; omega, fun e => by rw [h.kind] at e; omega⟩
def kvRec (XK XV : Nat → List Int) (fs : List Int) (r : Nat) : GRec := ⟨XK r, XV r, fs.getD r 0, noText⟩
theorem pair_run {XK XV : Nat → List Int} {LK LV : Nat → Nat} {fs : List Int} (big : Bool) (n : Nat) (R : Nat → PStep) (h : ∀ r, r < n → PairAt XK XV LK LV fs r (R r)) (h1 : ∀ r, r < n → (XK r).length = LK r) (h2 : ∀ r, r < n → (XV r).length = LV r) (h3 : ∀ r, r < n → fs.getD r 0 < 256) :
    RunR big n (fun _ => G6) (fun r => restL big 64 R (n - r) r) (kvRec XK XV fs) := fun r hr => by
  have hp := h r hr
  have e : stepW big 64 (R r) = kvW big 64 (XK r) (XV r) (R r).flag := by simp [stepW, hp.kind, hp.ys, hp.zs]
  have hf := h3 r hr
  rw [hp.fl] at hf
  refine .inr (.inr (.inr (.inr (.inr (.inl ⟨rfl, XK r, XV r, fs.getD r 0, ?_, rfl⟩)))))
  show RdKv big (restL big 64 R (n - r) r) (XK r) (XV r) (fs.getD r 0) (restL big 64 R (n - (r + 1)) (r + 1))
  rw [rest_step big 64 R n r hr, e, hp.fl]
  exact rdKv_mk big 64 (by omega) (by omega) (fun _ => by omega) (XK r) (XV r) _ _ (by omega) (by rw [h1 r hr]; have := hp.m1; omega) (by rw [h2 r hr]; have := hp.m2; omega)
theorem gotRow_flat (Q : Nat → GPlace) (V : Nat → GRec) : ∀ k, gotRow Q V k = flatR (fun p : GPlace × GRec => gotCells p.1 p.2) (fun r => (Q r, V r)) k
  | 0 => rfl
  | k + 1 => by rw [gotRow, flatR, gotRow_flat Q V k]
theorem got_at (Q : Nat → GPlace) (V : Nat → GRec) (k r j : Nat) (u : Value) (hr : r < k) (hu : (gotCells (Q r) (V r))[j]? = some u) : (gotRow Q V k)[r * 5 + j]? = some u := by
  rw [gotRow_flat]
  exact flatR_at (size := 5) (fun _ => rfl) k r j u hr hu

set_option maxRecDepth 100000 in
set_option maxHeartbeats 16000000 in
theorem fnPairs_main (aK aV q : Option Addr) (n cK cV cf : Nat) (AK AV : Nat → Option Addr) (LK LV CK CV : Nat → Nat) (XK XV : Nat → List Int) (fs : List Int) (big : Bool) (w : World) (hrK : RowsIn w aK n AK LK CK XK) (hrV : RowsIn w aV n AV LV CV XV) (hf : Lib.BytesIn w q n fs) (hlf : fs.length = n) (hbf : ∀ x ∈ fs, 0 ≤ x ∧ x < 256) (hn : n ≤ 20) (hLK : ∀ r, r < n → LK r ≤ 2147483647) (hLV : ∀ r, r < n → LV r ≤ 2147483647) :
    Calls Tryd.prog 3 #[.slice aK n cK, .slice aV n cV, .slice q n cf, .bool big] w fun e w' => e = .returned (.bool true) ∧ Below w.heap.size w w' := by
  have i0 : (0 : Int) ≤ (n : Int) := by omega
  have i1 : (n : Int) ≤ 20 := by omega
  have HRK := Lib.hid hrK
  have HRV := Lib.hid hrV
  have HF := Lib.hid hf
  have HLF := Lib.hid hlf
  have HBF := Lib.hid hbf
  have HLK := Lib.hid hLK
  have HLV := Lib.hid hLV
  have ZK := Lib.hid (zzFits9_yes aK n cK AK LK CK XK w hrK (by omega) hLK)
  have ZV := Lib.hid (zzFits9_yes aV n cV AV LV CV XV w hrV (by omega) hLV)
  clear hrK hrV hf hlf hbf hn hLK hLV
  go_enter Tryd.func3, Tryd.ntmps3
  go_wp2_with fail
  refine ZK.out.mono ?_
  rintro e wx ⟨rfl, rfl⟩
  go_wp2_with fail
  refine ZV.out.mono ?_
  rintro e wx ⟨rfl, rfl⟩
  clear ZK ZV
  go_wp2_with fail
  go_loopg [10, 11, 49] n (fun G v u st wr => ∃ (k : Nat) (v0 u0 : Value) (R : Nat → PStep), G = n - k ∧ k ≤ n ∧ st = .int .i64 (k : Int) ∧ v0 = v ∧ u0 = u ∧ Two w.heap.size wr k v0 u0 R ∧ (∀ r, r < k → PairAt XK XV LK LV fs r (R r)) ∧ Kp w wr)
  case atStart => exact ⟨0, _, _, fun _ => ⟨4, none, 0, 0, [], none, 0, 0, [], 0, 0, 0, 0, false, false⟩, rfl, Nat.zero_le _, rfl, rfl, rfl, ⟨Coll.start _, Coll.start _, fun b hb => by simp [Value.ownBlock] at hb, fun r hr => absurd hr (by omega)⟩, fun r hr => absurd hr (by omega), Kp.refl w⟩
  case round =>
    obtain ⟨k, v, u, R, rfl, hk, rfl, rfl, rfl, htwo, hpa, hkp⟩ := hrel
    have HT := Lib.hid htwo
    have HP := Lib.hid hpa
    have HK := Lib.hid hkp
    have HKN := Lib.hid hk
    have j0 : (0 : Int) ≤ (k : Int) := by omega
    have j1 : (k : Int) ≤ (n : Int) := by omega
    clear htwo hpa hkp hk
    by_cases hlt : k < n
    · have j2 : (k : Int) < (n : Int) := by omega
      obtain ⟨b1, o1, rfl, g1, hin1, hl1, _, hc1, hm1⟩ := HRK.out k hlt
      obtain ⟨b2, o2, rfl, g2, hin2, hl2, _, hc2, hm2⟩ := HRV.out k hlt
      obtain ⟨b3, o3, rfl, hx3⟩ := HF.out (by omega)
      replace hin1 := bin_kp hin1 HK.out
      replace hin2 := bin_kp hin2 HK.out
      have g3 := hx3 k hlt
      obtain ⟨f, hf⟩ : ∃ f : Nat, fs.getD k 0 = (f : Int) := ⟨(fs.getD k 0).toNat, by
        have := HBF.out (fs.getD k 0) (by rw [List.getD, List.getElem?_eq_getElem (by have := HLF.out; omega)]; exact List.getElem_mem _)
        omega⟩
      rw [hf] at g3
      have x1 := below_some HK.out g1
      have x2 := below_some HK.out g2
      have x3 := below_some HK.out g3
      have GG := Lib.hid (And.intro g1 (And.intro g2 g3))
      clear g1 g2 g3
      have HFL := Lib.hid hf
      have l1 : (LK k : Int) ≤ 2147483647 := by have := HLK.out k hlt; omega
      have l2 : (LV k : Int) ≤ 2147483647 := by have := HLV.out k hlt; omega
      have l3 : (0 : Int) ≤ (LK k : Int) := by omega
      have l4 : (0 : Int) ≤ (LV k : Int) := by omega
      have HI1 := Lib.hid hin1
      have HI2 := Lib.hid hin2
      have HL1 := Lib.hid hl1
      have HL2 := Lib.hid hl2
      have HLT := Lib.hid hlt
      clear hin1 hin2 hl1 hl2 hc1 hm1 hc2 hm2 hx3 hlt hf
      by_cases hK6 : LK k ≤ 600
      · have m1 : (LK k : Int) ≤ 600 := by omega
        by_cases hV6 : LV k ≤ 600
        · have m2 : (LV k : Int) ≤ 600 := by omega
          have HK6 := Lib.hid hK6
          have HV6 := Lib.hid hV6
          clear hK6 hV6
          go_wp2_with fail
          go_region_held3 (fun w' => w'.cell? ⟨b1, o1 + k, none⟩ = some (.slice (AK k) (LK k) (CK k)) ∧ w'.cell? ⟨b2, o2 + k, none⟩ = some (.slice (AV k) (LV k) (CV k)) ∧ w'.cell? ⟨b3, o3 + k, none⟩ = some (.int .u8 (f : Int))) (go_keep)
            (first
              | (go_at_call 15; refine (clone_any _ (AK k) (LK k) (CK k) (XK k) (by exact HI1.out) HL1.out (by have := HK6.out; omega)).mono ?_; rintro e w3 ⟨q3, e3, rfl, hown, hb3⟩; have HO3 := Lib.hid hown; have HB3 := Lib.hid hb3; have y1 : w3.cell? ⟨b1, o1 + k, none⟩ = some (.slice (AK k) (LK k) (CK k)) := (by first | exact below_some hb3 x1 | exact below_some (w := wr.drew) hb3 x1); have y2 : w3.cell? ⟨b2, o2 + k, none⟩ = some (.slice (AV k) (LV k) (CV k)) := (by first | exact below_some hb3 x2 | exact below_some (w := wr.drew) hb3 x2); have y3 : w3.cell? ⟨b3, o3 + k, none⟩ = some (.int .u8 (f : Int)) := (by first | exact below_some hb3 x3 | exact below_some (w := wr.drew) hb3 x3); clear hown hb3 x1 x2 x3)
              | (go_at_call 15; refine (clone_any _ (AV k) (LV k) (CV k) (XV k) (by first | exact bin_below HI2.out HB3.out | exact bin_below (w := wr.drew) HI2.out HB3.out) HL2.out (by have := HV6.out; omega)).mono ?_; rintro e w4 ⟨q4, e4, rfl, hown, hb4⟩; have HO4 := Lib.hid hown; have HB4 := Lib.hid hb4; have z1 : w4.cell? ⟨b1, o1 + k, none⟩ = some (.slice (AK k) (LK k) (CK k)) := below_some hb4 y1; have z2 : w4.cell? ⟨b2, o2 + k, none⟩ = some (.slice (AV k) (LV k) (CV k)) := below_some hb4 y2; have z3 : w4.cell? ⟨b3, o3 + k, none⟩ = some (.int .u8 (f : Int)) := below_some hb4 y3; clear hown hb4 y1 y2 y3)
              | (have hk3 : Kp wr w3 := (by first | exact HB3.out | exact (Kp.refl wr).drew.call HB3.out); have HTS := Lib.hid (two_step w.heap.size wr w3 w4 k v u R HT.out HK.out.size q3 q4 (LK k) e3 (LV k) e4 f (XK k) (XV k) (by exact HO3.out) hk3 (by exact HO4.out) HB4.out (by omega)); obtain ⟨v', w5, hr1, hk5, u', w6, hr2, ht6, hk6⟩ := HTS.out; have y1 := below_some (hk5 w HK.out (Nat.le_refl _)) GG.out.1; have y2 := below_some (hk5 w HK.out (Nat.le_refl _)) GG.out.2.1; have y3 := below_some (hk5 w HK.out (Nat.le_refl _)) GG.out.2.2; clear hk5; have HR1 := Lib.hid hr1; have HR2 := Lib.hid hr2; have HT6 := Lib.hid ht6; have HK6' := Lib.hid (hk6 w HK.out (Nat.le_refl _)); clear hr1 hr2 ht6 hk6 HTS hk3 z1 z2 z3; refine step_append_run rfl _ _ _ _ rfl _ _ rfl rfl _ _ HR1.out ?_))
          all_goals
            go_wp2_with (at_builtin; refine Lib.wpList_append_run _ rfl _ _ _ _ rfl _ _ rfl rfl _ _ (by first | exact HR1.out | exact HR2.out) ?_)
            go_roundg (n - (k + 1))
            case measure => have := HLT.out; omega
            case rel =>
              exact ⟨k + 1, v', u', _, rfl, HLT.out, by go_num, rfl, rfl, HT6.out, fun r hr => by
                by_cases e : r = k
                · rw [if_pos e, e]
                  exact ⟨rfl, rfl, rfl, rfl, rfl, HFL.out, HK6.out, HV6.out⟩
                · rw [if_neg e]
                  exact HP.out r (by omega), HK6'.out⟩
        · have m2 : (600 : Int) < (LV k : Int) := by omega
          clear hK6 hV6
          go_wp2_with fail
          refine (sessionLive_any _).mono ?_
          rintro e w5 ⟨rfl, hb5⟩
          have HB5 := Lib.hid hb5
          clear hb5
          go_wp2_with fail
          go_ret
          exact ⟨rfl, Kp.call HK.out HB5.out⟩
      · have m1 : (600 : Int) < (LK k : Int) := by omega
        clear hK6
        go_wp2_with fail
        refine (sessionLive_any _).mono ?_
        rintro e w5 ⟨rfl, hb5⟩
        have HB5 := Lib.hid hb5
        clear hb5
        go_wp2_with fail
        go_ret
        exact ⟨rfl, Kp.call HK.out HB5.out⟩
    · obtain rfl : k = n := by have := HKN.out; omega
      have hx1 : ∀ r, r < k → (XK r).length = LK r := fun r hr => by obtain ⟨_, _, _, _, _, h, _⟩ := HRK.out r hr; exact h
      have hx2 : ∀ r, r < k → (XV r).length = LV r := fun r hr => by obtain ⟨_, _, _, _, _, h, _⟩ := HRV.out r hr; exact h
      have hy1 : ∀ r, r < k → Bys (XK r) := fun r hr => by obtain ⟨_, _, _, _, _, _, h, _⟩ := HRK.out r hr; exact h
      have hy2 : ∀ r, r < k → Bys (XV r) := fun r hr => by obtain ⟨_, _, _, _, _, _, h, _⟩ := HRV.out r hr; exact h
      have hx3 : ∀ r, r < k → 0 ≤ fs.getD r 0 ∧ fs.getD r 0 < 256 := fun r hr => HBF.out _ (by rw [List.getD, List.getElem?_eq_getElem (by have := HLF.out; omega)]; exact List.getElem_mem _)
      obtain ⟨a, c, rfl, hputs⟩ := HT.out.p.puts
      obtain ⟨a2, c2, rfl, hgets⟩ := HT.out.g.gets
      have hok : ∀ r, r < k → (R r).Ok := fun r hr => (HP.out r hr).ok (hx1 r hr) (hx2 r hr) (hx3 r hr).2
      have SP := Lib.hid (sessionPut_any a k c R big 64 wr hputs hok (by omega) (by omega) (by omega) (fun _ => by omega))
      have hbys : Bys (putL big 64 R k) := bys_put big 64 R k (fun r hr => by rw [(HP.out r hr).ys, (HP.out r hr).zs]; exact ⟨hy1 r hr, hy2 r hr⟩) k (Nat.le_refl _)
      have hlen := putL_len big 64 (by omega) R k hok k (Nat.le_refl _)
      have SG := Lib.hid (fun w2 q2 l2 d2 (h : Lib.BytesIn w2 q2 l2 (putL big 64 R k)) (hl : (putL big 64 R k).length = l2) (hk2 : Kp wr w2) => sessionGet_any q2 l2 d2 (putL big 64 R k) a2 k c2 (fun _ => G6) (fun r => restL big 64 R (k - r) r) (kvRec XK XV fs) big w2 h hl hbys (by omega) (hgets.kp hk2) (by omega) (rest_all big 64 R k) (pair_run big k R HP.out hx1 hx2 (fun r hr => (hx3 r hr).2)))
      have HX1 := Lib.hid hx1
      have HX2 := Lib.hid hx2
      have HX3 := Lib.hid hx3
      clear hx1 hx2 hx3 hy1 hy2 hputs hgets hok hbys hlen hlt
      go_wp2_with fail
      refine SP.out.mono ?_
      rintro e w2 ⟨q2, l2, d2, rfl, hl2, hown2, hb2⟩
      have SG2 := Lib.hid (SG.out w2 q2 l2 d2 (bin_of_own hown2) hl2 hb2)
      have HK2 := Lib.hid (HK.out.call hb2)
      clear hl2 hown2 hb2 SP SG
      go_wp2_with fail
      refine SG2.out.mono ?_
      rintro e w3 ⟨x, q4, l4, d4, Q, rfl, hown, hgots, hl4, hin4, hb3⟩
      obtain rfl : l4 = 0 := by rw [← hl4]; simp [restL]
      obtain ⟨a3, c3, rfl⟩ : ∃ a c, x = .slice a k c := by
        rcases hown.2 with ⟨rfl, h0⟩ | ⟨_, _, _, rfl, _⟩
        · exact ⟨none, 0, by rw [h0]⟩
        · exact ⟨_, _, rfl⟩
      have HK3 := Lib.hid (HK2.out.call hb3)
      have HO := Lib.hid hown
      have HG := Lib.hid hgots
      clear hown hgots hl4 hin4 hb3 SG2 HT HP
      go_wp2_with fail
      go_loopg [110] k (fun G st wr => ∃ j : Nat, G = k - j ∧ j ≤ k ∧ st = .int .i64 (j : Int) ∧ Kp w3 wr)
      case atStart => exact ⟨0, rfl, Nat.zero_le _, rfl, Kp.refl _⟩
      case round =>
        obtain ⟨j, rfl, hj, rfl, hkp⟩ := hrel
        have HKW := Lib.hid hkp
        have HJ := Lib.hid hj
        have n0 : (0 : Int) ≤ (j : Int) := by omega
        have n1 : (j : Int) ≤ (k : Int) := by omega
        clear hkp hj
        by_cases hlt : j < k
        · have n2 : (j : Int) < (k : Int) := by omega
          obtain ⟨g, cap, he, _, hcap, _, _, hcell⟩ := own_form HO.out (by omega)
          have hcc : k ≤ c3 ∧ c3 ≤ maxLen := by injection he with _ _ e3; subst e3; exact ⟨by assumption, hcap⟩
          obtain rfl : a3 = some ⟨g, 0, none⟩ := by injection he
          have hg := fun i u (hu : (gotCells (Q j) (kvRec XK XV fs j))[i]? = some u) => below_some HKW.out (hcell _ u (got_at Q (kvRec XK XV fs) k j i u hlt hu))
          obtain ⟨q1, q2b, q3b, q4b⟩ := HG.out j hlt
          generalize Q j = pl at hg q1 q2b q3b q4b
          obtain ⟨qa, ka, ma, qb, kb, mb⟩ := pl
          dsimp only at q1 q2b q3b q4b
          obtain rfl : ka = LK j := by rw [← q1]; exact HX1.out j hlt
          obtain rfl : kb = LV j := by rw [← q3b]; exact HX2.out j hlt
          obtain ⟨f, hf⟩ : ∃ f : Nat, fs.getD j 0 = (f : Int) := ⟨(fs.getD j 0).toNat, by have := (HX3.out j hlt).1; omega⟩
          have n4 : (0 : Int) ≤ (f : Int) := by omega
          have n5 : (f : Int) < 256 := by have := (HX3.out j hlt).2; omega
          have ew : IntKind.i64.wrap (f : Int) = (f : Int) := IntWalk.i64_in _ (by omega)
          have e0 : wr.cell? ⟨g, j * 5, none⟩ = some (.bool true) := hg 0 _ rfl
          have e1 : wr.cell? ⟨g, j * 5 + 1, none⟩ = some (.slice qa (LK j) ma) := hg 1 _ rfl
          have e2 : wr.cell? ⟨g, j * 5 + 2, none⟩ = some (.slice qb (LV j) mb) := hg 2 _ rfl
          have e3 : wr.cell? ⟨g, j * 5 + 3, none⟩ = some (.int .i64 (f : Int)) := hf ▸ hg 3 _ rfl
          have e4 : wr.cell? ⟨g, j * 5 + 4, none⟩ = some (.string noText) := hg 4 _ rfl
          obtain ⟨b1, o1, rfl, g1, hin1, hl1, _⟩ := HRK.out j hlt
          obtain ⟨b2, o2, rfl, g2, hin2, hl2, _⟩ := HRV.out j hlt
          obtain ⟨b3, o3, rfl, hx3⟩ := HF.out (by omega)
          have g3 := hx3 j hlt
          rw [hf] at g3
          have HKT := Lib.hid (HK3.out.trans HKW.out)
          have x1 := below_some HKT.out g1
          have x2 := below_some HKT.out g2
          have x3 := below_some HKT.out g3
          have HI1 := Lib.hid (bin_kp hin1 HKT.out)
          have HI2 := Lib.hid (bin_kp hin2 HKT.out)
          have HQ1 := Lib.hid (bin_kp q2b HKW.out)
          have HQ2 := Lib.hid (bin_kp q4b HKW.out)
          have HL1 := Lib.hid hl1
          have HL2 := Lib.hid hl2
          have HLT := Lib.hid hlt
          have n3 : (k : Int) ≤ (c3 : Int) := by omega
          clear he hcap hcell hcc hg q1 q2b q3b q4b hf g1 g2 g3 hin1 hin2 hl1 hl2 hx3 hlt
          go_wp2_with fail
          generalize hX : wr.alloc (.cells #[.bool true, .slice qa (LK j) ma, .slice qb (LV j) mb, .int .i64 (f : Int), .string noText] 39) = X
          obtain ⟨tb, htb⟩ : ∃ tb, tb = wr.heap.size := ⟨_, rfl⟩
          have HB := Lib.hid (show Blk X tb 39 #[.bool true, .slice qa (LK j) ma, .slice qb (LV j) mb, .int .i64 (f : Int), .string noText] from by rw [htb, ← hX]; exact Blk.new wr _ _)
          have hkx : Kp wr X := hX ▸ (Kp.refl wr).alloc _
          have HKX := Lib.hid (HKW.out.trans hkx)
          have f0 : X.cell? ⟨tb, 0, none⟩ = some (.bool true) := HB.out.cell 0
          have f1 : X.cell? ⟨tb, 1, none⟩ = some (.slice qa (LK j) ma) := HB.out.cell 1
          have f2 : X.cell? ⟨tb, 2, none⟩ = some (.slice qb (LV j) mb) := HB.out.cell 2
          have f3 : X.cell? ⟨tb, 3, none⟩ = some (.int .i64 (f : Int)) := HB.out.cell 3
          replace x1 := below_some hkx x1
          replace x2 := below_some hkx x2
          replace x3 := below_some hkx x3
          have HJ1 := Lib.hid (bin_kp HI1.out hkx)
          have HJ2 := Lib.hid (bin_kp HI2.out hkx)
          have HR1 := Lib.hid (bin_kp HQ1.out hkx)
          have HR2 := Lib.hid (bin_kp HQ2.out hkx)
          rw [← htb]
          clear hX htb hkx e0 e1 e2 e3 e4
          go_region_held3 (fun w' => w'.cell? ⟨tb, 0, none⟩ = some (.bool true) ∧ w'.cell? ⟨tb, 1, none⟩ = some (.slice qa (LK j) ma) ∧ w'.cell? ⟨tb, 2, none⟩ = some (.slice qb (LV j) mb) ∧ w'.cell? ⟨tb, 3, none⟩ = some (.int .i64 (f : Int)) ∧ w'.cell? ⟨b1, o1 + j, none⟩ = some (.slice (AK j) (LK j) (CK j)) ∧ w'.cell? ⟨b2, o2 + j, none⟩ = some (.slice (AV j) (LV j) (CV j)) ∧ w'.cell? ⟨b3, o3 + j, none⟩ = some (.int .u8 (f : Int))) (go_keep)
            (first
              | (go_at_call 18; refine (bytes_equal_same _ qa (AK j) (LK j) ma (CK j) (XK j) HL1.out (by exact HR1.out) (by exact HJ1.out)).mono ?_; rintro e wz ⟨rfl, rfl⟩)
              | (go_at_call 18; refine (bytes_equal_same _ qb (AV j) (LV j) mb (CV j) (XV j) HL2.out (by exact HR2.out) (by exact HJ2.out)).mono ?_; rintro e wz ⟨rfl, rfl⟩))
          all_goals
            go_wp2_with fail
            go_roundg (k - (j + 1))
            case measure => have := HLT.out; omega
            case rel => exact ⟨j + 1, rfl, HLT.out, by go_num, by first | exact HKX.out | exact HKX.out.drew⟩
        · obtain rfl : j = k := by have := HJ.out; omega
          clear hlt
          go_wp2_with fail
          refine (sessionLive_any _).mono ?_
          rintro e w5 ⟨rfl, hb5⟩
          have HB5 := Lib.hid hb5
          clear hb5
          go_wp2_with fail
          go_ret
          exact ⟨rfl, Kp.call (HK3.out.trans HKW.out) HB5.out⟩


end Go.Proofs.YtgjfejalinkohaaDoor
