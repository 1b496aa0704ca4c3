/-
  sessionPuts: the steps that write parts.
-/
import Derived.Test.YtgjfejalinkohaaDoorSes21
import Derived.Test.YtgjfejalinkohaaDoorFnPairs
import Derived.Test.YtgjfejalinkohaaDoorFnSigned
namespace Go.Proofs.YtgjfejalinkohaaDoor
open Go Go.RowKit

/-- The step that writes a part. -/
structure PutOf (s : LPart) (t : PStep) : Prop where
  kind : t.kind = s.kd % 6
  ys : t.ys = s.ys
  k1 : t.k1 = s.k1
  zs : t.zs = s.zs
  k2 : t.k2 = s.k2
  flag : t.flag = s.flag
  size : t.size = partSize s.sz
  big : t.big = s.big
  comp : t.comp = s.comp
  num : t.num = if s.kd % 6 = 2 then (partNum s.kd s.sz s.num : Int) else 0
  uns : t.uns = if s.kd % 6 = 3 then (partNum s.kd s.sz s.num : Int) else 0

theorem sc_other {w : World} {B i : Nat} {x : Value} {tb j : Nat} {v : Value} (hne : tb ≠ B) (h : w.cell? ⟨tb, j, none⟩ = some v) : (w.setCell ⟨B, i, none⟩ x).cell? ⟨tb, j, none⟩ = some v := by
  rw [World.cell?_setCell_other _ _ _ _ (fun e => hne (by injection e with e1; exact e1.symm))]; exact h
theorem nine {w : World} {B : Nat} {T : TypeId} {y0 y1 y2 y3 y4 y5 y6 y7 y8 : Value} (h : Blk w B T #[y0, y1, y2, y3, y4, y5, y6, y7, y8]) (x0 x1 x2 x3 x4 x5 x6 x7 x8 : Value) :
    Blk (((((((((w.setCell ⟨B, 0, none⟩ x0).setCell ⟨B, 1, none⟩ x1).setCell ⟨B, 2, none⟩ x2).setCell ⟨B, 3, none⟩ x3).setCell ⟨B, 4, none⟩ x4).setCell ⟨B, 5, none⟩ x5).setCell ⟨B, 6, none⟩ x6).setCell ⟨B, 7, none⟩ x7).setCell ⟨B, 8, none⟩ x8) B T #[x0, x1, x2, x3, x4, x5, x6, x7, x8] ∧ w.grownBy (((((((((w.setCell ⟨B, 0, none⟩ x0).setCell ⟨B, 1, none⟩ x1).setCell ⟨B, 2, none⟩ x2).setCell ⟨B, 3, none⟩ x3).setCell ⟨B, 4, none⟩ x4).setCell ⟨B, 5, none⟩ x5).setCell ⟨B, 6, none⟩ x6).setCell ⟨B, 7, none⟩ x7).setCell ⟨B, 8, none⟩ x8) (some B) := by
  refine ⟨?_, ?_⟩
  · have b9 := (((((((((h.set_ 0 x0).set_ 1 x1).set_ 2 x2).set_ 3 x3).set_ 4 x4).set_ 5 x5).set_ 6 x6).set_ 7 x7).set_ 8 x8)
    simpa using b9
  · exact grown_trans (grown_trans (grown_trans (grown_trans (grown_trans (grown_trans (grown_trans (grown_trans (Lib.grownBy_setCell _ _ _ _) (Lib.grownBy_setCell _ _ _ _)) (Lib.grownBy_setCell _ _ _ _)) (Lib.grownBy_setCell _ _ _ _)) (Lib.grownBy_setCell _ _ _ _)) (Lib.grownBy_setCell _ _ _ _)) (Lib.grownBy_setCell _ _ _ _)) (Lib.grownBy_setCell _ _ _ _)) (Lib.grownBy_setCell _ _ _ _)

theorem bin_set {w : World} {q : Option Addr} {n : Nat} {xs : List Int} (h : Lib.BytesIn w q n xs) {B2 i : Nat} {x : Value} (hn : ∀ a, q = some a → a.block ≠ B2) : Lib.BytesIn (w.setCell ⟨B2, i, none⟩ x) q n xs := fun hl => by
  obtain ⟨b, o, he, hc⟩ := h hl
  exact ⟨b, o, he, fun j hj => sc_other (hn _ he) (hc j hj)⟩
theorem far_set {w : World} {v : Value} {t : BRow} (h : BRow.Far w v t) {B2 i : Nat} {x : Value} : BRow.Far (w.setCell ⟨B2, i, none⟩ x) v t := fun a ha => ⟨by simpa using (h a ha).1, (h a ha).2⟩
theorem own_block {w : World} {base : Nat} {q : Option Addr} {k d : Nat} {ys : List Int} (h : w.ownsRow base 5 1 (.slice q k d) k (ys.map (Value.int .u8))) : ∀ a, q = some a → base ≤ a.block ∧ a.block < w.heap.size ∧ (Value.slice q k d).ownBlock = some a.block := fun a ha => by
  subst ha
  rcases h.2 with ⟨h1, _⟩ | ⟨g, cap, cur, h1, _⟩
  · cases h1
  · injection h1 with h3
    injection h3 with h3
    subst h3
    have h2 := h.lt g rfl
    exact ⟨h2.1, h2.2, rfl⟩
theorem cut_one {wr w1 w4 wc : World} {B B2 sz k : Nat} {e : TypeId} {v : Value} {xs : List Value} (hv : wr.ownsRow B e sz v k xs) (hk1 : Kp wr w1) {b3 : Nat} {q : Option Addr} {k1 d : Nat} {ys : List Int} (o : w4.ownsRow b3 5 1 (.slice q k1 d) k1 (ys.map (Value.int .u8))) (hb3 : w1.heap.size ≤ b3) (hg : w4.grownBy wc (some B2)) (hn : ∀ a, q = some a → a.block ≠ B2) :
    Lib.BytesIn wc q k1 ys ∧ BRow.Far wc v ⟨q, k1, ys⟩ := by
  have ox : wc.ownsRow b3 5 1 (.slice q k1 d) k1 (ys.map (Value.int .u8)) := o.kept hg (by
    rcases q with _ | a
    · exact .inl rfl
    · rw [(own_block o a rfl).2.2]
      exact .inr (fun e => hn a rfl (by injection e)))
  exact ⟨bin_of_own ox, far_new hv ox (Nat.le_trans hk1.size hb3)⟩

set_option maxRecDepth 100000 in
/-- One step is appended. -/
theorem one_step (B : Nat) (W : World) (k : Nat) (v : Value) (R : Nat → PStep) (hc : PColl B W k v R) (hB : B ≤ W.heap.size) (x : PStep) (h1 : Lib.BytesIn W x.q1 x.k1 x.ys) (h2 : Lib.BytesIn W x.q2 x.k2 x.zs) (f1 : BRow.Far W v ⟨x.q1, x.k1, x.ys⟩) (f2 : BRow.Far W v ⟨x.q2, x.k2, x.zs⟩) (hk : k ≤ 1000) :
    ∃ v' w5, (Builtin.append_ #[26, 26] 26 #[v, .slice (some ⟨W.heap.size, 0, none⟩) 1 1]).run Tryd.prog (W.alloc (.cells x.cells.toArray 31)) = .ok v' w5 ∧
      PColl B w5 (k + 1) v' (fun r => if r = k then x else R r) ∧ (∀ U, Kp U W → U.heap.size ≤ B → Kp U w5) := by
  generalize hW : W.alloc (.cells x.cells.toArray 31) = W4
  have hkW : Kp W W4 := hW ▸ (Kp.refl W).alloc _
  have hs : W4.heap.size = W.heap.size + 1 := by rw [← hW]; simp
  have hcW : PColl B W4 k v R := Coll.kp hc hkW
  obtain ⟨v', w5, r1, r2, r5, r6⟩ := app_rec Tryd.underlying26 infoPut rfl (by decide) (by decide) W4 B v k _ hcW.own W.heap.size x.cells (hW ▸ Blk.new W _ _) rfl (PStep.one _) (by omega) (by omega)
  refine ⟨v', w5, r1, Coll.app hcW r2 r5 r6 ?_ ?_, fun U hU hUB => (hU.trans hkW).grown r5 (fun b hb => by have := (own_lt' hc.own b hb).1; omega)⟩
  · intro t ht
    simp only [PStep.rows, List.mem_cons, List.not_mem_nil, or_false] at ht
    rcases ht with rfl | rfl
    · exact bin_kp h1 hkW
    · exact bin_kp h2 hkW
  · intro t ht a ha
    simp only [PStep.rows, List.mem_cons, List.not_mem_nil, or_false] at ht
    rcases ht with rfl | rfl
    · exact ⟨by have := (f1 a ha).1; omega, (f1 a ha).2⟩
    · exact ⟨by have := (f2 a ha).1; omega, (f2 a ha).2⟩

set_option maxRecDepth 100000 in
set_option maxHeartbeats 16000000 in
theorem sessionPuts_any (a : Option Addr) (n c : Nat) (P : Nat → LPart) (w : World) (h : PartsIn w a n P) (hn : n ≤ 20) (hfit : allFit 1000 P n = true) :
    Calls Tryd.prog 25 #[.slice a n c] w fun e w' => ∃ v R, e = .returned v ∧ PColl w.heap.size w' n v R ∧ (∀ r, r < n → PutOf (P r) (R r)) ∧ Kp w w' := by
  have i0 : (0 : Int) ≤ (n : Int) := by omega
  have i1 : (n : Int) ≤ 20 := by omega
  have HP := Lib.hid h
  have HFIT := Lib.hid (allFit_at 1000 P n hfit)
  clear h hn hfit
  go_enter Tryd.func25, Tryd.ntmps25
  go_wp2_with fail
  go_loopg [3, 11] n (fun G v st wr => ∃ (k : Nat) (v0 : Value) (R : Nat → PStep), G = n - k ∧ k ≤ n ∧ st = .int .i64 (k : Int) ∧ v0 = v ∧ PColl w.heap.size wr k v0 R ∧ (∀ r, r < k → PutOf (P r) (R r)) ∧ Kp w wr)
  case atStart => exact ⟨0, _, fun _ => ⟨4, none, 0, 0, [], none, 0, 0, [], 0, 0, 0, 0, false, false⟩, rfl, Nat.zero_le _, rfl, rfl, Coll.start _, fun r hr => absurd hr (by omega), Kp.refl w⟩
  case round =>
    obtain ⟨k, v, R, rfl, hk, rfl, rfl, hcl, hpo, hkp⟩ := hrel
    have HCL := Lib.hid hcl
    have HPO := Lib.hid hpo
    have HK := Lib.hid hkp
    have HKN := Lib.hid hk
    have j0 : (0 : Int) ≤ (k : Int) := by omega
    have j1 : (k : Int) ≤ (n : Int) := by omega
    clear hcl hpo hkp hk
    by_cases hlt : k < n
    · have j2 : (k : Int) < (n : Int) := by omega
      obtain ⟨b, o, rfl, hc, hin1, hin2, hok⟩ := HP.out.kp HK.out k hlt
      have HLT := Lib.hid hlt
      have hft := HFIT.out k hlt
      have HNX := Lib.hid (fun (x : PStep) (hx : PutOf (P k) x) => (fun r (hr : r < k + 1) => (by
        by_cases e : r = k
        · rw [if_pos e, e]; exact hx
        · rw [if_neg e]; exact HPO.out r (by omega) : PutOf (P r) (if r = k then x else R r))))
      clear hlt
      generalize P k = s at hc hin1 hin2 hok hft HNX
      have hl6 : s.k1 ≤ 1000 ∧ s.k2 ≤ 1000 := by simpa [LPart.fits] using hft
      have HL6 := Lib.hid hl6
      have HOK := Lib.hid hok
      have HI1 := Lib.hid hin1
      have HI2 := Lib.hid hin2
      have a0 : (0 : Int) ≤ (s.kd : Int) := by omega
      have a1 : (s.kd : Int) < 256 := by have := hok.kd; omega
      have a2 : (0 : Int) ≤ (s.flag : Int) := by omega
      have a3 : (s.flag : Int) < 256 := by have := hok.flag; omega
      have d0 : wr.cell? ⟨b, o + k * 8, none⟩ = some (.int .u8 (s.kd : Int)) := hc 0 _ rfl
      have d1 : wr.cell? ⟨b, o + k * 8 + 1, none⟩ = some (.int .u8 (s.sz : Int)) := hc 1 _ rfl
      have d2 : wr.cell? ⟨b, o + k * 8 + 2, none⟩ = some (.int .u64 (s.num : Int)) := hc 2 _ rfl
      have d3 : wr.cell? ⟨b, o + k * 8 + 3, none⟩ = some (.bool s.big) := hc 3 _ rfl
      have d4 : wr.cell? ⟨b, o + k * 8 + 4, none⟩ = some (.bool s.comp) := hc 4 _ rfl
      have d5 : wr.cell? ⟨b, o + k * 8 + 5, none⟩ = some (.int .u8 (s.flag : Int)) := hc 5 _ rfl
      have d6 : wr.cell? ⟨b, o + k * 8 + 6, none⟩ = some (.slice s.q1 s.k1 s.c1) := hc 6 _ rfl
      have d7 : wr.cell? ⟨b, o + k * 8 + 7, none⟩ = some (.slice s.q2 s.k2 s.c2) := hc 7 _ rfl
      obtain ⟨kk, hkk⟩ : ∃ kk, kk = s.kd % 6 := ⟨_, rfl⟩
      have e6 : (s.kd : Int) % 6 = (kk : Int) := by omega
      have e7 : IntKind.i64.wrap ((s.kd : Int).tmod 6) = (kk : Int) := by rw [Int.tmod_eq_emod_of_nonneg a0, e6]; exact IntWalk.i64_in _ (by omega)
      obtain ⟨sz, hsz⟩ : ∃ sz, sz = partSize s.sz := ⟨_, rfl⟩
      obtain ⟨pn, hpn⟩ : ∃ pn, pn = partNum s.kd s.sz s.num := ⟨_, rfl⟩
      have HSS := Lib.hid (fun w => sessionSize_any s.kd s.sz s.num s.big s.comp (s.flag : Int) s.q1 s.q2 s.k1 s.c1 s.k2 s.c2 w hok.kd hok.sz hok.num)
      rw [← hsz, ← hpn] at HSS
      have b0 : (0 : Int) ≤ (sz : Int) := by omega
      have b1 : (sz : Int) ≤ 8 := by have := partSize_or s.sz; omega
      have b2 : (0 : Int) ≤ (pn : Int) := by omega
      have b3 : (pn : Int) ≤ 18446744073709551615 := by have := partNum_max s.kd s.sz s.num; omega
      have HKK := Lib.hid hkk
      have HSZ := Lib.hid hsz
      have HPN := Lib.hid hpn
      clear hc hok hin1 hin2 hft hl6 hkk hsz hpn
      go_wp2_with fail
      generalize hX : wr.alloc (.cells #[.int .u8 (s.kd : Int), .int .u8 (s.sz : Int), .int .u64 (s.num : Int), .bool s.big, .bool s.comp, .int .u8 (s.flag : Int), .slice s.q1 s.k1 s.c1, .slice s.q2 s.k2 s.c2] 50) = X
      obtain ⟨tb, htb⟩ : ∃ tb, tb = wr.heap.size := ⟨_, rfl⟩
      have HB := Lib.hid (show Blk X tb 50 #[.int .u8 (s.kd : Int), .int .u8 (s.sz : Int), .int .u64 (s.num : Int), .bool s.big, .bool s.comp, .int .u8 (s.flag : Int), .slice s.q1 s.k1 s.c1, .slice s.q2 s.k2 s.c2] from by rw [htb, ← hX]; exact Blk.new wr _ _)
      have HKX := Lib.hid (show Kp wr X from hX ▸ (Kp.refl wr).alloc _)
      rw [← htb]
      clear hX htb d0 d1 d2 d3 d4 d5 d6 d7
      refine (HSS.out _).mono ?_
      rintro e w1 ⟨rfl, hb1⟩
      have hk1 : Kp wr w1 := HKX.out.trans hb1
      have HK1 := Lib.hid hk1
      have HB1 := Lib.hid (HB.out.kp hb1)
      have HJ1 := Lib.hid (bin_kp HI1.out hk1)
      have HJ2 := Lib.hid (bin_kp HI2.out hk1)
      clear hb1 hk1 HSS
      go_wp2_with fail
      go_cut [8] (fun s8 wc => ∃ (B2 : Nat) (q3 : Option Addr) (e3 : Nat) (q4 : Option Addr) (e4 : Nat), s8 = .pointer (some ⟨B2, 0, none⟩) ∧ w1.heap.size ≤ B2 ∧ Blk wc B2 31 #[.int .i64 (kk : Int), .slice q3 s.k1 e3, .slice q4 s.k2 e4, .int .i64 0, .int .u64 0, .int .u8 (sz : Int), .int .u8 (s.flag : Int), .bool s.big, .bool s.comp] ∧ Lib.BytesIn wc q3 s.k1 s.ys ∧ Lib.BytesIn wc q4 s.k2 s.zs ∧ BRow.Far wc v ⟨q3, s.k1, s.ys⟩ ∧ BRow.Far wc v ⟨q4, s.k2, s.zs⟩ ∧ (∀ a, q3 = some a → a.block ≠ B2) ∧ (∀ a, q4 = some a → a.block ≠ B2) ∧ Kp w1 wc)
      case first =>
        have f0 : w1.cell? ⟨tb, 0, none⟩ = some (.int .u8 (s.kd : Int)) := HB1.out.cell 0; have f3 : w1.cell? ⟨tb, 3, none⟩ = some (.bool s.big) := HB1.out.cell 3; have f4 : w1.cell? ⟨tb, 4, none⟩ = some (.bool s.comp) := HB1.out.cell 4; have f5 : w1.cell? ⟨tb, 5, none⟩ = some (.int .u8 (s.flag : Int)) := HB1.out.cell 5; have f6 : w1.cell? ⟨tb, 6, none⟩ = some (.slice s.q1 s.k1 s.c1) := HB1.out.cell 6; have f7 : w1.cell? ⟨tb, 7, none⟩ = some (.slice s.q2 s.k2 s.c2) := HB1.out.cell 7
        have ne1 : tb ≠ w1.heap.size := by have := HB1.out.lt; omega
        go_region_held3 (fun w' => w'.cell? ⟨tb, 0, none⟩ = some (.int .u8 (s.kd : Int)) ∧ w'.cell? ⟨tb, 3, none⟩ = some (.bool s.big) ∧ w'.cell? ⟨tb, 4, none⟩ = some (.bool s.comp) ∧ w'.cell? ⟨tb, 5, none⟩ = some (.int .u8 (s.flag : Int)) ∧ w'.cell? ⟨tb, 6, none⟩ = some (.slice s.q1 s.k1 s.c1) ∧ w'.cell? ⟨tb, 7, none⟩ = some (.slice s.q2 s.k2 s.c2)) (first | (refine ⟨?_, ?_, ?_, ?_, ?_, ?_⟩ <;> with_reducible assumption) | (refine ⟨?_, ?_, ?_, ?_, ?_, ?_⟩ <;> (refine sc_other (by with_reducible assumption) ?_; refine sc_other (by with_reducible assumption) ?_; refine sc_other (by with_reducible assumption) ?_; refine sc_other (by with_reducible assumption) ?_; refine sc_other (by with_reducible assumption) ?_; refine sc_other (by with_reducible assumption) ?_; refine sc_other (by with_reducible assumption) ?_; refine sc_other (by with_reducible assumption) ?_; refine sc_other (by with_reducible assumption) ?_; with_reducible assumption)) | go_keep)
          (first
            | (go_at_call 15; refine (clone_any (w1.drew) s.q1 s.k1 s.c1 s.ys (by first | exact HJ1.out | exact bin_alloc (w := w1.drew) HJ1.out _) HOK.out.l1 (by have := HL6.out.1; omega)).mono ?_; rintro e w3 ⟨q3, e3, rfl, hown, hb3⟩; have hk3 : Kp w1 w3 := (Kp.refl w1).drew.call hb3; have HO3 := Lib.hid hown; have HK3 := Lib.hid hk3; have ne3 : tb ≠ w3.heap.size := (by have := hk3.size; have := HB1.out.lt; omega); have y0 : w3.cell? ⟨tb, 0, none⟩ = some (.int .u8 (s.kd : Int)) := below_some hk3 f0; have y3 : w3.cell? ⟨tb, 3, none⟩ = some (.bool s.big) := below_some hk3 f3; have y4 : w3.cell? ⟨tb, 4, none⟩ = some (.bool s.comp) := below_some hk3 f4; have y5 : w3.cell? ⟨tb, 5, none⟩ = some (.int .u8 (s.flag : Int)) := below_some hk3 f5; have y6 : w3.cell? ⟨tb, 6, none⟩ = some (.slice s.q1 s.k1 s.c1) := below_some hk3 f6; have y7 : w3.cell? ⟨tb, 7, none⟩ = some (.slice s.q2 s.k2 s.c2) := below_some hk3 f7; clear hown hb3 hk3 f0 f3 f4 f5 f6 f7)
            | (go_at_call 15; refine (clone_any (w1.drew.alloc (.cells #[.int .i64 0, .slice none 0 0, .slice none 0 0, .int .i64 0, .int .u64 0, .int .u8 0, .int .u8 0, .bool false, .bool false] 31)) s.q1 s.k1 s.c1 s.ys (by first | exact HJ1.out | exact bin_alloc (w := w1.drew) HJ1.out _) HOK.out.l1 (by have := HL6.out.1; omega)).mono ?_; rintro e w3 ⟨q3, e3, rfl, hown, hb3⟩; have hk3 : Kp w1 w3 := ((Kp.refl w1).drew.alloc _).call hb3; have HO3 := Lib.hid hown; have HK3 := Lib.hid hk3; have ne3 : tb ≠ w3.heap.size := (by have := hk3.size; have := HB1.out.lt; omega); have y0 : w3.cell? ⟨tb, 0, none⟩ = some (.int .u8 (s.kd : Int)) := below_some hk3 f0; have y3 : w3.cell? ⟨tb, 3, none⟩ = some (.bool s.big) := below_some hk3 f3; have y4 : w3.cell? ⟨tb, 4, none⟩ = some (.bool s.comp) := below_some hk3 f4; have y5 : w3.cell? ⟨tb, 5, none⟩ = some (.int .u8 (s.flag : Int)) := below_some hk3 f5; have y6 : w3.cell? ⟨tb, 6, none⟩ = some (.slice s.q1 s.k1 s.c1) := below_some hk3 f6; have y7 : w3.cell? ⟨tb, 7, none⟩ = some (.slice s.q2 s.k2 s.c2) := below_some hk3 f7; have hbl : Blk w3 w1.heap.size 31 #[.int .i64 0, .slice none 0 0, .slice none 0 0, .int .i64 0, .int .u64 0, .int .u8 0, .int .u8 0, .bool false, .bool false] := (Blk.new w1.drew _ _).old hb3; have HBL3 := Lib.hid hbl; have p0 : w3.cell? ⟨w1.heap.size, 0, none⟩ = some (.int .i64 0) := hbl.cell 0; have pf0 : w3.frozen? ⟨w1.heap.size, 0, none⟩ = false := hbl.frozen 0; have p1 : w3.cell? ⟨w1.heap.size, 1, none⟩ = some (.slice none 0 0) := hbl.cell 1; have pf1 : w3.frozen? ⟨w1.heap.size, 1, none⟩ = false := hbl.frozen 1; have p2 : w3.cell? ⟨w1.heap.size, 2, none⟩ = some (.slice none 0 0) := hbl.cell 2; have pf2 : w3.frozen? ⟨w1.heap.size, 2, none⟩ = false := hbl.frozen 2; have p3 : w3.cell? ⟨w1.heap.size, 3, none⟩ = some (.int .i64 0) := hbl.cell 3; have pf3 : w3.frozen? ⟨w1.heap.size, 3, none⟩ = false := hbl.frozen 3; have p4 : w3.cell? ⟨w1.heap.size, 4, none⟩ = some (.int .u64 0) := hbl.cell 4; have pf4 : w3.frozen? ⟨w1.heap.size, 4, none⟩ = false := hbl.frozen 4; have p5 : w3.cell? ⟨w1.heap.size, 5, none⟩ = some (.int .u8 0) := hbl.cell 5; have pf5 : w3.frozen? ⟨w1.heap.size, 5, none⟩ = false := hbl.frozen 5; have p6 : w3.cell? ⟨w1.heap.size, 6, none⟩ = some (.int .u8 0) := hbl.cell 6; have pf6 : w3.frozen? ⟨w1.heap.size, 6, none⟩ = false := hbl.frozen 6; have p7 : w3.cell? ⟨w1.heap.size, 7, none⟩ = some (.bool false) := hbl.cell 7; have pf7 : w3.frozen? ⟨w1.heap.size, 7, none⟩ = false := hbl.frozen 7; have p8 : w3.cell? ⟨w1.heap.size, 8, none⟩ = some (.bool false) := hbl.cell 8; have pf8 : w3.frozen? ⟨w1.heap.size, 8, none⟩ = false := hbl.frozen 8; clear hbl; clear hown hb3 hk3 f0 f3 f4 f5 f6 f7)
            | (go_at_call 15; refine (clone_any (w3) s.q2 s.k2 s.c2 s.zs (by first | exact bin_kp HJ2.out HK3.out | exact bin_alloc (bin_kp HJ2.out HK3.out) _) HOK.out.l2 (by have := HL6.out.2; omega)).mono ?_; rintro e w4 ⟨q4, e4, rfl, hown, hb4⟩; have hk4 : Kp w3 w4 := (Kp.refl w3).call hb4; have HO4 := Lib.hid hown; have HK4 := Lib.hid hk4; have ne4 : tb ≠ w4.heap.size := (by have := hk4.size; have := HK3.out.size; have := HB1.out.lt; omega); have z0 : w4.cell? ⟨tb, 0, none⟩ = some (.int .u8 (s.kd : Int)) := below_some hk4 y0; have z3 : w4.cell? ⟨tb, 3, none⟩ = some (.bool s.big) := below_some hk4 y3; have z4 : w4.cell? ⟨tb, 4, none⟩ = some (.bool s.comp) := below_some hk4 y4; have z5 : w4.cell? ⟨tb, 5, none⟩ = some (.int .u8 (s.flag : Int)) := below_some hk4 y5; have z6 : w4.cell? ⟨tb, 6, none⟩ = some (.slice s.q1 s.k1 s.c1) := below_some hk4 y6; have z7 : w4.cell? ⟨tb, 7, none⟩ = some (.slice s.q2 s.k2 s.c2) := below_some hk4 y7; have hbl : Blk w4 w1.heap.size 31 #[.int .i64 0, .slice none 0 0, .slice none 0 0, .int .i64 0, .int .u64 0, .int .u8 0, .int .u8 0, .bool false, .bool false] := HBL3.out.old hb4; have HBL4 := Lib.hid hbl; have r0 : w4.cell? ⟨w1.heap.size, 0, none⟩ = some (.int .i64 0) := hbl.cell 0; have rf0 : w4.frozen? ⟨w1.heap.size, 0, none⟩ = false := hbl.frozen 0; have r1 : w4.cell? ⟨w1.heap.size, 1, none⟩ = some (.slice none 0 0) := hbl.cell 1; have rf1 : w4.frozen? ⟨w1.heap.size, 1, none⟩ = false := hbl.frozen 1; have r2 : w4.cell? ⟨w1.heap.size, 2, none⟩ = some (.slice none 0 0) := hbl.cell 2; have rf2 : w4.frozen? ⟨w1.heap.size, 2, none⟩ = false := hbl.frozen 2; have r3 : w4.cell? ⟨w1.heap.size, 3, none⟩ = some (.int .i64 0) := hbl.cell 3; have rf3 : w4.frozen? ⟨w1.heap.size, 3, none⟩ = false := hbl.frozen 3; have r4 : w4.cell? ⟨w1.heap.size, 4, none⟩ = some (.int .u64 0) := hbl.cell 4; have rf4 : w4.frozen? ⟨w1.heap.size, 4, none⟩ = false := hbl.frozen 4; have r5 : w4.cell? ⟨w1.heap.size, 5, none⟩ = some (.int .u8 0) := hbl.cell 5; have rf5 : w4.frozen? ⟨w1.heap.size, 5, none⟩ = false := hbl.frozen 5; have r6 : w4.cell? ⟨w1.heap.size, 6, none⟩ = some (.int .u8 0) := hbl.cell 6; have rf6 : w4.frozen? ⟨w1.heap.size, 6, none⟩ = false := hbl.frozen 6; have r7 : w4.cell? ⟨w1.heap.size, 7, none⟩ = some (.bool false) := hbl.cell 7; have rf7 : w4.frozen? ⟨w1.heap.size, 7, none⟩ = false := hbl.frozen 7; have r8 : w4.cell? ⟨w1.heap.size, 8, none⟩ = some (.bool false) := hbl.cell 8; have rf8 : w4.frozen? ⟨w1.heap.size, 8, none⟩ = false := hbl.frozen 8; clear hbl p0 p1 p2 p3 p4 p5 p6 p7 p8 pf0 pf1 pf2 pf3 pf4 pf5 pf6 pf7 pf8; clear hown hb4 hk4 y0 y3 y4 y5 y6 y7)
            | (go_at_call 15; refine (clone_any (w3) s.q2 s.k2 s.c2 s.zs (by first | exact bin_kp HJ2.out HK3.out | exact bin_alloc (bin_kp HJ2.out HK3.out) _) HOK.out.l2 (by have := HL6.out.2; omega)).mono ?_; rintro e w4 ⟨q4, e4, rfl, hown, hb4⟩; have hk4 : Kp w3 w4 := (Kp.refl w3).call hb4; have HO4 := Lib.hid hown; have HK4 := Lib.hid hk4; have ne4 : tb ≠ w4.heap.size := (by have := hk4.size; have := HK3.out.size; have := HB1.out.lt; omega); have z0 : w4.cell? ⟨tb, 0, none⟩ = some (.int .u8 (s.kd : Int)) := below_some hk4 y0; have z3 : w4.cell? ⟨tb, 3, none⟩ = some (.bool s.big) := below_some hk4 y3; have z4 : w4.cell? ⟨tb, 4, none⟩ = some (.bool s.comp) := below_some hk4 y4; have z5 : w4.cell? ⟨tb, 5, none⟩ = some (.int .u8 (s.flag : Int)) := below_some hk4 y5; have z6 : w4.cell? ⟨tb, 6, none⟩ = some (.slice s.q1 s.k1 s.c1) := below_some hk4 y6; have z7 : w4.cell? ⟨tb, 7, none⟩ = some (.slice s.q2 s.k2 s.c2) := below_some hk4 y7; clear hown hb4 hk4 y0 y3 y4 y5 y6 y7)
            | (go_at_call 15; refine (clone_any (w3.alloc (.cells #[.int .i64 0, .slice none 0 0, .slice none 0 0, .int .i64 0, .int .u64 0, .int .u8 0, .int .u8 0, .bool false, .bool false] 31)) s.q2 s.k2 s.c2 s.zs (by first | exact bin_kp HJ2.out HK3.out | exact bin_alloc (bin_kp HJ2.out HK3.out) _) HOK.out.l2 (by have := HL6.out.2; omega)).mono ?_; rintro e w4 ⟨q4, e4, rfl, hown, hb4⟩; have hk4 : Kp w3 w4 := ((Kp.refl w3).alloc _).call hb4; have HO4 := Lib.hid hown; have HK4 := Lib.hid hk4; have ne4 : tb ≠ w4.heap.size := (by have := hk4.size; have := HK3.out.size; have := HB1.out.lt; omega); have z0 : w4.cell? ⟨tb, 0, none⟩ = some (.int .u8 (s.kd : Int)) := below_some hk4 y0; have z3 : w4.cell? ⟨tb, 3, none⟩ = some (.bool s.big) := below_some hk4 y3; have z4 : w4.cell? ⟨tb, 4, none⟩ = some (.bool s.comp) := below_some hk4 y4; have z5 : w4.cell? ⟨tb, 5, none⟩ = some (.int .u8 (s.flag : Int)) := below_some hk4 y5; have z6 : w4.cell? ⟨tb, 6, none⟩ = some (.slice s.q1 s.k1 s.c1) := below_some hk4 y6; have z7 : w4.cell? ⟨tb, 7, none⟩ = some (.slice s.q2 s.k2 s.c2) := below_some hk4 y7; have hbl : Blk w4 w3.heap.size 31 #[.int .i64 0, .slice none 0 0, .slice none 0 0, .int .i64 0, .int .u64 0, .int .u8 0, .int .u8 0, .bool false, .bool false] := (Blk.new w3 _ _).old hb4; have HBL4 := Lib.hid hbl; have r0 : w4.cell? ⟨w3.heap.size, 0, none⟩ = some (.int .i64 0) := hbl.cell 0; have rf0 : w4.frozen? ⟨w3.heap.size, 0, none⟩ = false := hbl.frozen 0; have r1 : w4.cell? ⟨w3.heap.size, 1, none⟩ = some (.slice none 0 0) := hbl.cell 1; have rf1 : w4.frozen? ⟨w3.heap.size, 1, none⟩ = false := hbl.frozen 1; have r2 : w4.cell? ⟨w3.heap.size, 2, none⟩ = some (.slice none 0 0) := hbl.cell 2; have rf2 : w4.frozen? ⟨w3.heap.size, 2, none⟩ = false := hbl.frozen 2; have r3 : w4.cell? ⟨w3.heap.size, 3, none⟩ = some (.int .i64 0) := hbl.cell 3; have rf3 : w4.frozen? ⟨w3.heap.size, 3, none⟩ = false := hbl.frozen 3; have r4 : w4.cell? ⟨w3.heap.size, 4, none⟩ = some (.int .u64 0) := hbl.cell 4; have rf4 : w4.frozen? ⟨w3.heap.size, 4, none⟩ = false := hbl.frozen 4; have r5 : w4.cell? ⟨w3.heap.size, 5, none⟩ = some (.int .u8 0) := hbl.cell 5; have rf5 : w4.frozen? ⟨w3.heap.size, 5, none⟩ = false := hbl.frozen 5; have r6 : w4.cell? ⟨w3.heap.size, 6, none⟩ = some (.int .u8 0) := hbl.cell 6; have rf6 : w4.frozen? ⟨w3.heap.size, 6, none⟩ = false := hbl.frozen 6; have r7 : w4.cell? ⟨w3.heap.size, 7, none⟩ = some (.bool false) := hbl.cell 7; have rf7 : w4.frozen? ⟨w3.heap.size, 7, none⟩ = false := hbl.frozen 7; have r8 : w4.cell? ⟨w3.heap.size, 8, none⟩ = some (.bool false) := hbl.cell 8; have rf8 : w4.frozen? ⟨w3.heap.size, 8, none⟩ = false := hbl.frozen 8; clear hbl; clear hown hb4 hk4 y0 y3 y4 y5 y6 y7))
        · go_wp2_with fail
          go_meet
          have hk3 := HK3.out
          have hk4 := HK4.out
          have s3 := hk3.size
          have s4 := hk4.size
          have o3 := own_block HO3.out
          have o4 := own_block HO4.out
          have n3 : ∀ a, q3 = some a → a.block ≠ w4.heap.size := fun a ha => by have := o3 a ha; omega
          have n4 : ∀ a, q4 = some a → a.block ≠ w4.heap.size := fun a ha => by have := o4 a ha; omega
          refine ⟨w4.heap.size, q3, e3, q4, e4, rfl, by omega, ?_, ?_⟩
          · exact Blk.new w4 _ _
          · obtain ⟨c1, c2⟩ := cut_one HCL.out.own HK1.out (own_below HO3.out hk4) (Nat.le_refl _) (grown_alloc (World.grownBy.refl w4 (some w4.heap.size)) _) n3
            obtain ⟨c3, c4⟩ := cut_one HCL.out.own HK1.out HO4.out s3 (grown_alloc (World.grownBy.refl w4 (some w4.heap.size)) _) n4
            exact ⟨c1, c3, c2, c4, n3, n4, (hk3.trans hk4).grown (grown_alloc (World.grownBy.refl w4 (some w4.heap.size)) _) (fun b hb => by injection hb with hb; omega)⟩
        · go_wp2_with fail
          go_meet
          have hk3 := HK3.out
          have hk4 := HK4.out
          have s3 := hk3.size
          have s4 := hk4.size
          have o3 := own_block HO3.out
          have o4 := own_block HO4.out
          have HN9 := nine HBL4.out (.int .i64 (kk : Int)) (.slice q3 s.k1 e3) (.slice q4 s.k2 e4) (.int .i64 0) (.int .u64 0) (.int .u8 (sz : Int)) (.int .u8 (s.flag : Int)) (.bool s.big) (.bool s.comp)
          have n3 : ∀ a, q3 = some a → a.block ≠ w3.heap.size := fun a ha => by have := o3 a ha; omega
          have n4 : ∀ a, q4 = some a → a.block ≠ w3.heap.size := fun a ha => by have := o4 a ha; simp at this; omega
          refine ⟨w3.heap.size, q3, e3, q4, e4, rfl, by omega, ?_, ?_⟩
          · exact HN9.1
          · obtain ⟨c1, c2⟩ := cut_one HCL.out.own HK1.out (own_below HO3.out hk4) (Nat.le_refl _) HN9.2 n3
            obtain ⟨c3, c4⟩ := cut_one HCL.out.own HK1.out HO4.out (by simp; omega) HN9.2 n4
            exact ⟨c1, c3, c2, c4, n3, n4, (hk3.trans hk4).grown HN9.2 (fun b hb => by injection hb with hb; omega)⟩
        · go_wp2_with fail
          go_meet
          have hk3 := HK3.out
          have hk4 := HK4.out
          have s3 := hk3.size
          have s4 := hk4.size
          have o3 := own_block HO3.out
          have o4 := own_block HO4.out
          have HN9 := nine HBL4.out (.int .i64 (kk : Int)) (.slice q3 s.k1 e3) (.slice q4 s.k2 e4) (.int .i64 0) (.int .u64 0) (.int .u8 (sz : Int)) (.int .u8 (s.flag : Int)) (.bool s.big) (.bool s.comp)
          have n3 : ∀ a, q3 = some a → a.block ≠ w1.heap.size := fun a ha => by have := o3 a ha; simp at this; omega
          have n4 : ∀ a, q4 = some a → a.block ≠ w1.heap.size := fun a ha => by have := o4 a ha; have := HBL3.out.lt; omega
          refine ⟨w1.heap.size, q3, e3, q4, e4, rfl, by omega, ?_, ?_⟩
          · exact HN9.1
          · obtain ⟨c1, c2⟩ := cut_one HCL.out.own HK1.out (own_below HO3.out hk4) (by simp) HN9.2 n3
            obtain ⟨c3, c4⟩ := cut_one HCL.out.own HK1.out HO4.out s3 HN9.2 n4
            exact ⟨c1, c3, c2, c4, n3, n4, (hk3.trans hk4).grown HN9.2 (fun b hb => by injection hb with hb; omega)⟩
      case rest =>
        obtain ⟨B2, q3, e3, q4, e4, rfl, hb2, hblk, hin3, hin4, hf3, hf4, hn3, hn4, hkx⟩ := hcut
        have hB2 : wr.heap.size ≤ B2 := by have := HK1.out.size; omega
        have HKW := Lib.hid (show Kp wr wc from HK1.out.trans hkx)
        have HMK := Lib.hid (fun (W : World) (num uns : Int) (hkW : Kp wr W) (g3 : Lib.BytesIn W q3 s.k1 s.ys) (g4 : Lib.BytesIn W q4 s.k2 s.zs) (g5 : BRow.Far W v ⟨q3, s.k1, s.ys⟩) (g6 : BRow.Far W v ⟨q4, s.k2, s.zs⟩) =>
          one_step w.heap.size W k v R (Coll.kp HCL.out hkW) (by have := HK.out.size; have := hkW.size; omega) ⟨kk, q3, s.k1, e3, s.ys, q4, s.k2, e4, s.zs, num, uns, sz, s.flag, s.big, s.comp⟩ g3 g4 g5 g6 (by have := HLT.out; omega))
        have HBL := Lib.hid hblk
        have HG := Lib.hid (And.intro hin3 (And.intro hin4 (And.intro hf3 (And.intro hf4 (And.intro hn3 hn4)))))
        have HB2 := Lib.hid hB2
        have p0 : wc.cell? ⟨B2, 0, none⟩ = some (.int .i64 (kk : Int)) := hblk.cell 0; have p1 : wc.cell? ⟨B2, 1, none⟩ = some (.slice q3 s.k1 e3) := hblk.cell 1; have p2 : wc.cell? ⟨B2, 2, none⟩ = some (.slice q4 s.k2 e4) := hblk.cell 2; have p3 : wc.cell? ⟨B2, 3, none⟩ = some (.int .i64 0) := hblk.cell 3; have p4 : wc.cell? ⟨B2, 4, none⟩ = some (.int .u64 0) := hblk.cell 4; have p5 : wc.cell? ⟨B2, 5, none⟩ = some (.int .u8 (sz : Int)) := hblk.cell 5; have p6 : wc.cell? ⟨B2, 6, none⟩ = some (.int .u8 (s.flag : Int)) := hblk.cell 6; have p7 : wc.cell? ⟨B2, 7, none⟩ = some (.bool s.big) := hblk.cell 7; have p8 : wc.cell? ⟨B2, 8, none⟩ = some (.bool s.comp) := hblk.cell 8; have pf3 : wc.frozen? ⟨B2, 3, none⟩ = false := hblk.frozen 3; have pf4 : wc.frozen? ⟨B2, 4, none⟩ = false := hblk.frozen 4
        clear hb2 hblk hin3 hin4 hf3 hf4 hn3 hn4 hkx hB2 e6 e7
        by_cases h2 : kk = 2
        · have e2 : (kk : Int) = 2 := by omega
          rw [e2] at p0
          have c1 : IntKind.i64.wrap (pn : Int) = (pn : Int) := IntWalk.i64_in _ (by have := partNum_half s.kd s.sz s.num (by have := HKK.out; omega); rw [← HPN.out] at this; omega)
          obtain ⟨v', w5, hr, hcc, hkk⟩ := HMK.out (wc.setCell ⟨B2, 3, none⟩ (.int .i64 (pn : Int))) (pn : Int) 0 (HKW.out.set HB2.out _) (bin_set HG.out.1 HG.out.2.2.2.2.1) (bin_set HG.out.2.1 HG.out.2.2.2.2.2) (far_set HG.out.2.2.1) (far_set HG.out.2.2.2.1)
          have h9 : (wc.setCell ⟨B2, 3, none⟩ (.int .i64 (pn : Int))).heap.size = wc.heap.size := by simp
          rw [h9] at hr
          have HR := Lib.hid (show (Builtin.append_ #[26, 26] 26 #[v, .slice (some ⟨wc.heap.size, 0, none⟩) 1 1]).run Tryd.prog ((wc.setCell ⟨B2, 3, none⟩ (.int .i64 (pn : Int))).alloc (.cells #[.int .i64 2, .slice q3 s.k1 e3, .slice q4 s.k2 e4, .int .i64 (pn : Int), .int .u64 0, .int .u8 (sz : Int), .int .u8 (s.flag : Int), .bool s.big, .bool s.comp] 31)) = .ok v' w5 from e2 ▸ hr)
          have HCC := Lib.hid hcc
          have HKE := Lib.hid (hkk w (HK.out.trans (HKW.out.set HB2.out _)) (Nat.le_refl _))
          clear hr hcc hkk HMK h9 e2
          go_wp2_with (at_builtin; refine Lib.wpList_append_run _ rfl _ _ _ _ rfl _ _ rfl rfl _ _ HR.out ?_)
          go_roundg (n - (k + 1))
          case measure => have := HLT.out; omega
          case rel => exact ⟨k + 1, v', _, rfl, HLT.out, by go_num, rfl, HCC.out, HNX.out _ ⟨HKK.out, rfl, rfl, rfl, rfl, rfl, HSZ.out, rfl, rfl, by first | (rw [if_pos (by have := HKK.out; omega), ← HPN.out]) | (rw [if_neg (by have := HKK.out; omega)]) | (rw [if_neg (by have := HKK.out; have := H23.out; omega)]), by first | (rw [if_pos (by have := HKK.out; omega), ← HPN.out]) | (rw [if_neg (by have := HKK.out; omega)]) | (rw [if_neg (by have := HKK.out; have := H23.out; omega)])⟩, HKE.out⟩
        · by_cases h3 : kk = 3
          · have e2 : (kk : Int) = 3 := by omega
            rw [e2] at p0
            obtain ⟨v', w5, hr, hcc, hkk⟩ := HMK.out (wc.setCell ⟨B2, 4, none⟩ (.int .u64 (pn : Int))) 0 (pn : Int) (HKW.out.set HB2.out _) (bin_set HG.out.1 HG.out.2.2.2.2.1) (bin_set HG.out.2.1 HG.out.2.2.2.2.2) (far_set HG.out.2.2.1) (far_set HG.out.2.2.2.1)
            have h9 : (wc.setCell ⟨B2, 4, none⟩ (.int .u64 (pn : Int))).heap.size = wc.heap.size := by simp
            rw [h9] at hr
            have HR := Lib.hid (show (Builtin.append_ #[26, 26] 26 #[v, .slice (some ⟨wc.heap.size, 0, none⟩) 1 1]).run Tryd.prog ((wc.setCell ⟨B2, 4, none⟩ (.int .u64 (pn : Int))).alloc (.cells #[.int .i64 3, .slice q3 s.k1 e3, .slice q4 s.k2 e4, .int .i64 0, .int .u64 (pn : Int), .int .u8 (sz : Int), .int .u8 (s.flag : Int), .bool s.big, .bool s.comp] 31)) = .ok v' w5 from e2 ▸ hr)
            have HCC := Lib.hid hcc
            have HKE := Lib.hid (hkk w (HK.out.trans (HKW.out.set HB2.out _)) (Nat.le_refl _))
            clear hr hcc hkk HMK h9 e2
            go_wp2_with (at_builtin; refine Lib.wpList_append_run _ rfl _ _ _ _ rfl _ _ rfl rfl _ _ HR.out ?_)
            go_roundg (n - (k + 1))
            case measure => have := HLT.out; omega
            case rel => exact ⟨k + 1, v', _, rfl, HLT.out, by go_num, rfl, HCC.out, HNX.out _ ⟨HKK.out, rfl, rfl, rfl, rfl, rfl, HSZ.out, rfl, rfl, by first | (rw [if_pos (by have := HKK.out; omega), ← HPN.out]) | (rw [if_neg (by have := HKK.out; omega)]) | (rw [if_neg (by have := HKK.out; have := H23.out; omega)]), by first | (rw [if_pos (by have := HKK.out; omega), ← HPN.out]) | (rw [if_neg (by have := HKK.out; omega)]) | (rw [if_neg (by have := HKK.out; have := H23.out; omega)])⟩, HKE.out⟩
          · have m2 : ((kk : Int) == 2) = false := by simp; omega
            have m3 : ((kk : Int) == 3) = false := by simp; omega
            have H23 := Lib.hid (And.intro h2 h3)
            clear h2 h3
            obtain ⟨v', w5, hr, hcc, hkk⟩ := HMK.out wc 0 0 HKW.out HG.out.1 HG.out.2.1 HG.out.2.2.1 HG.out.2.2.2.1
            have h9 : wc.heap.size = wc.heap.size := by rfl
            rw [h9] at hr
            have HR := Lib.hid (show (Builtin.append_ #[26, 26] 26 #[v, .slice (some ⟨wc.heap.size, 0, none⟩) 1 1]).run Tryd.prog (wc.alloc (.cells #[.int .i64 (kk : Int), .slice q3 s.k1 e3, .slice q4 s.k2 e4, .int .i64 0, .int .u64 0, .int .u8 (sz : Int), .int .u8 (s.flag : Int), .bool s.big, .bool s.comp] 31)) = .ok v' w5 from hr)
            have HCC := Lib.hid hcc
            have HKE := Lib.hid (hkk w (HK.out.trans (HKW.out)) (Nat.le_refl _))
            clear hr hcc hkk HMK h9
            go_wp2_with (at_builtin; refine Lib.wpList_append_run _ rfl _ _ _ _ rfl _ _ rfl rfl _ _ HR.out ?_)
            go_roundg (n - (k + 1))
            case measure => have := HLT.out; omega
            case rel => exact ⟨k + 1, v', _, rfl, HLT.out, by go_num, rfl, HCC.out, HNX.out _ ⟨HKK.out, rfl, rfl, rfl, rfl, rfl, HSZ.out, rfl, rfl, by first | (rw [if_pos (by have := HKK.out; omega), ← HPN.out]) | (rw [if_neg (by have := HKK.out; omega)]) | (rw [if_neg (by have := HKK.out; have := H23.out; omega)]), by first | (rw [if_pos (by have := HKK.out; omega), ← HPN.out]) | (rw [if_neg (by have := HKK.out; omega)]) | (rw [if_neg (by have := HKK.out; have := H23.out; omega)])⟩, HKE.out⟩
    · obtain rfl : k = n := by have := HKN.out; omega
      clear hlt
      go_wp2_with fail
      go_ret
      exact ⟨v, R, rfl, HCL.out, HPO.out, HK.out⟩
end Go.Proofs.YtgjfejalinkohaaDoor
