/-
  A session reads CLRs, keys with values, fixed CLRs, and gives what is left.
-/
import Derived.Test.YtacmnibhdmeidaaDoorBuf2
import Derived.Test.YtacmnibhdmeidaaDoorSes2
namespace Go.Proofs.YtacmnibhdmeidaaDoor
open Go Go.RowKit

theorem Parts.cases' {big : Bool} {l out rest : List Int} (h : Parts big l out rest) : ∃ k r, RdHead big l k r ∧ k ≤ r.length ∧ (k = 0 ∧ out = [] ∧ rest = r ∨ 0 < k ∧ ∃ out', out = r.take k ++ out' ∧ Parts big (r.drop k) out' rest) := by
  cases h with
  | done h => exact ⟨0, _, h, Nat.zero_le _, .inl ⟨rfl, rfl, rfl⟩⟩
  | part h h0 hk t => exact ⟨_, _, h, hk, .inr ⟨h0, _, rfl, t⟩⟩
theorem rdHead_len {big : Bool} {l r : List Int} {k : Nat} (h : RdHead big l k r) : r.length < l.length := by
  unfold RdHead at h
  cases big
  · obtain ⟨b, _, rfl, _⟩ := h
    simp
  · obtain ⟨⟨b, t, rfl, _, _, rfl, _⟩, _⟩ := h
    simp; omega

/-- What a reader of bytes needs of memory of its own: nothing old but the session has changed. -/
theorem grown_below' {g : Nat} {w a b : World} (h : w.grownBy a (some g)) (hb : Below w.heap.size a b) : w.grownBy b (some g) :=
  ⟨hb.os.trans h.os, hb.tape.trans h.tape, hb.output.trans h.output, Nat.le_trans h.size hb.size, fun i hi hn => (hb.block i hi).trans (h.block i hi hn)⟩
theorem BufP.grown {w w' : World} {T : TypeId} {R : Nat → Option Value} {b o g : Nat} {bs : List Int} {row : Option Nat} (h : BufP w T R b o bs row) (hg : w.grownBy w' (some g)) (hb : g < b) (hr : ∀ r, row = some r → g < r) : BufP w' T R b o bs row := by
  obtain ⟨v, lr, h3, h4⟩ := h
  refine ⟨v, lr, h3.of_heap (hg.block b h3.lt (fun e => by injection e; omega)), ?_⟩
  rcases h4 with h4 | ⟨q, cap, cur, a1, a2, a3, a4, a5, a6⟩
  · exact .inl h4
  · have hlt : q < w.heap.size := by
      rcases Nat.lt_or_ge q w.heap.size with hlt | hge
      · exact hlt
      · rw [Array.getElem?_eq_none hge] at a5; cases a5
    exact .inr ⟨q, cap, cur, a1, a2, a3, a4, (hg.block q hlt (fun e => by injection e; have := hr _ a1; omega)).trans a5, a6⟩

theorem bin_far {w w' : World} {B : Nat} {q : Option Addr} {k : Nat} {ys : List Int} (h : Lib.BytesIn w q k ys) (hb : Below B w w') (hq : ∀ a, q = some a → a.block < B) : Lib.BytesIn w' q k ys := fun hn => by
  obtain ⟨b, o, rfl, hc⟩ := h hn
  exact ⟨b, o, rfl, fun j hj => (hb.cell (p := ⟨b, o + j, none⟩) (hq ⟨b, o, none⟩ rfl)).trans (hc j hj)⟩
theorem RS.below {w w' : World} {g n c i B : Nat} {p : Option Addr} {xs : List Int} {big : Bool} (h : RS w g p n c xs big i) (hb : Below B w w') (hB : g < B) : RS w' g p n c xs big i :=
  { h with
    blk := h.blk.below hb hB
    inp := bin_far h.inp hb (fun a ha => by obtain ⟨b, o, rfl, hlt⟩ := h.old a ha; dsimp only; omega) }

/-- What holds at the head of each round of GetClr's loop. -/
def ClrG (g : Nat) (p : Option Addr) (n c : Nat) (xs : List Int) (big : Bool) (d rest : List Int) (w : World) (k i : Nat) (wr : World) : Prop :=
  ∃ acc row, BufP wr 92 (fun _ => none) w.heap.size 0 acc row ∧ (∀ r, row = some r → w.heap.size ≤ r) ∧ RS wr g p n c xs big i ∧ acc.length ≤ i ∧ w.grownBy wr (some g) ∧
    (0 < k ∧ (∃ out, Parts big (xs.drop i) out rest ∧ acc ++ out = d) ∨ k = 0 ∧ xs.drop i = rest ∧ acc = d)
/-- GotB, told apart. -/
theorem gotB_mk {g : Nat} {p : Option Addr} {n c i l m : Nat} {xs : List Int} {big : Bool} {r d : List Int} {w w' : World} {q : Option Addr} {e : Ending} (he : e = .returned (.tuple #[.slice q l m, .nilIface])) (hd : d.length = l) (hin : Lib.BytesIn w' q l d) (hlm : l ≤ m) (hm : m ≤ maxLen) (hR : RS w' g p n c xs big i) (hr : r = xs.drop i) (hg : w.grownBy w' (some g)) : GotB g p n c xs big r d w e w' :=
  ⟨q, l, m, i, he, hd, hin, hlm, hm, hR, hr, hg⟩

set_option maxRecDepth 100000 in
set_option maxHeartbeats 4000000 in
theorem getClr_none (g : Nat) (p : Option Addr) (n c : Nat) (xs : List Int) (big : Bool) (i : Nat) (b : Int) (t : List Int) (w : World) (h : RS w g p n c xs big i) (hx : xs.drop i = b :: t) (hb : b = 0 ∨ b = 253 ∨ b = 255) :
    Calls Tryd.prog 51 #[.pointer (some ⟨g, 0, none⟩)] w (GotB g p n c xs big t [] w) := by
  have C := Lib.hid (getByte_any g p n c xs big i b t w h hx)
  clear h hx
  rcases hb with rfl | rfl | rfl
  all_goals
    go_enter Tryd.func51, Tryd.ntmps51
    go_wp2_with fail
    refine C.out.mono ?_
    rintro e w1 ⟨i', rfl, hR, hr, hg1⟩
    have HR := Lib.hid hR
    have HRR := Lib.hid hr
    have HG := Lib.hid hg1
    clear hR hr hg1 C
    go_wp2_with fail
    go_ret2
    exact gotB_mk rfl rfl (Lib.BytesIn.nil _ _ _) (Nat.zero_le _) (by decide) HR.out HRR.out HG.out

set_option maxRecDepth 100000 in
set_option maxHeartbeats 4000000 in
theorem getClr_short (g : Nat) (p : Option Addr) (n c : Nat) (xs : List Int) (big : Bool) (i : Nat) (b : Int) (t : List Int) (w : World) (h : RS w g p n c xs big i) (hx : xs.drop i = b :: t) (hb : 0 < b ∧ b < 253) (hl : b.toNat ≤ t.length) :
    Calls Tryd.prog 51 #[.pointer (some ⟨g, 0, none⟩)] w (GotB g p n c xs big (t.drop b.toNat) (t.take b.toNat) w) := by
  have C := Lib.hid (getByte_any g p n c xs big i b t w h hx)
  have hlt := h.blk.lt
  have hnp : 0 < n := by have := congrArg List.length hx; have := h.len; simp at *; omega
  obtain ⟨s, rfl⟩ : ∃ s : Nat, b = s := ⟨b.toNat, by omega⟩
  rw [Int.toNat_natCast] at *
  have HL := Lib.hid hl
  have i0 : (0 : Int) < (s : Int) := by omega
  have i1 : (s : Int) < 253 := by omega
  have e0 : ((s : Int) == 0) = false := by simp; omega
  have e1 : ((s : Int) == 253) = false := by simp; omega
  have e2 : ((s : Int) == 255) = false := by simp; omega
  have e3 : ((s : Int) == 254) = false := by simp; omega
  have HNM := Lib.hid h.nm
  clear h hx hb hl
  go_enter Tryd.func51, Tryd.ntmps51
  go_wp2_with fail
  refine C.out.mono ?_
  rintro e w1 ⟨i', rfl, hR, hr, hg1⟩
  have HR := Lib.hid hR
  have HRR := Lib.hid hr
  have HG := Lib.hid hg1
  clear hR hr hg1 C
  go_wp2_with fail
  have hi' : i' + s ≤ n := by
    have h1 := congrArg List.length HRR.out
    have h2 := HR.out.len
    have h3 := HL.out
    simp at h1
    have h4 := HR.out.le
    omega
  have HRA : RS (w1.alloc (.cells #[.slice none 0 0, .int .i64 0, .int .i8 0] 92)) g p n c xs big i' := HR.out.kp ((Kp.refl w1).alloc _)
  have C2 := getBytes_any g p n c xs big i' s _ HRA hi'
  rw [← List.drop_drop, ← HRR.out] at C2
  refine C2.mono ?_
  rintro e w2 ⟨q, k', m, i2, rfl, hk', hin, hkm, hmm, hq, hR, hr, hg2⟩
  have hks : k' = s := by rw [← hk', List.length_take]; exact Nat.min_eq_left HL.out
  subst hks
  have hlt1 : g < w1.heap.size := HR.out.blk.lt
  have hB := (BufP.fresh w1 92).grown hg2 hlt1 (fun r hr => by cases hr)
  have HB := Lib.hid hB
  have HK := Lib.hid hk'
  have HIN := Lib.hid hin
  have HQ := Lib.hid (hq hnp)
  have HR2 := Lib.hid hR
  have HRR2 := Lib.hid hr
  have HG2 := Lib.hid hg2
  clear hk' hin hkm hmm hq hR hr hg2 hB HRA C2
  go_wp2_with fail
  refine (write_any 92 (fun _ => none) w1.heap.size 0 [] (t.take k') none q k' m w2 HB.out HK.out (by have := HNM.out; simp; omega) HIN.out (fun a ha => by obtain ⟨b, o, rfl, hlt⟩ := HQ.out; injection ha with ha; subst ha; dsimp only; omega)).mono ?_
  rintro e w3 ⟨row3, rfl, hb3, hst3⟩
  rw [List.nil_append] at hb3
  have HB3 := Lib.hid hb3
  have HK3 := Lib.hid (hst3.below (B := w1.heap.size) (Nat.le_refl _) (fun _ h => by cases h) (by have := HG2.out.size; simp at this; omega))
  clear hb3 hst3
  go_wp2_with fail
  refine (bytes_any 92 (fun _ => none) w1.heap.size 0 _ row3 w3 HB3.out).mono ?_
  rintro e w4 ⟨a4, l4, cap4, nq, rfl, hl4, hlc4, hcm4, hin4, _, rfl⟩
  have HL4 := Lib.hid hl4
  have HLC4 := Lib.hid hlc4
  have HCM4 := Lib.hid hcm4
  have HIN4 := Lib.hid hin4
  clear hl4 hlc4 hcm4 hin4
  go_wp2_with fail
  go_ret2
  have hg12 : w1.grownBy w2 (some g) := grown_trans (grown_alloc (World.grownBy.refl w1 _) _) HG2.out
  exact gotB_mk rfl HL4.out HIN4.out HLC4.out HCM4.out ((HR2.out.below HK3.out hlt1).drewN nq) HRR2.out (grown_drewN (grown_trans HG.out (grown_below' hg12 HK3.out)) nq)
end Go.Proofs.YtacmnibhdmeidaaDoor
