/-
  A session writes CLRs, keys with values, fixed CLRs.
-/
import Derived.Test.YtacmnibhdmeidaaDoorSes4
namespace Go.Proofs.YtacmnibhdmeidaaDoor
open Go Go.RowKit

theorem sig4 (n : Nat) (h : n ≤ 1000000) : (sig n).length ≤ 4 := sig_small 4 n (Nat.lt_of_le_of_lt h (by decide))
theorem headW_len (big : Bool) (k : Nat) : (headW big k).length ≤ 9 := by
  unfold headW
  split
  · have := sig_le k; simp [packed]; omega
  · simp
theorem chunks_len (big : Bool) (chunk : Nat) (hc : 0 < chunk) : ∀ (f : Nat) (d : List Int), (chunks big chunk f d).length ≤ 10 * d.length
  | 0, _ => by simp [chunks]
  | f + 1, d => by
    unfold chunks
    split
    · simp
    · next hd =>
      have hp : 0 < d.length := List.length_pos_iff.2 hd
      have h1 := chunks_len big chunk hc f (d.drop chunk)
      have h2 := headW_len big (min d.length chunk)
      simp only [List.length_append, List.length_take, List.length_drop] at *
      omega
theorem chunks_step (big : Bool) (chunk f s n : Nat) (ys : List Int) (hs : s < ys.length) (hn : n = min (ys.length - s) chunk) : chunks big chunk (f + 1) (ys.drop s) = headW big n ++ (ys.drop s).take n ++ chunks big chunk f (ys.drop (s + chunk)) := by
  have hne : ys.drop s ≠ [] := fun e => by have := congrArg List.length e; simp at this; omega
  have e1 : (ys.drop s).length = ys.length - s := by simp
  have e2 : (ys.drop s).take chunk = (ys.drop s).take n := by rw [List.take_eq_take_iff, e1, hn]; omega
  conv => lhs; unfold chunks
  rw [if_neg hne, e2, List.drop_drop, e1, ← hn]
theorem chunks_end (big : Bool) (chunk f s : Nat) (ys : List Int) (hs : ys.length ≤ s) : chunks big chunk f (ys.drop s) = [] := by
  rw [List.drop_eq_nil_of_le hs]
  cases f <;> simp [chunks]
theorem clrW_long (big : Bool) (chunk : Nat) (ys : List Int) (h : 252 < ys.length) : clrW big chunk ys = 254 :: (chunks big chunk ys.length ys ++ [0]) := if_pos h
theorem clrW_short (big : Bool) (chunk : Nat) (ys : List Int) (h : ¬ 252 < ys.length) : clrW big chunk ys = (ys.length : Int) :: ys := if_neg h
theorem clrW_len (big : Bool) (chunk : Nat) (hc : 0 < chunk) (ys : List Int) : (clrW big chunk ys).length ≤ 10 * ys.length + 2 := by
  unfold clrW
  have := chunks_len big chunk hc ys.length ys
  split <;> simp <;> omega
theorem sesR5 (big : Bool) (chunk : Nat) : sesR big chunk 5 = some (.bool big) := rfl
theorem sesR6 (big : Bool) (chunk : Nat) : sesR big chunk 6 = some (.int .i64 chunk) := rfl
theorem BufP.c5 {w : World} {g : Nat} {big : Bool} {chunk : Nat} {out : List Int} {row : Option Nat} {T : TypeId} (h : BufP w T (sesR big chunk) g 1 out row) : w.cell? ⟨g, 5, none⟩ = some (.bool big) := by
  obtain ⟨v, lr, h3, _⟩ := h
  exact h3.rest 5 (.inr (by omega))
theorem BufP.c6 {w : World} {g : Nat} {big : Bool} {chunk : Nat} {out : List Int} {row : Option Nat} {T : TypeId} (h : BufP w T (sesR big chunk) g 1 out row) : w.cell? ⟨g, 6, none⟩ = some (.int .i64 chunk) := by
  obtain ⟨v, lr, h3, _⟩ := h
  exact h3.rest 6 (.inr (by omega))

/-- Some bytes in a block that is neither the session's nor its row. -/
structure Src (w : World) (g : Nat) (row : Option Nat) (q : Option Addr) (k m : Nat) (ys : List Int) : Prop where
  bin : Lib.BytesIn w q k ys
  len : ys.length = k
  km : k ≤ m
  mm : m ≤ maxLen
  far : ∀ a, q = some a → a.block < w.heap.size ∧ a.block ≠ g ∧ some a.block ≠ row
theorem Src.stp {w w1 : World} {g : Nat} {row row1 : Option Nat} {q : Option Addr} {k m : Nat} {ys : List Int} (h : Src w g row q k m ys) (hs : Stp g row row1 w w1) : Src w1 g row1 q k m ys :=
  { h with
    bin := hs.bin h.bin (fun a ha => (h.far a ha).2)
    far := fun a ha => by
      obtain ⟨h1, h2⟩ := h.far a ha
      exact ⟨Nat.lt_of_lt_of_le h1 hs.size, hs.far h1 h2⟩ }

set_option maxRecDepth 100000 in
set_option maxHeartbeats 4000000 in
theorem putClr_short (R : Nat → Option Value) (g : Nat) (out ys : List Int) (row : Option Nat) (q : Option Addr) (k m : Nat) (w : World) (h : BufP w 94 R g 1 out row) (hs : Src w g row q k m ys) (hk : k ≤ 252) (hlim : out.length ≤ 1000000000000) :
    Calls Tryd.prog 41 #[.pointer (some ⟨g, 0, none⟩), .slice q k m] w (Wrote 94 R g 1 (out ++ (k : Int) :: ys) row (.tuple #[]) w) := by
  have HB := Lib.hid h
  have HS := Lib.hid hs
  have HL := Lib.hid hlim
  have i0 : (0 : Int) ≤ (k : Int) := by omega
  have i1 : (k : Int) ≤ 252 := by omega
  have HW := Lib.hid (fun x => byte_any 94 R g 1 out x row w h (by omega))
  rcases Nat.eq_zero_or_pos k with h0 | h0
  · subst h0
    have HN := Lib.hid (List.eq_nil_of_length_eq_zero hs.len)
    clear h hs hk hlim
    go_enter Tryd.func41, Tryd.ntmps41
    go_wp2_with fail
    refine (HW.out 0).mono ?_
    rintro e w4 ⟨row', rfl, hb⟩
    have HB4 := Lib.hid hb
    clear hb
    go_wp2_with fail
    go_end0
    exact ⟨row', rfl, by rw [HN.out]; exact HB4.out⟩
  · have z0 : ((k : Int) == 0) = false := by simp; omega
    have HK := Lib.hid hk
    clear h hs hk hlim h0
    go_enter Tryd.func41, Tryd.ntmps41
    go_wp2_with fail
    refine (HW.out _).mono ?_
    rintro e w4 ⟨row', rfl, hb, hst⟩
    have HB4 := Lib.hid hb
    have HST := Lib.hid hst
    clear hb hst
    go_wp2_with fail
    have hs4 := HS.out.stp HST.out
    refine (write_any 94 R g 1 _ ys row' _ _ _ w4 HB4.out hs4.len (by rw [List.length_append]; have := HL.out; have := HK.out; simp; omega) hs4.bin (fun a ha => (hs4.far a ha).2.1)).mono ?_
    rintro e w5 ⟨row2, rfl, hb, hst⟩
    have HB5 := Lib.hid hb
    have HST5 := Lib.hid hst
    clear hb hst hs4
    go_wp2_with fail
    go_end0
    exact ⟨row2, rfl, by rw [List.append_cons]; exact HB5.out, HST.out.trans HST5.out⟩

/-- What holds at the head of each round of PutClr's loop. -/
def ClrRel (big : Bool) (chunk g : Nat) (out ys : List Int) (row : Option Nat) (k : Nat) (w : World) (s f : Nat) (wr : World) : Prop :=
  ∃ out' row', out' ++ chunks big chunk f (ys.drop s) = out ++ 254 :: chunks big chunk k ys ∧ k ≤ s + f ∧ out'.length ≤ out.length + 1 + 10 * k ∧ BufP wr 94 (sesR big chunk) g 1 out' row' ∧ Stp g row row' w wr
theorem ClrRel.step {big : Bool} {chunk g : Nat} {out ys : List Int} {row row1 row2 row3 : Option Nat} {k : Nat} {w wr w1 w2 : World} {s f n : Nat} {out' : List Int} (hc : 0 < chunk) (hl : ys.length = k) (hn : n = min (k - s) chunk) (hs : s < k)
    (he : out' ++ chunks big chunk f (ys.drop s) = out ++ 254 :: chunks big chunk k ys) (hf : k ≤ s + f) (h0 : Stp g row row1 w wr) (h1 : Stp g row1 row2 wr w1) (h2 : Stp g row2 row3 w1 w2)
    (hb : BufP w2 94 (sesR big chunk) g 1 (out' ++ headW big n ++ (ys.drop s).take n) row3) : ClrRel big chunk g out ys row k w (s + chunk) (f - 1) w2 := by
  obtain ⟨f', rfl⟩ : ∃ f', f = f' + 1 := ⟨f - 1, by omega⟩
  rw [chunks_step big chunk f' s n ys (by omega) (by rw [hl]; exact hn)] at he
  refine ⟨_, row3, ?_, by omega, ?_, hb, (h0.trans h1).trans h2⟩
  · rw [Nat.add_sub_cancel, ← he]; simp only [List.append_assoc]
  · have e := congrArg List.length he
    have hb := chunks_len big chunk hc k ys
    simp only [List.length_append, List.length_cons] at e ⊢
    omega

set_option maxRecDepth 100000 in
set_option maxHeartbeats 16000000 in
theorem putClr_long (big : Bool) (chunk : Nat) (g : Nat) (out ys : List Int) (row : Option Nat) (q : Option Addr) (k m : Nat) (w : World) (h : BufP w 94 (sesR big chunk) g 1 out row) (hs : Src w g row q k m ys) (hk : 252 < k) (hkm : k ≤ 1000000) (hc : 0 < chunk) (hc2 : chunk ≤ 4096) (hcb : big = false → chunk < 256) (hlim : out.length ≤ 100000000000) :
    Calls Tryd.prog 41 #[.pointer (some ⟨g, 0, none⟩), .slice q k m] w (Wrote 94 (sesR big chunk) g 1 (out ++ 254 :: (chunks big chunk k ys ++ [0])) row (.tuple #[]) w) := by
  obtain ⟨b, o, rfl, _⟩ := hs.bin (by omega)
  have HS := Lib.hid hs
  have HL := Lib.hid hlim
  have HY := Lib.hid hs.len
  have HKM := Lib.hid hkm
  have HC := Lib.hid hc
  have i0 : (252 : Int) < (k : Int) := by omega
  have i1 : (k : Int) ≤ 1000000 := by omega
  have i2 : (k : Int) ≤ (m : Int) := by have := hs.km; omega
  have i3 : (m : Int) ≤ 9223372036854775807 := by have := hs.mm; unfold maxLen at this; omega
  have i4 : (0 : Int) < (chunk : Int) := by omega
  have i5 : (chunk : Int) ≤ 4096 := by omega
  have HW := Lib.hid (byte_any 94 (sesR big chunk) g 1 out 254 row w h (by omega))
  have HCB := Lib.hid hcb
  clear h hs hk hkm hc hc2 hcb hlim
  go_enter Tryd.func41, Tryd.ntmps41
  go_wp2_with fail
  refine HW.out.mono ?_
  rintro e w1 ⟨row1, rfl, hb, hst⟩
  have HB1 := Lib.hid hb
  have HST1 := Lib.hid hst
  clear hb hst HW
  go_wp2_with fail
  go_loopg [5] (k + 1) (fun G st wr => ∃ s f : Nat, G = k + 1 - s ∧ s ≤ k + chunk ∧ st = .int .i64 (s : Int) ∧ ClrRel big chunk g out ys row k w s f wr)
  case atStart => exact ⟨0, k, rfl, Nat.zero_le _, rfl, out ++ [254], row1, by rw [List.drop_zero, List.append_assoc]; rfl, by omega, by simp, HB1.out, HST1.out⟩
  case round =>
    obtain ⟨s, f, rfl, hsk, rfl, out', row', he, hf, hol, hb, hst⟩ := hrel
    have HE := Lib.hid he
    have HF := Lib.hid hf
    have HOL := Lib.hid hol
    have HB := Lib.hid hb
    have HST := Lib.hid hst
    have HSK := Lib.hid hsk
    have c5 := hb.c5
    have c6 := hb.c6
    have s0 : (0 : Int) ≤ (s : Int) := by omega
    have s1 : (s : Int) ≤ 1004096 := by omega
    clear he hf hol hb hst hsk
    by_cases hlt : s < k
    · have HSR := Lib.hid (HS.out.stp HST.out)
      have s2 : (s : Int) < (k : Int) := by omega
      have e3 : (m = s) = False := by simp; omega
      have e4 : ((s : Int) + (chunk : Int)).toNat = s + chunk := by omega
      by_cases hend : k < s + chunk
      · have s3 : (k : Int) < (s : Int) + (chunk : Int) := by omega
        have hn : (k - s) = min (k - s) chunk := by omega
        have HN := Lib.hid hn
        have HWN := Lib.hid (win_bin (n := k) (i := s) (k := (k - s)) HSR.out.bin HSR.out.len (by omega))
        have i7 : (0 : Int) ≤ (((k - s) : Nat) : Int) := by omega
        have i8 : (((k - s) : Nat) : Int) ≤ 4096 := by omega
        have HI8 := Lib.hid (show (k - s) ≤ 4096 by omega)
        have HBI := Lib.hid (show big = false → (k - s) < 256 from fun hf => by have := HCB.out hf; omega)
        have HSG := Lib.hid (sig4 (k - s) (by omega))
        have HTK := Lib.hid (show ((ys.drop s).take (k - s)).length = (k - s) by rw [List.length_take, List.length_drop, HY.out]; omega)
        have HLT := Lib.hid hlt
        have HMV := Lib.hid hend
        clear hn hlt hend
        cases big
        · have HH := Lib.hid (show headW false (k - s) = [(((k - s) : Nat) : Int)] from by have := HBI.out rfl; unfold headW; rw [if_neg (by decide)]; congr 1; omega)
          have i9 : (((k - s) : Nat) : Int) < 256 := by have := HBI.out rfl; omega
          go_wp2_with fail
          refine (byte_any 94 (sesR false chunk) g 1 out' _ row' wr HB.out (by have := HOL.out; have := HL.out; have := HKM.out; omega)).mono ?_
          rintro e w2 ⟨row2, rfl, hb, hst⟩
          rw [← HH.out] at hb
          have HB2 := Lib.hid hb
          have HST2 := Lib.hid hst
          clear hb hst
          have c6 := HB2.out.c6
          go_wp2_with fail
          have hs2 := HSR.out.stp HST2.out
          refine (write_any 94 (sesR false chunk) g 1 _ ((ys.drop s).take (k - s)) row2 _ _ _ w2 HB2.out HTK.out (by rw [List.length_append]; have := headW_len false (k - s); have := HOL.out; have := HL.out; have := HKM.out; have := HI8.out; omega) (HST2.out.bin HWN.out (fun a ha => by injection ha with ha; subst ha; exact (HSR.out.far ⟨b, o, none⟩ rfl).2)) (fun a ha => by injection ha with ha; subst ha; exact (hs2.far ⟨b, o, none⟩ rfl).2.1)).mono ?_
          rintro e w3 ⟨row3, rfl, hb, hst⟩
          have HB3 := Lib.hid hb
          have HST3 := Lib.hid hst
          clear hb hst hs2 c5 c6
          have c6 := HB3.out.c6
          go_wp2_with fail
          go_roundg (k + 1 - (s + chunk))
          case measure => have := HLT.out; have := HC.out; omega
          case rel => exact ⟨s + chunk, f - 1, rfl, by have := HLT.out; omega, by go_num, ClrRel.step HC.out HY.out HN.out HLT.out HE.out HF.out HST.out HST2.out HST3.out HB3.out⟩
        · have HH := Lib.hid (show headW true (k - s) = packed (k - s) from by rfl)
          go_wp2_with fail
          refine (putint_int4 (sesR true chunk) g true (k - s) _ out' row' wr HB.out rfl HSG.out (by omega) (by have := HOL.out; have := HL.out; have := HKM.out; omega)).mono ?_
          rintro e w2 ⟨row2, rfl, hb, hst⟩
          rw [← HH.out] at hb
          have HB2 := Lib.hid hb
          have HST2 := Lib.hid hst
          clear hb hst
          have c6 := HB2.out.c6
          go_wp2_with fail
          have hs2 := HSR.out.stp HST2.out
          refine (write_any 94 (sesR true chunk) g 1 _ ((ys.drop s).take (k - s)) row2 _ _ _ w2 HB2.out HTK.out (by rw [List.length_append]; have := headW_len true (k - s); have := HOL.out; have := HL.out; have := HKM.out; have := HI8.out; omega) (HST2.out.bin HWN.out (fun a ha => by injection ha with ha; subst ha; exact (HSR.out.far ⟨b, o, none⟩ rfl).2)) (fun a ha => by injection ha with ha; subst ha; exact (hs2.far ⟨b, o, none⟩ rfl).2.1)).mono ?_
          rintro e w3 ⟨row3, rfl, hb, hst⟩
          have HB3 := Lib.hid hb
          have HST3 := Lib.hid hst
          clear hb hst hs2 c5 c6
          have c6 := HB3.out.c6
          go_wp2_with fail
          go_roundg (k + 1 - (s + chunk))
          case measure => have := HLT.out; have := HC.out; omega
          case rel => exact ⟨s + chunk, f - 1, rfl, by have := HLT.out; omega, by go_num, ClrRel.step HC.out HY.out HN.out HLT.out HE.out HF.out HST.out HST2.out HST3.out HB3.out⟩
      · have s3 : (s : Int) + (chunk : Int) ≤ (k : Int) := by omega
        have e5 : s + chunk - s = chunk := by omega
        have hn : chunk = min (k - s) chunk := by omega
        have HN := Lib.hid hn
        have HWN := Lib.hid (win_bin (n := k) (i := s) (k := chunk) HSR.out.bin HSR.out.len (by omega))
        have i7 : (0 : Int) ≤ ((chunk : Nat) : Int) := by omega
        have i8 : ((chunk : Nat) : Int) ≤ 4096 := by omega
        have HI8 := Lib.hid (show chunk ≤ 4096 by omega)
        have HBI := Lib.hid (show big = false → chunk < 256 from fun hf => by have := HCB.out hf; omega)
        have HSG := Lib.hid (sig4 chunk (by omega))
        have HTK := Lib.hid (show ((ys.drop s).take chunk).length = chunk by rw [List.length_take, List.length_drop, HY.out]; omega)
        have HLT := Lib.hid hlt
        have HMV := Lib.hid hend
        clear hn hlt hend
        cases big
        · have HH := Lib.hid (show headW false chunk = [((chunk : Nat) : Int)] from by have := HBI.out rfl; unfold headW; rw [if_neg (by decide)]; congr 1; omega)
          have i9 : ((chunk : Nat) : Int) < 256 := by have := HBI.out rfl; omega
          go_wp2_with fail
          refine (byte_any 94 (sesR false chunk) g 1 out' _ row' wr HB.out (by have := HOL.out; have := HL.out; have := HKM.out; omega)).mono ?_
          rintro e w2 ⟨row2, rfl, hb, hst⟩
          rw [← HH.out] at hb
          have HB2 := Lib.hid hb
          have HST2 := Lib.hid hst
          clear hb hst
          have c6 := HB2.out.c6
          go_wp2_with fail
          have hs2 := HSR.out.stp HST2.out
          refine (write_any 94 (sesR false chunk) g 1 _ ((ys.drop s).take chunk) row2 _ _ _ w2 HB2.out HTK.out (by rw [List.length_append]; have := headW_len false chunk; have := HOL.out; have := HL.out; have := HKM.out; have := HI8.out; omega) (HST2.out.bin HWN.out (fun a ha => by injection ha with ha; subst ha; exact (HSR.out.far ⟨b, o, none⟩ rfl).2)) (fun a ha => by injection ha with ha; subst ha; exact (hs2.far ⟨b, o, none⟩ rfl).2.1)).mono ?_
          rintro e w3 ⟨row3, rfl, hb, hst⟩
          have HB3 := Lib.hid hb
          have HST3 := Lib.hid hst
          clear hb hst hs2 c5 c6
          have c6 := HB3.out.c6
          go_wp2_with fail
          go_roundg (k + 1 - (s + chunk))
          case measure => have := HLT.out; have := HC.out; omega
          case rel => exact ⟨s + chunk, f - 1, rfl, by have := HLT.out; omega, by go_num, ClrRel.step HC.out HY.out HN.out HLT.out HE.out HF.out HST.out HST2.out HST3.out HB3.out⟩
        · have HH := Lib.hid (show headW true chunk = packed chunk from by rfl)
          go_wp2_with fail
          refine (putint_int4 (sesR true chunk) g true chunk _ out' row' wr HB.out rfl HSG.out (by omega) (by have := HOL.out; have := HL.out; have := HKM.out; omega)).mono ?_
          rintro e w2 ⟨row2, rfl, hb, hst⟩
          rw [← HH.out] at hb
          have HB2 := Lib.hid hb
          have HST2 := Lib.hid hst
          clear hb hst
          have c6 := HB2.out.c6
          go_wp2_with fail
          have hs2 := HSR.out.stp HST2.out
          refine (write_any 94 (sesR true chunk) g 1 _ ((ys.drop s).take chunk) row2 _ _ _ w2 HB2.out HTK.out (by rw [List.length_append]; have := headW_len true chunk; have := HOL.out; have := HL.out; have := HKM.out; have := HI8.out; omega) (HST2.out.bin HWN.out (fun a ha => by injection ha with ha; subst ha; exact (HSR.out.far ⟨b, o, none⟩ rfl).2)) (fun a ha => by injection ha with ha; subst ha; exact (hs2.far ⟨b, o, none⟩ rfl).2.1)).mono ?_
          rintro e w3 ⟨row3, rfl, hb, hst⟩
          have HB3 := Lib.hid hb
          have HST3 := Lib.hid hst
          clear hb hst hs2 c5 c6
          have c6 := HB3.out.c6
          go_wp2_with fail
          go_roundg (k + 1 - (s + chunk))
          case measure => have := HLT.out; have := HC.out; omega
          case rel => exact ⟨s + chunk, f - 1, rfl, by have := HLT.out; omega, by go_num, ClrRel.step HC.out HY.out HN.out HLT.out HE.out HF.out HST.out HST2.out HST3.out HB3.out⟩
    · have s2 : (k : Int) ≤ (s : Int) := by omega
      have HE2 := Lib.hid (show out' = out ++ 254 :: chunks big chunk k ys from by rw [← HE.out, chunks_end big chunk f s ys (by rw [HY.out]; omega), List.append_nil])
      clear c5 c6
      go_wp2_with fail
      refine (byte_any 94 (sesR big chunk) g 1 out' 0 row' wr HB.out (by have := HOL.out; have := HL.out; have := HKM.out; omega)).mono ?_
      rintro e w2 ⟨row2, rfl, hb, hst⟩
      have HB2 := Lib.hid hb
      have HST2 := Lib.hid hst
      clear hb hst
      go_wp2_with fail
      go_end0
      refine ⟨row2, rfl, ?_, HST.out.trans HST2.out⟩
      have hb := HB2.out
      rw [HE2.out, List.append_assoc] at hb
      exact hb

theorem putClr_any (big : Bool) (chunk : Nat) (g : Nat) (out ys : List Int) (row : Option Nat) (q : Option Addr) (k m : Nat) (w : World) (h : BufP w 94 (sesR big chunk) g 1 out row) (hs : Src w g row q k m ys) (hkm : k ≤ 1000000) (hc : 0 < chunk) (hc2 : chunk ≤ 4096) (hcb : big = false → chunk < 256) (hlim : out.length ≤ 100000000000) :
    Calls Tryd.prog 41 #[.pointer (some ⟨g, 0, none⟩), .slice q k m] w (Wrote 94 (sesR big chunk) g 1 (out ++ clrW big chunk ys) row (.tuple #[]) w) := by
  have hl := hs.len
  by_cases hk : 252 < k
  · rw [clrW_long big chunk ys (by omega), hl]
    exact putClr_long big chunk g out ys row q k m w h hs hk hkm hc hc2 hcb hlim
  · rw [clrW_short big chunk ys (by omega), hl]
    exact putClr_short _ g out ys row q k m w h hs (by omega) (by omega)
end Go.Proofs.YtacmnibhdmeidaaDoor
