/-
  net/url's escape of a value of a query.
-/
import Derived.Test.YtcdbnjhkjfimkaaDoorUrl1
import Derived.Lib.LazyBuf
import Derived.Lib.SlBuf
namespace Go.Proofs.YtcdbnjhkjfimkaaDoor
open Go Go.RowKit

/-- How many blanks. -/
def cntS : List UInt8 → Nat
  | [] => 0
  | b :: l => (if b = 32 then 1 else 0) + cntS l
theorem cntS_snoc (b : UInt8) : ∀ l : List UInt8, cntS (l ++ [b]) = cntS l + if b = 32 then 1 else 0
  | [] => by simp [cntS]
  | c :: l => by simp only [List.cons_append, cntS, cntS_snoc b l]; omega
theorem cntS_le : ∀ l : List UInt8, cntS l ≤ l.length
  | [] => Nat.le_refl _
  | b :: l => by
    have := cntS_le l
    simp only [cntS, List.length_cons]
    split <;> omega
theorem escQ_plain (b : UInt8) (h : b ≠ 32) (h2 : okB [] b = true) : escB true b = [b] := by
  unfold escB
  simp [h, h2]
theorem escQ_hex (b : UInt8) (h : b ≠ 32) (h2 : okB [] b = false) : escB true b = [37, hexB (b.toNat / 16), hexB (b.toNat % 16)] := by
  unfold escB
  simp [h, h2]
theorem needQ_blank : needB true 32 = false := rfl
theorem needQ (b : UInt8) (h : b ≠ 32) : needB true b = !okB [] b := by simp [needB, h]
theorem escL_noneq : ∀ l, cntS l = 0 → cntX true l = 0 → escL true l = l
  | [], _, _ => rfl
  | b :: l, h, h' => by
    unfold cntS at h
    unfold cntX at h'
    have hb : b ≠ 32 := fun e => by rw [if_pos e] at h; omega
    have h2 : okB [] b = true := by
      cases h3 : okB [] b
      · rw [needQ b hb, h3, if_pos (by rfl)] at h'; omega
      · rfl
    have ih := escL_noneq l (by omega) (by omega)
    have hq := escQ_plain b hb h2
    simp only [escL, List.flatMap_cons] at ih ⊢
    rw [ih, hq]
    rfl
def plusB (b : UInt8) : UInt8 := if b = 32 then 43 else b
theorem escL_plus : ∀ l, cntX true l = 0 → escL true l = l.map plusB
  | [], _ => rfl
  | b :: l, h => by
    unfold cntX at h
    have ih := escL_plus l (by omega)
    have hq : escB true b = [plusB b] := by
      by_cases hb : b = 32
      · subst hb; rfl
      · have h2 : okB [] b = true := by
          cases h3 : okB [] b
          · rw [needQ b hb, h3, if_pos (by rfl)] at h; omega
          · rfl
        rw [escQ_plain b hb h2, plusB, if_neg hb]
    simp only [escL, List.flatMap_cons, List.map_cons] at ih ⊢
    rw [ih, hq]
    rfl
/-- The first k blanks are pluses. -/
def PlusAt (w : World) (b : Nat) (s : ByteArray) (k : Nat) : Prop := ∀ i, i < s.size → w.cell? ⟨b, i, none⟩ = some (.int .u8 ((if i < k then plusB (s.data.toList.getD i 0) else s.data.toList.getD i 0).toNat : Int)) ∧ w.frozen? ⟨b, i, none⟩ = false
theorem PlusAt.start {w : World} {b : Nat} {s : ByteArray} (h : ∀ i, i < s.size → (w.cell? ⟨b, i, none⟩).isSome = true ∧ w.frozen? ⟨b, i, none⟩ = false) : PlusAt (w.setCells b 0 (s.data.toList.map fun x => Value.int .u8 (x.toNat : Int))) b s 0 := fun i hi => by
  have hl : s.data.toList.length = s.size := rfl
  refine ⟨?_, by rw [World.frozen?_setCells]; exact (h i hi).2⟩
  have h1 := World.cell?_setCells_in b (s.data.toList.map fun x => Value.int .u8 (x.toNat : Int)) 0 w (fun j hj => by rw [Nat.zero_add]; exact (h j (by simpa using hj)).1) i (by simpa using hi)
  rw [Nat.zero_add] at h1
  rw [h1, if_neg (by omega), List.getElem_map, List.getD_eq_getElem?_getD, List.getElem?_eq_getElem (by rw [hl]; exact hi), Option.getD_some]
theorem PlusAt.keep {w : World} {b j : Nat} {s : ByteArray} (h : PlusAt w b s j) (hn : s.data.toList.getD j 0 ≠ 32) : PlusAt w b s (j + 1) := fun i hi => by
  obtain ⟨h1, h2⟩ := h i hi
  refine ⟨?_, h2⟩
  rw [h1]
  by_cases e : i = j
  · subst e
    rw [if_neg (by omega), if_pos (by omega), plusB, if_neg hn]
  · by_cases e2 : i < j
    · rw [if_pos e2, if_pos (by omega)]
    · rw [if_neg e2, if_neg (by omega)]
theorem PlusAt.put {w : World} {b j : Nat} {s : ByteArray} (h : PlusAt w b s j) (hn : s.data.toList.getD j 0 = 32) : PlusAt (w.setCell ⟨b, j, none⟩ (.int .u8 43)) b s (j + 1) := fun i hi => by
  obtain ⟨h1, h2⟩ := h i hi
  refine ⟨?_, by rw [World.frozen?_setCell]; exact h2⟩
  by_cases e : i = j
  · subst e
    rw [World.cell?_setCell_same _ _ _ h1, if_pos (by omega), plusB, if_pos hn]
    rfl
  · rw [World.cell?_setCell_other _ _ _ _ (by intro h; injection h with _ h; exact e h.symm), h1]
    by_cases e2 : i < j
    · rw [if_pos e2, if_pos (by omega)]
    · rw [if_neg e2, if_neg (by omega)]
theorem PlusAt.done {w : World} {b : Nat} {s : ByteArray} (h : PlusAt w b s s.size) : Lib.Bytes w b 0 ⟨(s.data.toList.map plusB).toArray⟩ := fun i hi => by
  have hl : s.data.toList.length = s.size := rfl
  have hi2 : i < s.size := by
    have : i < ((s.data.toList.map plusB).toArray).size := hi
    simpa using this
  rw [Nat.zero_add, (h i hi2).1, if_pos hi2]
  congr 3
  rw [List.getD_eq_getElem?_getD, List.getElem?_eq_getElem (by rw [hl]; exact hi2), Option.getD_some]
  show _ = (((s.data.toList.map plusB).toArray)[i]).toNat
  simp
set_option maxRecDepth 100000 in
set_option maxHeartbeats 8000000 in
theorem escape_query (s : ByteArray) (w : World) (ht : UTab w) (hs : s.size ≤ 300) :
    Calls Tryd.prog 155 #[.string s, .int .u8 32] w fun e w' => e = .returned (.string (escS true s)) ∧ Kp w w' := by
  have i0 : (s.size : Int) ≤ 300 := by omega
  have HS := Lib.hid hs
  have HC := Lib.hid (fun w1 c e m i hi => bytes_cell w1 s c e m i hi)
  have HL := Lib.hid (show s.data.toList.length = s.size from rfl)
  have HT := Lib.hid ht
  clear hs ht
  go_enter Tryd.func155, Tryd.ntmps155
  go_wp2_with fail
  rw [run_bytes_of_string w 9 26 5 s Tryd.underlying9 Tryd.underlying26 Tryd.underlying5]
  simp only [Result.andThen]
  rw [Oper.upon_value]
  generalize hX : w.drew.alloc (.cells (bytesRow s (grownCap w s.size 0 5)) 5 ((bytesRow s (grownCap w s.size 0 5)).size, (bytesRow s (grownCap w s.size 0 5)).size + 1)) = X
  have HK := Lib.hid (show Kp w X from hX ▸ (Kp.refl w).drew.alloc _)
  have HX := Lib.hid (fun i hi => (hX ▸ HC.out w _ _ _ i hi : X.cell? ⟨w.heap.size, i, none⟩ = some (.int .u8 ((s.data.toList.getD i 0).toNat : Int))))
  clear hX
  go_wp2_with fail
  go_loopg [5, 6, 19] s.size (fun G s5 s6 s19 wr => ∃ k : Nat, G = s.size - k ∧ k ≤ s.size ∧ s5 = .int .i64 (cntS (s.data.toList.take k) : Int) ∧ s6 = .int .i64 (cntX true (s.data.toList.take k) : Int) ∧ s19 = .int .i64 (k : Int) ∧ X = wr)
  case atStart => exact ⟨0, rfl, Nat.zero_le _, rfl, rfl, rfl, rfl⟩
  case round =>
    obtain ⟨k, rfl, hk, rfl, rfl, rfl, rfl⟩ := hrel
    have HKN := Lib.hid hk
    have j0 : (0 : Int) ≤ (k : Int) := by omega
    have j1 : (k : Int) ≤ (s.size : Int) := by omega
    have hcl := cntX_le true (s.data.toList.take k)
    rw [List.length_take] at hcl
    obtain ⟨cn, hcn⟩ : ∃ cn, cn = cntX true (s.data.toList.take k) := ⟨_, rfl⟩
    rw [← hcn] at hcl ⊢
    have n0 : (0 : Int) ≤ (cn : Int) := by omega
    have n1 : (cn : Int) ≤ 300 := by omega
    have HCN := Lib.hid hcn
    have hsl := cntS_le (s.data.toList.take k)
    rw [List.length_take] at hsl
    obtain ⟨sn, hsn⟩ : ∃ sn, sn = cntS (s.data.toList.take k) := ⟨_, rfl⟩
    rw [← hsn] at hsl ⊢
    have p0 : (0 : Int) ≤ (sn : Int) := by omega
    have p1 : (sn : Int) ≤ 300 := by omega
    have HSN := Lib.hid hsn
    clear hk hcl hcn hsl hsn
    by_cases hlt : k < s.size
    · have j2 : (k : Int) < (s.size : Int) := by omega
      have d0 := HX.out k hlt
      have HLT := Lib.hid hlt
      obtain ⟨c, hc⟩ : ∃ c, c = s.data.toList.getD k 0 := ⟨_, rfl⟩
      have htk : s.data.toList.take (k + 1) = s.data.toList.take k ++ [c] := by
        rw [List.take_succ_eq_append_getElem (by rw [HL.out]; exact hlt), hc, List.getD_eq_getElem?_getD, List.getElem?_eq_getElem (by rw [HL.out]; exact hlt)]; rfl
      have hce : cntX true (s.data.toList.take (k + 1)) = cn + if needB true c = true then 1 else 0 := by rw [htk, cntX_snoc, ← HCN.out]
      have hse : cntS (s.data.toList.take (k + 1)) = sn + if c = 32 then 1 else 0 := by rw [htk, cntS_snoc, ← HSN.out]
      rw [← hc] at d0
      clear hlt hc htk
      obtain ⟨x, hx⟩ : ∃ x, x = c.toNat := ⟨_, rfl⟩
      have CS := Lib.hid (should_query c X (HT.out.kp HK.out))
      rw [← hx] at d0 CS
      by_cases h32 : x = 32
      · have hc32 : c = 32 := by apply UInt8.toNat_inj.1; rw [← hx, h32]; rfl
        subst hc32
        have HCE := Lib.hid (show cntX true (s.data.toList.take (k + 1)) = cn from hce)
        have HSE := Lib.hid (show cntS (s.data.toList.take (k + 1)) = sn + 1 from hse)
        have x0 : ((x : Int) == 32) = true := by simp; omega
        rw [show (!okB [] 32) = true from rfl] at CS
        clear hce hse hx h32
        go_wp2_with fail
        refine CS.out.mono ?_
        rintro e wx ⟨rfl, rfl⟩
        go_wp2_with fail
        go_roundg (s.size - (k + 1))
        case measure => have := HLT.out; omega
        case rel => exact ⟨k + 1, rfl, HLT.out, by rw [HSE.out]; go_num, by rw [HCE.out], by go_num, rfl⟩
      · have hc32 : c ≠ 32 := fun e => h32 (by rw [hx, e]; rfl)
        have x0 : ((x : Int) == 32) = false := by simp; omega
        have HSE := Lib.hid (show cntS (s.data.toList.take (k + 1)) = sn from by rw [hse, if_neg hc32]; rfl)
        have hnb : needB true c = !okB [] c := by simp [needB, hc32]
        rw [hnb] at hce
        clear hse hx h32 hnb hc32
        cases hok : okB [] c
        · rw [hok] at hce CS
          have HCE := Lib.hid (show cntX true (s.data.toList.take (k + 1)) = cn + 1 from hce)
          clear hce hok
          go_wp2_with fail
          refine CS.out.mono ?_
          rintro e wx ⟨rfl, rfl⟩
          go_wp2_with fail
          go_roundg (s.size - (k + 1))
          case measure => have := HLT.out; omega
          case rel => exact ⟨k + 1, rfl, HLT.out, by rw [HSE.out], by rw [HCE.out]; go_num, by go_num, rfl⟩
        · rw [hok] at hce CS
          have HCE := Lib.hid (show cntX true (s.data.toList.take (k + 1)) = cn from hce)
          clear hce hok
          go_wp2_with fail
          refine CS.out.mono ?_
          rintro e wx ⟨rfl, rfl⟩
          go_wp2_with fail
          go_roundg (s.size - (k + 1))
          case measure => have := HLT.out; omega
          case rel => exact ⟨k + 1, rfl, HLT.out, by rw [HSE.out], by rw [HCE.out], by go_num, rfl⟩
    · obtain rfl : k = s.size := by have := HKN.out; omega
      clear hlt
      have HCA := Lib.hid (show cn = cntX true s.data.toList from by rw [HCN.out, List.take_of_length_le (by rw [HL.out]; exact Nat.le_refl _)])
      clear HCN
      have HSA := Lib.hid (show sn = cntS s.data.toList from by rw [HSN.out, List.take_of_length_le (by rw [HL.out]; exact Nat.le_refl _)])
      clear HSN
      by_cases h00 : sn = 0 ∧ cn = 0
      · obtain ⟨h01, h02⟩ := h00
        subst h01 h02
        go_wp2_with fail
        go_ret
        refine ⟨?_, HK.out⟩
        have e : escS true s = s := by
          unfold escS
          rw [escL_noneq _ HSA.out.symm HCA.out.symm]
        rw [e]; rfl
      · go_upto_region 10 with (fail)
        go_cut [42] (fun s42 wx => s42 = .bool false ∧ X = wx)
        case first =>
          by_cases hs0 : sn = 0
          · have q0 : ((sn : Int) == 0) = true := by simp; omega
            have q1 : ((cn : Int) == 0) = false := by simp; omega
            clear h00 hs0
            go_wp2_with fail
            go_meet
            exact ⟨rfl, rfl⟩
          · have q0 : ((sn : Int) == 0) = false := by simp; omega
            clear h00 hs0
            go_wp2_with fail
            go_meet
            exact ⟨rfl, rfl⟩
        obtain ⟨rfl, rfl⟩ := hcut
        clear h00
        obtain ⟨R, hR⟩ : ∃ R : Nat, (s.size : Int) + 2 * (cn : Int) = (R : Int) := ⟨s.size + 2 * cn, by omega⟩
        have HRE := Lib.hid (show R = (escL true s.data.toList).length from by rw [escL_count, ← HCA.out, HL.out]; omega)
        have r0 : (0 : Int) ≤ (R : Int) := by omega
        have r1 : (R : Int) ≤ 900 := by omega
        go_upto_if 50 with (fail)
        generalize hA : X.alloc (.cells _ 252) = A
        have HKA := Lib.hid (show Kp w A from by rw [← hA]; exact HK.out.alloc _)
        obtain ⟨ab, hab⟩ : ∃ ab, ab = X.heap.size := ⟨_, rfl⟩
        have HAB := Lib.hid (show w.heap.size ≤ ab from by rw [hab]; exact HK.out.size)
        have HBA := Lib.hid (show Blk A ab 252 (List.replicate 64 (Value.int .u8 0)).toArray from by rw [hab, ← hA]; exact Blk.new X _ _)
        rw [← hab]
        clear hA hab
        go_cut [10] (fun s10 wx => ∃ tb cap, s10 = .slice (some ⟨tb, 0, none⟩) R cap ∧ w.heap.size ≤ tb ∧ Room wx tb R [] ∧ Kp w wx ∧ R ≤ cap ∧ cap ≤ maxLen)
        case first =>
          by_cases h64 : R ≤ 64
          · have r2 : (R : Int) ≤ 64 := by omega
            have HRM := Lib.hid (show Room A ab R [] from Room.start HBA.out h64)
            go_wp2_with fail
            go_meet
            exact ⟨ab, 64, rfl, HAB.out, HRM.out, HKA.out, h64, by simp [maxLen]⟩
          · have r2 : (64 : Int) < (R : Int) := by omega
            have hmk := run_make_bytes .i64 .i64 R R (Nat.le_refl _) (by omega)
            have HRM := Lib.hid (show Room (A.alloc (.cells (zeroA R) 5)) A.heap.size R [] from Room.start (n := R) (t := 5) (by
              have h := Blk.new A 5 (zeroA R)
              rwa [show zeroA R = (List.replicate R (Value.int .u8 0)).toArray from by simp [zeroA]] at h ⊢) (Nat.le_refl _))
            go_wp2_with fail
            go_meet
            exact ⟨A.heap.size, R, rfl, HKA.out.size, HRM.out, HKA.out.alloc _, Nat.le_refl _, by simp only [maxLen]; omega⟩
        case rest =>
          obtain ⟨tb, cap, rfl, htb, hrm, hkc, hcap, hcm⟩ := hcut
          have HTB := Lib.hid htb
          have HRM := Lib.hid hrm
          have HKC := Lib.hid hkc
          have r3 : (R : Int) ≤ (cap : Int) := by omega
          have hmi : (cap : Int) ≤ 9223372036854775807 := by unfold maxLen at hcm; omega
          clear htb hrm hkc hcap hcm
          by_cases hcn0 : cn = 0
          · subst hcn0
            have hR2 : R = s.size := by omega
            subst hR2
            have HEP := Lib.hid (escL_plus s.data.toList HCA.out.symm)
            have c0 : ((0 : Nat) : Int) = 0 := rfl
            have hrun := Go.run_copy_string (P := Tryd.prog) wc 26 9 3 5 tb 0 s.size cap s Tryd.underlying26 (fun w => by kernel_rfl) (Nat.le_refl _) (fun j hj => by obtain ⟨_, v, h2, _⟩ := HRM.out j hj; rw [Nat.zero_add, h2]; rfl) (fun j hj => by obtain ⟨h1, _⟩ := HRM.out j hj; rw [Nat.zero_add]; exact h1)
            have HRUN := Lib.hid hrun
            have HPM := Lib.hid (show PlusAt (wc.setCells tb 0 (s.data.toList.map fun x => Value.int .u8 (x.toNat : Int))) tb s 0 from PlusAt.start (fun i hi => by
              obtain ⟨h1, v, h2, _⟩ := HRM.out i hi
              exact ⟨by rw [h2]; rfl, h1⟩))
            have HKZ := Lib.hid (show Kp w (wc.setCells tb 0 (s.data.toList.map fun x => Value.int .u8 (x.toNat : Int))) from Go.below_setCells HTB.out _ _ _ HKC.out)
            clear hrun c0
            generalize wc.setCells tb 0 (s.data.toList.map fun x => Value.int .u8 (x.toNat : Int)) = Z at HRUN HPM HKZ
            have hcopy := HRUN.out
            go_wp2_with fail
            clear hcopy
            go_loopg [12] s.size (fun G st wr => ∃ k : Nat, G = s.size - k ∧ k ≤ s.size ∧ st = .int .i64 (k : Int) ∧ PlusAt wr tb s k ∧ Kp w wr)
            case atStart => exact ⟨0, rfl, Nat.zero_le _, rfl, HPM.out, HKZ.out⟩
            case round =>
              obtain ⟨k, rfl, hk, rfl, hpl, hkw⟩ := hrel
              have HKN := Lib.hid hk
              have HPL := Lib.hid hpl
              have HKW := Lib.hid hkw
              have k0 : (0 : Int) ≤ (k : Int) := by omega
              have k1 : (k : Int) ≤ (s.size : Int) := by omega
              clear hk hpl hkw
              by_cases hlt : k < s.size
              · have k2 : (k : Int) < (s.size : Int) := by omega
                have HLT := Lib.hid hlt
                obtain ⟨d0, d1⟩ := HPL.out k hlt
                have hgd : (s[k]'hlt) = s.data.toList.getD k 0 := by
                  rw [List.getD_eq_getElem?_getD, List.getElem?_eq_getElem (by rw [HL.out]; exact hlt)]; rfl
                obtain ⟨x, hx⟩ : ∃ x, (s[k]'hlt).toNat = x := ⟨_, rfl⟩
                have x0 : (0 : Int) ≤ (x : Int) := by omega
                by_cases h32 : x = 32
                · have x32 : ((x : Int) == 32) = true := by rw [h32]; rfl
                  have HP := Lib.hid (HPL.out.put (by rw [← hgd]; apply UInt8.toNat_inj.1; rw [hx, h32]; rfl))
                  have HKS := Lib.hid (HKW.out.set (p := ⟨tb, k, none⟩) HTB.out (.int .u8 43))
                  clear hgd h32
                  go_wp2_with fail
                  go_roundg (s.size - (k + 1))
                  case measure => have := HLT.out; omega
                  case rel => exact ⟨k + 1, rfl, HLT.out, by go_num, HP.out, HKS.out⟩
                · have x32 : ((x : Int) == 32) = false := by simp; omega
                  have HP := Lib.hid (HPL.out.keep (by rw [← hgd]; intro e; exact h32 (by rw [← hx, e]; rfl)))
                  clear hgd h32 d0 d1
                  go_wp2_with fail
                  go_roundg (s.size - (k + 1))
                  case measure => have := HLT.out; omega
                  case rel => exact ⟨k + 1, rfl, HLT.out, by go_num, HP.out, HKW.out⟩
              · obtain rfl : k = s.size := by have := HKN.out; omega
                clear hlt
                have hconv : (convert 26 9 (.slice (some ⟨tb, 0, none⟩) s.size cap)).run Tryd.prog wr = .ok (.string (escS true s)) wr := by
                  have h1 := Lib.run_convert_whole (P := Tryd.prog) wr 26 5 9 Tryd.underlying26 Tryd.underlying5 Tryd.underlying9 tb 0 (escS true s) (by
                    have h2 := HPL.out.done
                    rw [← HEP.out] at h2
                    exact h2) cap
                  rw [escS_size, ← HRE.out] at h1
                  exact h1
                go_wp2_with fail
                go_ret
                exact ⟨rfl, HKW.out⟩
          · have c0 : ((cn : Int) == 0) = false := by simp; omega
            clear hcn0
            go_wp2_with fail
            rw [run_bytes_of_string wc 9 26 5 s Tryd.underlying9 Tryd.underlying26 Tryd.underlying5]
            simp only [Result.andThen]
            rw [Oper.upon_value]
            generalize hY : wc.drew.alloc (.cells (bytesRow s (grownCap wc s.size 0 5)) 5 ((bytesRow s (grownCap wc s.size 0 5)).size, (bytesRow s (grownCap wc s.size 0 5)).size + 1)) = Y
            obtain ⟨bb, hbb⟩ : ∃ bb, bb = wc.heap.size := ⟨_, rfl⟩
            have hkY : Kp wc Y := hY ▸ (Kp.refl wc).drew.alloc _
            have HY := Lib.hid (fun i hi => (by rw [hbb]; exact hY ▸ HC.out wc _ _ _ i hi : Y.cell? ⟨bb, i, none⟩ = some (.int .u8 ((s.data.toList.getD i 0).toNat : Int))))
            have HRY := Lib.hid (show Room Y tb R [] from fun i hi => by
              obtain ⟨h1, v, h2, h3⟩ := HRM.out i hi
              exact ⟨by rw [← h1]; exact hkY.below.frozen (p := ⟨tb, i, none⟩) (heap_lt_of_cell h2), v, below_some hkY h2, h3⟩)
            have HBT := Lib.hid (show 0 < R → tb ≠ bb from fun h => by
              obtain ⟨_, v, h2, _⟩ := HRM.out 0 h
              have := heap_lt_of_cell h2
              dsimp only at this
              omega)
            have HKY := Lib.hid (HKC.out.trans hkY)
            rw [← hbb]
            clear hY hbb hkY
            go_wp2_with fail
            have HPR := Lib.hid (escL_pre true s.data.toList)
            go_loopg [13, 78] s.size (fun G s13 s78 wr => ∃ k : Nat, G = s.size - k ∧ k ≤ s.size ∧ s13 = .int .i64 ((escL true (s.data.toList.take k)).length : Int) ∧ s78 = .int .i64 (k : Int) ∧ (∀ i, i < s.size → wr.cell? ⟨bb, i, none⟩ = some (.int .u8 ((s.data.toList.getD i 0).toNat : Int))) ∧ Room wr tb R (escL true (s.data.toList.take k)) ∧ Kp w wr)
            case atStart => exact ⟨0, rfl, Nat.zero_le _, rfl, rfl, HY.out, HRY.out, HKY.out⟩
            case round =>
              obtain ⟨k, rfl, hk, rfl, rfl, hby, hrm, hkw⟩ := hrel
              have HKN := Lib.hid hk
              have HBY := Lib.hid hby
              have HRR := Lib.hid hrm
              have HKW := Lib.hid hkw
              have k0 : (0 : Int) ≤ (k : Int) := by omega
              have k1 : (k : Int) ≤ (s.size : Int) := by omega
              clear hk hby hrm hkw
              by_cases hlt : k < s.size
              · have k2 : (k : Int) < (s.size : Int) := by omega
                have d0 := HBY.out k hlt
                have HLT := Lib.hid hlt
                obtain ⟨c, hc⟩ : ∃ c, c = s.data.toList.getD k 0 := ⟨_, rfl⟩
                have htk : s.data.toList.take (k + 1) = s.data.toList.take k ++ [c] := by
                  rw [List.take_succ_eq_append_getElem (by rw [HL.out]; exact hlt), hc, List.getD_eq_getElem?_getD, List.getElem?_eq_getElem (by rw [HL.out]; exact hlt)]; rfl
                have hek : escL true (s.data.toList.take (k + 1)) = escL true (s.data.toList.take k) ++ escB true c := by rw [htk, escL_snoc]
                obtain ⟨re, hre⟩ := HPR.out (k + 1)
                have hlen := congrArg List.length hre
                rw [hek, List.length_append, List.length_append, ← HRE.out] at hlen
                rw [← hc] at d0
                clear hc htk hre hlt
                obtain ⟨lk, hlk⟩ : ∃ lk, lk = escL true (s.data.toList.take k) := ⟨_, rfl⟩
                rw [← hlk] at hek hlen HRR ⊢
                clear hlk
                obtain ⟨J, hJ⟩ : ∃ J, J = lk.length := ⟨_, rfl⟩
                have HJ := Lib.hid hJ
                rw [← hJ] at hlen ⊢
                have J0 : (0 : Int) ≤ (J : Int) := by omega
                have J1 : (J : Int) ≤ 900 := by omega
                have hne : tb ≠ bb := HBT.out (by have := escB_len true c; omega)
                have HNE := Lib.hid hne
                obtain ⟨x, hx⟩ : ∃ x, x = c.toNat := ⟨_, rfl⟩
                have x0 : (0 : Int) ≤ (x : Int) := by omega
                have x1 : (x : Int) < 256 := by have := c.toNat_lt; omega
                have HXC := Lib.hid hx
                have CSH := Lib.hid (should_query c wr (HT.out.kp HKW.out))
                rw [← hx] at d0 CSH
                clear hJ hx hne
                by_cases hc32 : c = 32
                · subst hc32
                  have hb : escB true 32 = [43] := rfl
                  rw [hb] at hek hlen
                  have h1 : ([43] : List UInt8).length = 1 := rfl
                  rw [h1] at hlen
                  have J4 : (J : Int) < (R : Int) := by omega
                  have HEK := Lib.hid hek
                  have x32 : ((x : Int) == 32) = true := by
                    have h : x = 32 := HXC.out
                    rw [h]; rfl
                  clear hek hlen hb CSH h1
                  have hr1 := HRR.out.put 43 43 rfl
                  rw [← HJ.out] at hr1
                  have HR1 := Lib.hid hr1
                  obtain ⟨f0, v0, c0', _⟩ := HRR.out J (by omega)
                  clear hr1
                  have HBN := Lib.hid (fun i hi => sc_other (i := J) (x := .int .u8 43) HNE.out.symm (HBY.out i hi))
                  have HKN3 := Lib.hid (HKW.out.set (p := ⟨tb, J, none⟩) HTB.out (.int .u8 43))
                  have HE3 := Lib.hid (show (escL true (s.data.toList.take (k + 1))).length = J + 1 from by
                    rw [HEK.out, List.length_append, ← HJ.out]
                    rfl)
                  go_wp2_with fail
                  go_roundg (s.size - (k + 1))
                  case measure => have := HLT.out; omega
                  case rel => exact ⟨k + 1, rfl, HLT.out, by rw [HE3.out]; go_num, by go_num, HBN.out, by rw [HEK.out]; exact HR1.out, HKN3.out⟩
                · have x32 : ((x : Int) == 32) = false := by
                    have h := HXC.out
                    have hne : x ≠ 32 := fun e => hc32 (by apply UInt8.toNat_inj.1; rw [← h, e]; rfl)
                    simp; omega
                  cases hok : okB [] c
                  · have hb := escQ_hex c hc32 hok
                    rw [hb] at hek hlen
                    rw [hok] at CSH
                    have J2 : (J : Int) + 2 < (R : Int) := by simp only [List.length_cons, List.length_nil] at hlen; omega
                    have J3 : (J : Int) + 1 < (R : Int) := by omega
                    have J4 : (J : Int) < (R : Int) := by omega
                    have HEK := Lib.hid hek
                    clear hek hlen hok hb
                    obtain ⟨hd, hhd⟩ : ∃ hd : Nat, (x : Int) / 16 = (hd : Int) := ⟨x / 16, by omega⟩
                    have D0 : (0 : Int) ≤ (hd : Int) := by omega
                    have D1 : (hd : Int) < 16 := by omega
                    have hand := and15 x (by omega)
                    obtain ⟨ld, hld⟩ : ∃ ld : Nat, x % 16 = ld := ⟨_, rfl⟩
                    rw [hld] at hand
                    have E0 : (0 : Int) ≤ (ld : Int) := by omega
                    have E1 : (ld : Int) < 16 := by omega
                    have HHD := Lib.hid (show c.toNat / 16 = hd from by have := HXC.out; omega)
                    have HLD := Lib.hid (show c.toNat % 16 = ld from by have := HXC.out; omega)
                    have E2 : hd < 16 := by omega
                    have E3 : ld < 16 := by omega
                    clear hld
                    obtain ⟨u1, hu1⟩ : ∃ u1 : Nat, ((ByteArray.mk #[48, 49, 50, 51, 52, 53, 54, 55, 56, 57, 65, 66, 67, 68, 69, 70])[hd]'E2).toNat = u1 := ⟨_, rfl⟩
                    obtain ⟨u2, hu2⟩ : ∃ u2 : Nat, ((ByteArray.mk #[48, 49, 50, 51, 52, 53, 54, 55, 56, 57, 65, 66, 67, 68, 69, 70])[ld]'E3).toNat = u2 := ⟨_, rfl⟩
                    have hx1 : ((hexB hd).toNat : Int) = (u1 : Int) := by rw [← hu1, hexB_at hd E2]
                    have hx2 : ((hexB ld).toNat : Int) = (u2 : Int) := by rw [← hu2, hexB_at ld E3]
                    have hr1 := HRR.out.put 37 37 rfl
                    have hr2 := hr1.put (hexB hd) (u1 : Int) hx1
                    have hr3 := hr2.put (hexB ld) (u2 : Int) hx2
                    simp only [List.length_append, List.length_singleton, ← HJ.out] at hr1 hr2 hr3
                    have HR3 := Lib.hid hr3
                    obtain ⟨f0, v0, c0, _⟩ := HRR.out J (by omega)
                    obtain ⟨f1, v1, c1, _⟩ := hr1 (J + 1) (by omega)
                    obtain ⟨f2, v2, c2, _⟩ := hr2 (J + 1 + 1) (by omega)
                    clear hr1 hr2 hr3 hx1 hx2
                    have HBN := Lib.hid (fun i hi => sc_other (i := J + 2) (x := .int .u8 (u2 : Int)) HNE.out.symm (sc_other (i := J + 1) (x := .int .u8 (u1 : Int)) HNE.out.symm (sc_other (i := J) (x := .int .u8 37) HNE.out.symm (HBY.out i hi))))
                    have HKN3 := Lib.hid (((HKW.out.set (p := ⟨tb, J, none⟩) HTB.out (.int .u8 37)).set (p := ⟨tb, J + 1, none⟩) HTB.out (.int .u8 (u1 : Int))).set (p := ⟨tb, J + 2, none⟩) HTB.out (.int .u8 (u2 : Int)))
                    have HE3 := Lib.hid (show escL true (s.data.toList.take (k + 1)) = lk ++ [37] ++ [hexB hd] ++ [hexB ld] ∧ (escL true (s.data.toList.take (k + 1))).length = J + 3 from by
                      rw [HEK.out, HHD.out, HLD.out]
                      refine ⟨by simp, ?_⟩
                      rw [List.length_append, ← HJ.out]
                      rfl)
                    have eJ : J + 1 + 1 = J + 2 := rfl
                    rw [eJ] at c2 f2
                    clear eJ
                    go_wp2_with fail
                    refine CSH.out.mono ?_
                    rintro e wx ⟨rfl, rfl⟩
                    go_wp2_with fail
                    go_roundg (s.size - (k + 1))
                    case measure => have := HLT.out; omega
                    case rel => exact ⟨k + 1, rfl, HLT.out, by rw [HE3.out.2]; go_num, by go_num, HBN.out, by rw [HE3.out.1]; exact HR3.out, HKN3.out⟩
                  · have hb := escQ_plain c hc32 hok
                    rw [hb] at hek hlen
                    rw [hok] at CSH
                    have J4 : (J : Int) < (R : Int) := by simp only [List.length_cons, List.length_nil] at hlen; omega
                    have HEK := Lib.hid hek
                    clear hek hlen hok hb
                    have hr1 := HRR.out.put c (x : Int) (by rw [HXC.out])
                    rw [← HJ.out] at hr1
                    have HR1 := Lib.hid hr1
                    obtain ⟨f0, v0, c0, _⟩ := HRR.out J (by omega)
                    clear hr1
                    have HBN := Lib.hid (fun i hi => sc_other (i := J) (x := .int .u8 (x : Int)) HNE.out.symm (HBY.out i hi))
                    have HKN3 := Lib.hid (HKW.out.set (p := ⟨tb, J, none⟩) HTB.out (.int .u8 (x : Int)))
                    have HE3 := Lib.hid (show (escL true (s.data.toList.take (k + 1))).length = J + 1 from by
                      rw [HEK.out, List.length_append, ← HJ.out]
                      rfl)
                    go_wp2_with fail
                    refine CSH.out.mono ?_
                    rintro e wx ⟨rfl, rfl⟩
                    go_wp2_with fail
                    go_roundg (s.size - (k + 1))
                    case measure => have := HLT.out; omega
                    case rel => exact ⟨k + 1, rfl, HLT.out, by rw [HE3.out]; go_num, by go_num, HBN.out, by rw [HEK.out]; exact HR1.out, HKN3.out⟩
              · obtain rfl : k = s.size := by have := HKN.out; omega
                clear hlt
                have hrr := HRR.out
                rw [List.take_of_length_le (by rw [HL.out]; exact Nat.le_refl _), HRE.out] at hrr
                have hconv : (convert 26 9 (.slice (some ⟨tb, 0, none⟩) R cap)).run Tryd.prog wr = .ok (.string (escS true s)) wr := by
                  have h1 := Lib.run_convert_whole (P := Tryd.prog) wr 26 5 9 Tryd.underlying26 Tryd.underlying5 Tryd.underlying9 tb 0 (escS true s) hrr.done cap
                  rw [escS_size, ← HRE.out] at h1
                  exact h1
                clear hrr
                go_wp2_with fail
                go_ret
                exact ⟨rfl, HKW.out⟩
end Go.Proofs.YtcdbnjhkjfimkaaDoor
