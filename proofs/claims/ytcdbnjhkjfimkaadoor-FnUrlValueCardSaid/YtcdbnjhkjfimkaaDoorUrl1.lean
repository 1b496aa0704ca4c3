/-
  net/url's escape of a part of a path.
-/
import Derived.Test.YtcdbnjhkjfimkaaDoorUrl0
import Derived.Laws.IdiomStrings
import Derived.Deep.CutBlock
import Derived.Laws.MakeOwn
namespace Go.Proofs.YtcdbnjhkjfimkaaDoor
open Go Go.RowKit

/-- Whether a byte is written in hexadecimal digits. -/
def needB (q : Bool) (b : UInt8) : Bool := !okB (if q then [] else letP) b && !(q && b == 32)
/-- How many bytes are written so. -/
def cntX (q : Bool) : List UInt8 → Nat
  | [] => 0
  | b :: l => (if needB q b = true then 1 else 0) + cntX q l
theorem cntX_snoc (q : Bool) (b : UInt8) : ∀ l : List UInt8, cntX q (l ++ [b]) = cntX q l + if needB q b = true then 1 else 0
  | [] => by simp [cntX]
  | c :: l => by simp only [List.cons_append, cntX, cntX_snoc q b l]; omega
theorem cntX_le (q : Bool) : ∀ l : List UInt8, cntX q l ≤ l.length
  | [] => Nat.le_refl _
  | b :: l => by
    have := cntX_le q l
    simp only [cntX, List.length_cons]
    split <;> omega
theorem escB_count (q : Bool) (b : UInt8) : (escB q b).length = 1 + 2 * (if needB q b = true then 1 else 0) := by
  unfold escB needB
  cases h1 : (q && b == 32)
  · cases h2 : okB (if q = true then [] else letP) b
    · rw [if_neg (by decide), if_neg (by decide)]; rfl
    · rw [if_neg (by decide), if_pos rfl]; rfl
  · rw [if_pos rfl]
    cases h2 : okB (if q = true then [] else letP) b <;> rfl
theorem escL_count (q : Bool) : ∀ l, (escL q l).length = l.length + 2 * cntX q l
  | [] => rfl
  | b :: l => by
    have ih := escL_count q l
    have h := escB_count q b
    simp only [escL, List.flatMap_cons, List.length_append, List.length_cons, cntX] at ih ⊢
    rw [h, ih]
    omega
theorem escB_plain (b : UInt8) (h : needB false b = false) : escB false b = [b] := by
  unfold needB at h
  unfold escB
  cases h2 : okB letP b
  · simp [h2] at h
  · simp [h2]
theorem escB_hex (b : UInt8) (h : needB false b = true) : escB false b = [37, hexB (b.toNat / 16), hexB (b.toNat % 16)] := by
  unfold needB at h
  unfold escB
  cases h2 : okB letP b
  · simp [h2]
  · simp [h2] at h
theorem escL_none : ∀ l, cntX false l = 0 → escL false l = l
  | [], _ => rfl
  | b :: l, h => by
    unfold cntX at h
    have h2 : needB false b = false := by
      cases h3 : needB false b
      · rfl
      · rw [h3, if_pos rfl] at h; omega
    have ih := escL_none l (by omega)
    have hb := escB_plain b h2
    simp only [escL, List.flatMap_cons] at ih ⊢
    rw [ih, hb]
    rfl
/-- Zeros, as cells. -/
def zeroA (n : Nat) : Array Value := ((List.replicate n 0).map (Value.int .u8)).toArray
theorem made_zero (n : Nat) : madeCells #[.int .u8 0] n = zeroA n := by
  apply Array.ext'
  rw [toList_madeCells_one]
  simp [zeroA]
theorem info5 : (Tryd.prog.info? 5).map (fun i => (i.zero, i.size, i.bytes)) = some (some (.int .u8 0), 1, 1) := by kernel_rfl

/-- make([]byte, n, c). -/
theorem run_make_bytes (kl kc : IntKind) (n c : Nat) (hc : n ≤ c) (hb : c ≤ 281474976710656) (w : World) :
    (Instr.makeSlice 26 (.int kl n) (.int kc c)).run Tryd.prog w = .ok (.slice (some ⟨w.heap.size, 0, none⟩) n c) (w.alloc (.cells (zeroA c) 5)) := by
  obtain ⟨i0, hi, hz0, hz1, hz2⟩ := info_parts info5
  have h := run_make (P := Tryd.prog) w 26 5 i0 (.int .u8 0) Tryd.underlying26 hi hz0 kl kc n c (by omega) (by omega) (by rw [hz2]; omega) (by omega)
  rw [h, hz1, ← made_zero]
  simp [Value.cells]
/-- A row of so many bytes that may be written. -/
def Room (w : World) (tb R : Nat) (l : List UInt8) : Prop := ∀ i, i < R → w.frozen? ⟨tb, i, none⟩ = false ∧ ∃ v, w.cell? ⟨tb, i, none⟩ = some (.int .u8 v) ∧ (i < l.length → v = ((l.getD i 0).toNat : Int))
theorem Room.put {w : World} {tb R : Nat} {l : List UInt8} (h : Room w tb R l) (b : UInt8) (x : Int) (hx : (b.toNat : Int) = x) : Room (w.setCell ⟨tb, l.length, none⟩ (.int .u8 x)) tb R (l ++ [b]) := fun i hi => by
  obtain ⟨h1, v, h2, h3⟩ := h i hi
  refine ⟨by rw [World.frozen?_setCell]; exact h1, ?_⟩
  by_cases e : i = l.length
  · subst e
    exact ⟨x, World.cell?_setCell_same _ _ _ h2, fun _ => by rw [← hx]; simp [List.getD_eq_getElem?_getD]⟩
  · refine ⟨v, by rw [World.cell?_setCell_other _ _ _ _ (by intro h; injection h with _ h; exact e h.symm)]; exact h2, fun hl => ?_⟩
    rw [List.length_append, List.length_singleton] at hl
    rw [h3 (by omega)]
    simp only [List.getD_eq_getElem?_getD]
    rw [List.getElem?_append_left (by omega)]
theorem and15 (x : Nat) (h : x < 256) : bits .and .u8 (x : Int) 15 = ((x % 16 : Nat) : Int) := by
  have : ∀ c : Fin 256, bits .and .u8 (c.val : Int) 15 = ((c.val % 16 : Nat) : Int) := by decide +kernel
  exact this ⟨x, h⟩
theorem hexB_at (h : Nat) (e : h < 16) : (hexB h).toNat = ((ByteArray.mk #[48, 49, 50, 51, 52, 53, 54, 55, 56, 57, 65, 66, 67, 68, 69, 70])[h]'e).toNat := by
  have : ∀ c : Fin 16, (hexB c.val).toNat = ((ByteArray.mk #[48, 49, 50, 51, 52, 53, 54, 55, 56, 57, 65, 66, 67, 68, 69, 70])[c.val]'c.isLt).toNat := by decide +kernel
  exact this ⟨h, e⟩
theorem Room.start {w : World} {b n R : Nat} {t : TypeId} (h : Blk w b t (List.replicate n (Value.int .u8 0)).toArray) (hn : R ≤ n) : Room w b R [] := fun i hi => by
  refine ⟨h.frozen i, 0, ?_, fun hl => by simp at hl⟩
  rw [h.cell i]
  simp [show i < n by omega]
theorem Room.done {w : World} {tb : Nat} {l : List UInt8} (h : Room w tb l.length l) : Lib.Bytes w tb 0 ⟨l.toArray⟩ := fun i hi => by
  have hl : i < l.length := by
    have : i < (l.toArray).size := hi
    simpa using this
  obtain ⟨_, v, h2, h3⟩ := h i hl
  rw [Nat.zero_add, h2, h3 hl]
  congr 3
  rw [List.getD_eq_getElem?_getD, List.getElem?_eq_getElem hl]
  rfl

set_option maxRecDepth 100000 in
set_option maxHeartbeats 8000000 in
theorem escape_path (s : ByteArray) (w : World) (ht : UTab w) (hs : s.size ≤ 300) :
    Calls Tryd.prog 155 #[.string s, .int .u8 2] w fun e w' => e = .returned (.string (escS false s)) ∧ Kp w w' := by
  have i0 : (s.size : Int) ≤ 300 := by omega
  have HS := Lib.hid hs
  have HC := Lib.hid (fun w1 c e m i hi => bytes_cell w1 s c e m i hi)
  have HL := Lib.hid (show s.data.toList.length = s.size from rfl)
  have HT := Lib.hid ht
  clear hs ht
  go_enter Tryd.func155, Tryd.ntmps155
  go_wp2_with fail
  rw [run_bytes_of_string w 9 26 5 s Tryd.underlying9 Tryd.underlying26 Tryd.underlying5]
  simp only [Result.andThen]
  rw [Oper.upon_value]
  generalize hX : w.drew.alloc (.cells (bytesRow s (grownCap w s.size 0 5)) 5 ((bytesRow s (grownCap w s.size 0 5)).size, (bytesRow s (grownCap w s.size 0 5)).size + 1)) = X
  have HK := Lib.hid (show Kp w X from hX ▸ (Kp.refl w).drew.alloc _)
  have HX := Lib.hid (fun i hi => (hX ▸ HC.out w _ _ _ i hi : X.cell? ⟨w.heap.size, i, none⟩ = some (.int .u8 ((s.data.toList.getD i 0).toNat : Int))))
  clear hX
  go_wp2_with fail
  go_loopg [5, 6, 19] s.size (fun G s5 s6 s19 wr => ∃ k : Nat, G = s.size - k ∧ k ≤ s.size ∧ s5 = .int .i64 0 ∧ s6 = .int .i64 (cntX false (s.data.toList.take k) : Int) ∧ s19 = .int .i64 (k : Int) ∧ X = wr)
  case atStart => exact ⟨0, rfl, Nat.zero_le _, rfl, rfl, rfl, rfl⟩
  case round =>
    obtain ⟨k, rfl, hk, rfl, rfl, rfl, rfl⟩ := hrel
    have HKN := Lib.hid hk
    have j0 : (0 : Int) ≤ (k : Int) := by omega
    have j1 : (k : Int) ≤ (s.size : Int) := by omega
    have hcl := cntX_le false (s.data.toList.take k)
    rw [List.length_take] at hcl
    obtain ⟨cn, hcn⟩ : ∃ cn, cn = cntX false (s.data.toList.take k) := ⟨_, rfl⟩
    rw [← hcn] at hcl ⊢
    have n0 : (0 : Int) ≤ (cn : Int) := by omega
    have n1 : (cn : Int) ≤ 300 := by omega
    have HCN := Lib.hid hcn
    clear hk hcl hcn
    by_cases hlt : k < s.size
    · have j2 : (k : Int) < (s.size : Int) := by omega
      have d0 := HX.out k hlt
      have HLT := Lib.hid hlt
      obtain ⟨c, hc⟩ : ∃ c, c = s.data.toList.getD k 0 := ⟨_, rfl⟩
      have hce : cntX false (s.data.toList.take (k + 1)) = cn + if needB false c = true then 1 else 0 := by
        rw [List.take_succ_eq_append_getElem (by rw [HL.out]; exact hlt), cntX_snoc, ← HCN.out]
        have e : s.data.toList[k]'(by rw [HL.out]; exact hlt) = c := by rw [hc, List.getD_eq_getElem?_getD, List.getElem?_eq_getElem (by rw [HL.out]; exact hlt)]; rfl
        rw [e]
      rw [← hc] at d0
      clear hlt hc
      have hnb : needB false c = !okB letP c := by simp [needB]
      go_wp2_with fail
      refine (should_path c X (HT.out.kp HK.out)).mono ?_
      rintro e wx ⟨rfl, rfl⟩
      rw [hnb] at hce
      clear hnb
      cases hok : okB letP c
      · rw [hok] at hce
        have HCE := Lib.hid (show cntX false (s.data.toList.take (k + 1)) = cn + 1 from hce)
        obtain ⟨x, hx⟩ : ∃ x, x = c.toNat := ⟨_, rfl⟩
        rw [← hx] at d0 ⊢
        clear hce hok hx
        by_cases h32 : x = 32
        · subst h32
          go_wp2_with fail
          go_roundg (s.size - (k + 1))
          case measure => have := HLT.out; omega
          case rel => exact ⟨k + 1, rfl, HLT.out, rfl, by rw [HCE.out]; go_num, by go_num, rfl⟩
        · have x0 : ((x : Int) == 32) = false := by simp; omega
          go_wp2_with fail
          go_roundg (s.size - (k + 1))
          case measure => have := HLT.out; omega
          case rel => exact ⟨k + 1, rfl, HLT.out, rfl, by rw [HCE.out]; go_num, by go_num, rfl⟩
      · rw [hok] at hce
        have HCE := Lib.hid (show cntX false (s.data.toList.take (k + 1)) = cn from hce)
        clear hce hok
        go_wp2_with fail
        go_roundg (s.size - (k + 1))
        case measure => have := HLT.out; omega
        case rel => exact ⟨k + 1, rfl, HLT.out, rfl, by rw [HCE.out], by go_num, rfl⟩
    · obtain rfl : k = s.size := by have := HKN.out; omega
      clear hlt
      have HCA := Lib.hid (show cn = cntX false s.data.toList from by rw [HCN.out, List.take_of_length_le (by rw [HL.out]; exact Nat.le_refl _)])
      clear HCN
      by_cases h0 : cn = 0
      · subst h0
        go_wp2_with fail
        go_ret
        refine ⟨?_, HK.out⟩
        have e : escS false s = s := by
          unfold escS
          rw [escL_none _ HCA.out.symm]
        rw [e]; rfl
      · have c0 : ((cn : Int) == 0) = false := by simp; omega
        have c1 : (1 : Int) ≤ (cn : Int) := by omega
        obtain ⟨R, hR⟩ : ∃ R : Nat, (s.size : Int) + 2 * (cn : Int) = (R : Int) := ⟨s.size + 2 * cn, by omega⟩
        have HRE := Lib.hid (show R = (escL false s.data.toList).length from by rw [escL_count, ← HCA.out, HL.out]; omega)
        have r0 : (0 : Int) ≤ (R : Int) := by omega
        have r1 : (R : Int) ≤ 900 := by omega
        clear h0
        go_upto_if 50 with (fail)
        generalize hA : X.alloc (.cells _ 252) = A
        have HKA := Lib.hid (show Kp w A from by rw [← hA]; exact HK.out.alloc _)
        obtain ⟨ab, hab⟩ : ∃ ab, ab = X.heap.size := ⟨_, rfl⟩
        have HAB := Lib.hid (show w.heap.size ≤ ab from by rw [hab]; exact HK.out.size)
        have HBA := Lib.hid (show Blk A ab 252 (List.replicate 64 (Value.int .u8 0)).toArray from by rw [hab, ← hA]; exact Blk.new X _ _)
        rw [← hab]
        clear hA hab
        go_cut [10] (fun s10 wx => ∃ tb cap, s10 = .slice (some ⟨tb, 0, none⟩) R cap ∧ w.heap.size ≤ tb ∧ Room wx tb R [] ∧ Kp w wx ∧ R ≤ cap ∧ cap ≤ maxLen)
        case first =>
          by_cases h64 : R ≤ 64
          · have r2 : (R : Int) ≤ 64 := by omega
            have HRM := Lib.hid (show Room A ab R [] from Room.start HBA.out h64)
            go_wp2_with fail
            go_meet
            exact ⟨ab, 64, rfl, HAB.out, HRM.out, HKA.out, h64, by simp [maxLen]⟩
          · have r2 : (64 : Int) < (R : Int) := by omega
            have hmk := run_make_bytes .i64 .i64 R R (Nat.le_refl _) (by omega)
            have HRM := Lib.hid (show Room (A.alloc (.cells (zeroA R) 5)) A.heap.size R [] from Room.start (n := R) (t := 5) (by
              have h := Blk.new A 5 (zeroA R)
              rwa [show zeroA R = (List.replicate R (Value.int .u8 0)).toArray from by simp [zeroA]] at h ⊢) (Nat.le_refl _))
            go_wp2_with fail
            go_meet
            exact ⟨A.heap.size, R, rfl, HKA.out.size, HRM.out, HKA.out.alloc _, Nat.le_refl _, by simp only [maxLen]; omega⟩
        case rest =>
          obtain ⟨tb, cap, rfl, htb, hrm, hkc, hcap, hcm⟩ := hcut
          have HTB := Lib.hid htb
          have HRM := Lib.hid hrm
          have HKC := Lib.hid hkc
          have r3 : (R : Int) ≤ (cap : Int) := by omega
          have hmi : (cap : Int) ≤ 9223372036854775807 := by unfold maxLen at hcm; omega
          clear htb hrm hkc hcap hcm
          go_wp2_with fail
          rw [run_bytes_of_string wc 9 26 5 s Tryd.underlying9 Tryd.underlying26 Tryd.underlying5]
          simp only [Result.andThen]
          rw [Oper.upon_value]
          generalize hY : wc.drew.alloc (.cells (bytesRow s (grownCap wc s.size 0 5)) 5 ((bytesRow s (grownCap wc s.size 0 5)).size, (bytesRow s (grownCap wc s.size 0 5)).size + 1)) = Y
          obtain ⟨bb, hbb⟩ : ∃ bb, bb = wc.heap.size := ⟨_, rfl⟩
          have hkY : Kp wc Y := hY ▸ (Kp.refl wc).drew.alloc _
          have HY := Lib.hid (fun i hi => (by rw [hbb]; exact hY ▸ HC.out wc _ _ _ i hi : Y.cell? ⟨bb, i, none⟩ = some (.int .u8 ((s.data.toList.getD i 0).toNat : Int))))
          have HRY := Lib.hid (show Room Y tb R [] from fun i hi => by
            obtain ⟨h1, v, h2, h3⟩ := HRM.out i hi
            exact ⟨by rw [← h1]; exact hkY.below.frozen (p := ⟨tb, i, none⟩) (heap_lt_of_cell h2), v, below_some hkY h2, h3⟩)
          have HBT := Lib.hid (show 0 < R → tb ≠ bb from fun h => by
            obtain ⟨_, v, h2, _⟩ := HRM.out 0 h
            have := heap_lt_of_cell h2
            dsimp only at this
            omega)
          have HKY := Lib.hid (HKC.out.trans hkY)
          rw [← hbb]
          clear hY hbb hkY
          go_wp2_with fail
          have HPR := Lib.hid (escL_pre false s.data.toList)
          go_loopg [13, 78] s.size (fun G s13 s78 wr => ∃ k : Nat, G = s.size - k ∧ k ≤ s.size ∧ s13 = .int .i64 ((escL false (s.data.toList.take k)).length : Int) ∧ s78 = .int .i64 (k : Int) ∧ (∀ i, i < s.size → wr.cell? ⟨bb, i, none⟩ = some (.int .u8 ((s.data.toList.getD i 0).toNat : Int))) ∧ Room wr tb R (escL false (s.data.toList.take k)) ∧ Kp w wr)
          case atStart => exact ⟨0, rfl, Nat.zero_le _, rfl, rfl, HY.out, HRY.out, HKY.out⟩
          case round =>
            obtain ⟨k, rfl, hk, rfl, rfl, hby, hrm, hkw⟩ := hrel
            have HKN := Lib.hid hk
            have HBY := Lib.hid hby
            have HRR := Lib.hid hrm
            have HKW := Lib.hid hkw
            have k0 : (0 : Int) ≤ (k : Int) := by omega
            have k1 : (k : Int) ≤ (s.size : Int) := by omega
            clear hk hby hrm hkw
            by_cases hlt : k < s.size
            · have k2 : (k : Int) < (s.size : Int) := by omega
              have d0 := HBY.out k hlt
              have HLT := Lib.hid hlt
              obtain ⟨c, hc⟩ : ∃ c, c = s.data.toList.getD k 0 := ⟨_, rfl⟩
              have htk : s.data.toList.take (k + 1) = s.data.toList.take k ++ [c] := by
                rw [List.take_succ_eq_append_getElem (by rw [HL.out]; exact hlt), hc, List.getD_eq_getElem?_getD, List.getElem?_eq_getElem (by rw [HL.out]; exact hlt)]; rfl
              have hek : escL false (s.data.toList.take (k + 1)) = escL false (s.data.toList.take k) ++ escB false c := by rw [htk, escL_snoc]
              obtain ⟨re, hre⟩ := HPR.out (k + 1)
              have hlen := congrArg List.length hre
              rw [hek, List.length_append, List.length_append, ← HRE.out] at hlen
              rw [← hc] at d0
              clear hc htk hre hlt
              obtain ⟨lk, hlk⟩ : ∃ lk, lk = escL false (s.data.toList.take k) := ⟨_, rfl⟩
              rw [← hlk] at hek hlen HRR ⊢
              clear hlk
              obtain ⟨J, hJ⟩ : ∃ J, J = lk.length := ⟨_, rfl⟩
              have HJ := Lib.hid hJ
              rw [← hJ] at hlen ⊢
              have J0 : (0 : Int) ≤ (J : Int) := by omega
              have J1 : (J : Int) ≤ 900 := by omega
              have hne : tb ≠ bb := HBT.out (by have := escB_len false c; omega)
              have HNE := Lib.hid hne
              obtain ⟨x, hx⟩ : ∃ x, x = c.toNat := ⟨_, rfl⟩
              have x0 : (0 : Int) ≤ (x : Int) := by omega
              have x1 : (x : Int) < 256 := by have := c.toNat_lt; omega
              have HXC := Lib.hid hx
              have CSH := Lib.hid (should_path c wr (HT.out.kp HKW.out))
              rw [← hx] at d0 CSH
              clear hJ hx hne
              cases hok : okB letP c
              · have hb := escB_hex c (by simp [needB, hok])
                rw [hb] at hek hlen
                rw [hok] at CSH
                have J2 : (J : Int) + 2 < (R : Int) := by simp only [List.length_cons, List.length_nil] at hlen; omega
                have J3 : (J : Int) + 1 < (R : Int) := by omega
                have J4 : (J : Int) < (R : Int) := by omega
                have HEK := Lib.hid hek
                clear hek hlen hok hb
                obtain ⟨hd, hhd⟩ : ∃ hd : Nat, (x : Int) / 16 = (hd : Int) := ⟨x / 16, by omega⟩
                have D0 : (0 : Int) ≤ (hd : Int) := by omega
                have D1 : (hd : Int) < 16 := by omega
                have hand := and15 x (by omega)
                obtain ⟨ld, hld⟩ : ∃ ld : Nat, x % 16 = ld := ⟨_, rfl⟩
                rw [hld] at hand
                have E0 : (0 : Int) ≤ (ld : Int) := by omega
                have E1 : (ld : Int) < 16 := by omega
                have HHD := Lib.hid (show c.toNat / 16 = hd from by have := HXC.out; omega)
                have HLD := Lib.hid (show c.toNat % 16 = ld from by have := HXC.out; omega)
                have E2 : hd < 16 := by omega
                have E3 : ld < 16 := by omega
                clear hld
                obtain ⟨u1, hu1⟩ : ∃ u1 : Nat, ((ByteArray.mk #[48, 49, 50, 51, 52, 53, 54, 55, 56, 57, 65, 66, 67, 68, 69, 70])[hd]'E2).toNat = u1 := ⟨_, rfl⟩
                obtain ⟨u2, hu2⟩ : ∃ u2 : Nat, ((ByteArray.mk #[48, 49, 50, 51, 52, 53, 54, 55, 56, 57, 65, 66, 67, 68, 69, 70])[ld]'E3).toNat = u2 := ⟨_, rfl⟩
                have hx1 : ((hexB hd).toNat : Int) = (u1 : Int) := by rw [← hu1, hexB_at hd E2]
                have hx2 : ((hexB ld).toNat : Int) = (u2 : Int) := by rw [← hu2, hexB_at ld E3]
                have hr1 := HRR.out.put 37 37 rfl
                have hr2 := hr1.put (hexB hd) (u1 : Int) hx1
                have hr3 := hr2.put (hexB ld) (u2 : Int) hx2
                simp only [List.length_append, List.length_singleton, ← HJ.out] at hr1 hr2 hr3
                have HR3 := Lib.hid hr3
                obtain ⟨f0, v0, c0, _⟩ := HRR.out J (by omega)
                obtain ⟨f1, v1, c1, _⟩ := hr1 (J + 1) (by omega)
                obtain ⟨f2, v2, c2, _⟩ := hr2 (J + 1 + 1) (by omega)
                clear hr1 hr2 hr3 hx1 hx2
                have HBN := Lib.hid (fun i hi => sc_other (i := J + 2) (x := .int .u8 (u2 : Int)) HNE.out.symm (sc_other (i := J + 1) (x := .int .u8 (u1 : Int)) HNE.out.symm (sc_other (i := J) (x := .int .u8 37) HNE.out.symm (HBY.out i hi))))
                have HKN3 := Lib.hid (((HKW.out.set (p := ⟨tb, J, none⟩) HTB.out (.int .u8 37)).set (p := ⟨tb, J + 1, none⟩) HTB.out (.int .u8 (u1 : Int))).set (p := ⟨tb, J + 2, none⟩) HTB.out (.int .u8 (u2 : Int)))
                have HE3 := Lib.hid (show escL false (s.data.toList.take (k + 1)) = lk ++ [37] ++ [hexB hd] ++ [hexB ld] ∧ (escL false (s.data.toList.take (k + 1))).length = J + 3 from by
                  rw [HEK.out, HHD.out, HLD.out]
                  refine ⟨by simp, ?_⟩
                  rw [List.length_append, ← HJ.out]
                  rfl)
                have eJ : J + 1 + 1 = J + 2 := rfl
                rw [eJ] at c2 f2
                clear eJ
                cases h32 : ((x : Int) == 32)
                · go_wp2_with fail
                  refine CSH.out.mono ?_
                  rintro e wx ⟨rfl, rfl⟩
                  go_wp2_with fail
                  go_roundg (s.size - (k + 1))
                  case measure => have := HLT.out; omega
                  case rel => exact ⟨k + 1, rfl, HLT.out, by rw [HE3.out.2]; go_num, by go_num, HBN.out, by rw [HE3.out.1]; exact HR3.out, HKN3.out⟩
                · go_wp2_with fail
                  refine CSH.out.mono ?_
                  rintro e wx ⟨rfl, rfl⟩
                  go_wp2_with fail
                  go_roundg (s.size - (k + 1))
                  case measure => have := HLT.out; omega
                  case rel => exact ⟨k + 1, rfl, HLT.out, by rw [HE3.out.2]; go_num, by go_num, HBN.out, by rw [HE3.out.1]; exact HR3.out, HKN3.out⟩
              · have hb := escB_plain c (by simp [needB, hok])
                rw [hb] at hek hlen
                rw [hok] at CSH
                have J4 : (J : Int) < (R : Int) := by simp only [List.length_cons, List.length_nil] at hlen; omega
                have HEK := Lib.hid hek
                clear hek hlen hok hb
                have hr1 := HRR.out.put c (x : Int) (by rw [HXC.out])
                rw [← HJ.out] at hr1
                have HR1 := Lib.hid hr1
                obtain ⟨f0, v0, c0, _⟩ := HRR.out J (by omega)
                clear hr1
                have HBN := Lib.hid (fun i hi => sc_other (i := J) (x := .int .u8 (x : Int)) HNE.out.symm (HBY.out i hi))
                have HKN3 := Lib.hid (HKW.out.set (p := ⟨tb, J, none⟩) HTB.out (.int .u8 (x : Int)))
                have HE3 := Lib.hid (show (escL false (s.data.toList.take (k + 1))).length = J + 1 from by
                  rw [HEK.out, List.length_append, ← HJ.out]
                  rfl)
                cases h32 : ((x : Int) == 32)
                · go_wp2_with fail
                  refine CSH.out.mono ?_
                  rintro e wx ⟨rfl, rfl⟩
                  go_wp2_with fail
                  go_roundg (s.size - (k + 1))
                  case measure => have := HLT.out; omega
                  case rel => exact ⟨k + 1, rfl, HLT.out, by rw [HE3.out]; go_num, by go_num, HBN.out, by rw [HEK.out]; exact HR1.out, HKN3.out⟩
                · go_wp2_with fail
                  refine CSH.out.mono ?_
                  rintro e wx ⟨rfl, rfl⟩
                  go_wp2_with fail
                  go_roundg (s.size - (k + 1))
                  case measure => have := HLT.out; omega
                  case rel => exact ⟨k + 1, rfl, HLT.out, by rw [HE3.out]; go_num, by go_num, HBN.out, by rw [HEK.out]; exact HR1.out, HKN3.out⟩
            · obtain rfl : k = s.size := by have := HKN.out; omega
              clear hlt
              have hrr := HRR.out
              rw [List.take_of_length_le (by rw [HL.out]; exact Nat.le_refl _), HRE.out] at hrr
              have hconv : (convert 26 9 (.slice (some ⟨tb, 0, none⟩) R cap)).run Tryd.prog wr = .ok (.string (escS false s)) wr := by
                have h1 := Lib.run_convert_whole (P := Tryd.prog) wr 26 5 9 Tryd.underlying26 Tryd.underlying5 Tryd.underlying9 tb 0 (escS false s) hrr.done cap
                rw [escS_size, ← HRE.out] at h1
                exact h1
              clear hrr
              go_wp2_with fail
              go_ret
              exact ⟨rfl, HKW.out⟩
end Go.Proofs.YtcdbnjhkjfimkaaDoor
