/-
  The reference's equality of servers: configLow, ServersEqual, and whether a row holds an equal one.
-/
import Derived.Test.YtmojecgmneodlaaDoorFnTwice
namespace Go.Proofs.YtmojecgmneodlaaDoor
open Go Go.RowKit

set_option maxRecDepth 100000 in
theorem low_up (b : UInt8) : Lib.lowerB (Lib.upperB b) = Lib.lowerB b := by
  have : ∀ i : Fin 256, Lib.lowerB (Lib.upperB (UInt8.ofNat i.val)) = Lib.lowerB (UInt8.ofNat i.val) := by decide
  have h := this ⟨b.toNat, b.toNat_lt⟩
  simpa using h
set_option maxRecDepth 100000 in
theorem up_low (b : UInt8) : Lib.upperB (Lib.lowerB b) = Lib.upperB b := by
  have : ∀ i : Fin 256, Lib.upperB (Lib.lowerB (UInt8.ofNat i.val)) = Lib.upperB (UInt8.ofNat i.val) := by decide
  have h := this ⟨b.toNat, b.toNat_lt⟩
  simpa using h
theorem low_iff (a b : List UInt8) : a.map Lib.lowerB = b.map Lib.lowerB ↔ a.map Lib.upperB = b.map Lib.upperB := by
  constructor
  · intro h
    have h1 := congrArg (List.map Lib.upperB) h
    rw [List.map_map, List.map_map] at h1
    have e : ∀ l : List UInt8, l.map (Lib.upperB ∘ Lib.lowerB) = l.map Lib.upperB := fun l => List.map_congr_left fun x _ => up_low x
    rwa [e, e] at h1
  · intro h
    have h1 := congrArg (List.map Lib.lowerB) h
    rw [List.map_map, List.map_map] at h1
    have e : ∀ l : List UInt8, l.map (Lib.lowerB ∘ Lib.upperB) = l.map Lib.lowerB := fun l => List.map_congr_left fun x _ => low_up x
    rwa [e, e] at h1
def lowS (s : ByteArray) : ByteArray := ⟨(s.data.toList.map Lib.lowerB).toArray⟩
theorem lowS_size (s : ByteArray) : (lowS s).size = s.size := by
  show ((s.data.toList.map Lib.lowerB).toArray).size = s.data.size
  simp
theorem lowS_iff (a b : ByteArray) : (lowS a).data.toList = (lowS b).data.toList ↔ Lib.toUpperA a.data.toList = Lib.toUpperA b.data.toList := low_iff _ _

/-- The first k letters made small. -/
def mixL (l : List UInt8) (k i : Nat) : UInt8 := if i < k then Lib.lowerB (l.getD i 0) else l.getD i 0
def MixL (w : World) (b : Nat) (s : ByteArray) (k : Nat) : Prop := ∀ i, i < s.size → w.cell? ⟨b, i, none⟩ = some (.int .u8 ((mixL s.data.toList k i).toNat : Int)) ∧ w.frozen? ⟨b, i, none⟩ = false
theorem isUpper_iff (c : UInt8) : Lib.isUpperB c = true ↔ 65 ≤ c.toNat ∧ c.toNat ≤ 90 := by
  simp only [Lib.isUpperB, Bool.and_eq_true, decide_eq_true_eq, UInt8.le_iff_toNat_le]
  rfl
theorem lower_yes (c : UInt8) (h : 65 ≤ c.toNat ∧ c.toNat ≤ 90) : (Lib.lowerB c).toNat = c.toNat + 32 := by
  rw [Lib.lowerB, if_pos ((isUpper_iff c).2 h), UInt8.toNat_add]
  show (c.toNat + 32) % 256 = _
  omega
theorem lower_no (c : UInt8) (h : ¬ (65 ≤ c.toNat ∧ c.toNat ≤ 90)) : Lib.lowerB c = c := by
  rw [Lib.lowerB, if_neg fun h2 => h ((isUpper_iff c).1 h2)]
theorem MixL.done {w : World} {b : Nat} {s : ByteArray} (h : MixL w b s s.size) : Lib.Bytes w b 0 (lowS s) := fun i hi => by
  rw [lowS_size] at hi
  rw [Nat.zero_add, (h i hi).1, mixL, if_pos hi]
  congr 3
  show _ = ((lowS s).data[i]).toNat
  have hl : i < s.data.toList.length := by simpa using hi
  simp [lowS, List.getD, List.getElem?_eq_getElem hl]
theorem MixL.keep {w : World} {b j : Nat} {s : ByteArray} (h : MixL w b s j) (hn : Lib.lowerB (s.data.toList.getD j 0) = s.data.toList.getD j 0) : MixL w b s (j + 1) := fun i hi => by
  obtain ⟨h1, h2⟩ := h i hi
  refine ⟨?_, h2⟩
  rw [h1, mixL, mixL]
  by_cases e : i = j
  · subst e
    rw [if_neg (by omega), if_pos (by omega), hn]
  · by_cases e2 : i < j
    · rw [if_pos e2, if_pos (by omega)]
    · rw [if_neg e2, if_neg (by omega)]
theorem MixL.put {w : World} {b j : Nat} {s : ByteArray} (h : MixL w b s j) (u : Int) (hu : ((Lib.lowerB (s.data.toList.getD j 0)).toNat : Int) = u) : MixL (w.setCell ⟨b, j, none⟩ (.int .u8 u)) b s (j + 1) := fun i hi => by
  obtain ⟨h1, h2⟩ := h i hi
  refine ⟨?_, by rw [World.frozen?_setCell]; exact h2⟩
  by_cases e : i = j
  · subst e
    rw [World.cell?_setCell_same _ _ _ h1, mixL, if_pos (by omega), hu]
  · rw [World.cell?_setCell_other _ _ _ _ (by intro h; injection h with _ h; exact e h.symm), h1, mixL, mixL]
    by_cases e2 : i < j
    · rw [if_pos e2, if_pos (by omega)]
    · rw [if_neg e2, if_neg (by omega)]
theorem MixL.start {w : World} {b cap : Nat} {s : ByteArray} {e : TypeId} (h : w.heap[b]? = some (.cells (bytesRow s cap) e ((bytesRow s cap).size, (bytesRow s cap).size + 1))) : MixL w b s 0 := fun i hi => by
  have hg := bytesRow_ge s cap
  refine ⟨?_, ?_⟩
  · rw [cell_of_row w b i (bytesRow s cap) e _ h, bytesRow_at s cap i hi, mixL, if_neg (by omega)]
    have hl : i < s.data.toList.length := hi
    rw [List.getD_eq_getElem?_getD, List.getElem?_eq_getElem hl, Option.getD_some]
    rfl
  · simp only [World.frozen?, h]
    simp
    omega
set_option maxRecDepth 100000 in
set_option maxHeartbeats 4000000 in
theorem configLow_any (ad : ByteArray) (w : World) (hs : ad.size ≤ 1000) :
    Calls Tryd.prog 58 #[.string ad] w fun e w' => e = .returned (.string (lowS ad)) ∧ Kp w w' := by
  have s0 : (ad.size : Int) ≤ 1000 := by omega
  clear hs
  go_enter Tryd.func58, Tryd.ntmps58
  go_wp2_with fail
  rw [run_bytes_of_string w 9 33 5 ad Tryd.underlying9 Tryd.underlying33 Tryd.underlying5]
  simp only [Result.andThen]
  rw [Oper.upon_value]
  generalize hY : w.drew.alloc (.cells (bytesRow ad (grownCap w ad.size 0 5)) 5 ((bytesRow ad (grownCap w ad.size 0 5)).size, (bytesRow ad (grownCap w ad.size 0 5)).size + 1)) = Y
  generalize grownCap w ad.size 0 5 = cb at hY ⊢
  obtain ⟨bb, hbb⟩ : ∃ bb, bb = w.heap.size := ⟨_, rfl⟩
  have HMX := Lib.hid (show MixL Y bb ad 0 from MixL.start (cap := cb) (e := 5) (by rw [hbb, ← hY]; exact heap_alloc_new w.drew _))
  have HKY := Lib.hid (show Kp w Y from by rw [← hY]; exact (Kp.refl w).drew.alloc _)
  have HBB := Lib.hid (show w.heap.size ≤ bb from by omega)
  rw [← hbb]
  clear hY hbb
  go_wp2_with fail
  go_loopg [10] ad.size (fun G st wr => ∃ (j : Nat), G = ad.size - j ∧ j ≤ ad.size ∧ st = .int .i64 (j : Int) ∧ MixL wr bb ad j ∧ Kp w wr)
  case atStart => exact ⟨0, rfl, Nat.zero_le _, rfl, HMX.out, HKY.out⟩
  case round =>
    obtain ⟨j, rfl, hj, rfl, hmx, hkj⟩ := hrel
    have HM := Lib.hid hmx
    have HKJ := Lib.hid hkj
    have HJ := Lib.hid hj
    have t0 : (0 : Int) ≤ (j : Int) := by omega
    have t1 : (j : Int) ≤ (ad.size : Int) := by omega
    clear hmx hkj hj
    by_cases hlt : j < ad.size
    · have t2 : (j : Int) < (ad.size : Int) := by omega
      have HLT := Lib.hid hlt
      obtain ⟨d0, d1⟩ := HM.out j hlt
      rw [mixL, if_neg (Nat.lt_irrefl j)] at d0
      clear hlt
      obtain ⟨ch, hch⟩ : ∃ ch, ch = ad.data.toList.getD j 0 := ⟨_, rfl⟩
      rw [← hch] at d0
      obtain ⟨x, hx⟩ : ∃ x, x = ch.toNat := ⟨_, rfl⟩
      rw [← hx] at d0
      have x0 : (0 : Int) ≤ (x : Int) := by omega
      have x1 : (x : Int) < 256 := by have := ch.toNat_lt; omega
      by_cases h97 : 65 ≤ x
      · have y0 : (65 : Int) ≤ (x : Int) := by omega
        by_cases h122 : x ≤ 90
        · have y1 : (x : Int) ≤ 90 := by omega
          have HP := Lib.hid (HM.out.put ((x : Int) + 32) (by rw [← hch, lower_yes ch (by omega), ← hx]; omega))
          have HKP := Lib.hid (HKJ.out.set (p := ⟨bb, j, none⟩) HBB.out (.int .u8 ((x : Int) + 32)))
          clear hx hch h97 h122
          go_wp2_with fail
          go_roundg (ad.size - (j + 1))
          case measure => have := HLT.out; omega
          case rel => exact ⟨j + 1, rfl, HLT.out, by go_num, HP.out, HKP.out⟩
        · have y1 : (90 : Int) < (x : Int) := by omega
          have HP := Lib.hid (HM.out.keep (by rw [← hch]; exact lower_no ch (by omega)))
          clear hx hch h97 h122
          go_wp2_with fail
          go_roundg (ad.size - (j + 1))
          case measure => have := HLT.out; omega
          case rel => exact ⟨j + 1, rfl, HLT.out, by go_num, HP.out, HKJ.out⟩
      · have y0 : (x : Int) < 65 := by omega
        have HP := Lib.hid (HM.out.keep (by rw [← hch]; exact lower_no ch (by omega)))
        clear hx hch h97
        go_wp2_with fail
        go_roundg (ad.size - (j + 1))
        case measure => have := HLT.out; omega
        case rel => exact ⟨j + 1, rfl, HLT.out, by go_num, HP.out, HKJ.out⟩
    · obtain rfl : j = ad.size := by have := HJ.out; omega
      clear hlt
      have hconv : (convert 33 9 (.slice (some ⟨bb, 0, none⟩) ad.size cb)).run Tryd.prog wr = .ok (.string (lowS ad)) wr := by
        have h1 := Lib.run_convert_whole (P := Tryd.prog) wr 33 5 9 Tryd.underlying33 Tryd.underlying5 Tryd.underlying9 bb 0 (lowS ad) HM.out.done cb
        rw [lowS_size] at h1
        exact h1
      go_wp2_with fail
      go_ret
      exact ⟨rfl, HKJ.out⟩

theorem sameS_low (s t : Srv) : sameS s t = (decide (s.po = t.po) && decide ((lowS s.ad).data.toList = (lowS t.ad).data.toList)) := by
  rw [Bool.eq_iff_iff, sameS_iff, Bool.and_eq_true, decide_eq_true_eq, decide_eq_true_eq, lowS_iff]
  exact And.comm
set_option maxRecDepth 100000 in
set_option maxHeartbeats 4000000 in
theorem specEq_any (s t : Srv) (w : World) (hs : s.ad.size ≤ 1000) (ht : t.ad.size ≤ 1000) :
    Calls Tryd.prog 49 #[.agg #[.string s.pr, .string s.ad, .int .i64 s.po], .agg #[.string t.pr, .string t.ad, .int .i64 t.po]] w fun e w' => e = .returned (.bool (sameS s t)) ∧ Kp w w' := by
  have HE := Lib.hid (sameS_low s t)
  obtain ⟨p1, a1, o1⟩ := s
  obtain ⟨p2, a2, o2⟩ := t
  dsimp only at hs ht HE ⊢
  have HA1 := Lib.hid hs
  have HA2 := Lib.hid ht
  clear hs ht
  rw [HE.out]
  by_cases ho : o1 = o2
  · subst ho
    rw [decide_eq_true rfl, Bool.true_and]
    clear HE
    have CA1 := Lib.hid (fun w1 => configLow_any a1 w1 HA1.out)
    have CA2 := Lib.hid (fun w1 => configLow_any a2 w1 HA2.out)
    go_enter Tryd.func49, Tryd.ntmps49
    go_wp2_with fail
    generalize hX : (w.alloc (.cells #[.string p1, .string a1, .int .i64 o1] 27)).alloc (.cells #[.string p2, .string a2, .int .i64 o1] 27) = X
    obtain ⟨B1, hb⟩ : ∃ B1, B1 = w.heap.size := ⟨_, rfl⟩
    obtain ⟨B2, hb2⟩ : ∃ B2, B2 = B1 + 1 := ⟨_, rfl⟩
    have h1 : Blk X B1 27 #[.string p1, .string a1, .int .i64 o1] := by rw [hb, ← hX]; exact (Blk.new w _ _).alloc _
    have h2 : Blk X B2 27 #[.string p2, .string a2, .int .i64 o1] := by rw [hb2, hb, ← hX]; exact Blk.new2 w _ _ _
    have HKX := Lib.hid (show Kp w X from by rw [← hX]; exact ((Kp.refl w).alloc _).alloc _)
    have x1 : X.cell? ⟨B1, 1, none⟩ = some (.string a1) := h1.cell 1
    have x2 : X.cell? ⟨B1, 2, none⟩ = some (.int .i64 o1) := h1.cell 2
    have y1 : X.cell? ⟨B2, 1, none⟩ = some (.string a2) := h2.cell 1
    have y2 : X.cell? ⟨B2, 2, none⟩ = some (.int .i64 o1) := h2.cell 2
    rw [← hb, ← hb2]
    clear hX hb hb2 h1 h2
    have S1 := Lib.hid (show ∀ wz, Kp X wz → wz.cell? ⟨B1, 1, none⟩ = some (.string a1) ∧ wz.cell? ⟨B1, 2, none⟩ = some (.int .i64 o1) ∧ wz.cell? ⟨B2, 1, none⟩ = some (.string a2) ∧ wz.cell? ⟨B2, 2, none⟩ = some (.int .i64 o1) from fun wz hk => ⟨below_some hk x1, below_some hk x2, below_some hk y1, below_some hk y2⟩)
    have HKN := Lib.hid (Kp.refl X)
    go_region_held3 (fun wz => wz.cell? ⟨B1, 1, none⟩ = some (.string a1) ∧ wz.cell? ⟨B1, 2, none⟩ = some (.int .i64 o1) ∧ wz.cell? ⟨B2, 1, none⟩ = some (.string a2) ∧ wz.cell? ⟨B2, 2, none⟩ = some (.int .i64 o1))
      (first | with_reducible exact S1.out _ HKN.out | with_reducible exact S1.out _ HKN.out.drew | go_keep)
      (first
        | (go_at_call 58; (with_reducible refine (CA1.out _).mono ?_); rintro e w3 ⟨rfl, hk3⟩; have HKM := HKN; clear HKN; have HKN := Lib.hid (show Kp X w3 from by first | exact HKM.out.trans hk3 | exact HKM.out.drew.trans hk3); clear hk3 HKM)
        | (go_at_call 58; (with_reducible refine (CA2.out _).mono ?_); rintro e w4 ⟨rfl, hk4⟩; have HKM := HKN; clear HKN; have HKN := Lib.hid (show Kp X w4 from by first | exact HKM.out.trans hk4 | exact HKM.out.drew.trans hk4); clear hk4 HKM))
    go_wp2_with fail
    go_ret
    refine ⟨?_, HKX.out.trans HKN.out⟩
    have e : ((lowS a1).toList == (lowS a2).toList) = decide ((lowS a1).data.toList = (lowS a2).data.toList) := by
      rw [Bool.eq_iff_iff, Lib.bytes_beq_iff, decide_eq_true_eq]
      exact ⟨fun h => by rw [h], fun h => Go.WideShapes.bytes_inj h⟩
    rw [← e]; rfl
  · rw [decide_eq_false ho, Bool.false_and]
    have ho1 : (o1 == o2) = false := by simpa using ho
    clear HE HA1 HA2
    go_enter Tryd.func49, Tryd.ntmps49
    go_wp2_with fail
    generalize hX : (w.alloc (.cells #[.string p1, .string a1, .int .i64 o1] 27)).alloc (.cells #[.string p2, .string a2, .int .i64 o2] 27) = X
    obtain ⟨B1, hb⟩ : ∃ B1, B1 = w.heap.size := ⟨_, rfl⟩
    obtain ⟨B2, hb2⟩ : ∃ B2, B2 = B1 + 1 := ⟨_, rfl⟩
    have h1 : Blk X B1 27 #[.string p1, .string a1, .int .i64 o1] := by rw [hb, ← hX]; exact (Blk.new w _ _).alloc _
    have h2 : Blk X B2 27 #[.string p2, .string a2, .int .i64 o2] := by rw [hb2, hb, ← hX]; exact Blk.new2 w _ _ _
    have HKX := Lib.hid (show Kp w X from by rw [← hX]; exact ((Kp.refl w).alloc _).alloc _)
    have x1 : X.cell? ⟨B1, 1, none⟩ = some (.string a1) := h1.cell 1
    have x2 : X.cell? ⟨B1, 2, none⟩ = some (.int .i64 o1) := h1.cell 2
    have y1 : X.cell? ⟨B2, 1, none⟩ = some (.string a2) := h2.cell 1
    have y2 : X.cell? ⟨B2, 2, none⟩ = some (.int .i64 o2) := h2.cell 2
    rw [← hb, ← hb2]
    clear hX hb hb2 h1 h2
    clear ho
    go_quiet (fail)
    go_wp2_with fail
    go_ret
    exact ⟨rfl, HKX.out.drewN _⟩

/-- The closure that spec.Served hands to ContainsFunc. -/
def fnV (sb : Nat) : Value := .func (.func 48) #[] #[.pointer (some ⟨sb, 0, none⟩)]
set_option maxRecDepth 100000 in
theorem clos_any (y s : Srv) (sb : Nat) (w : World) (c1 : w.cell? ⟨sb, 1, none⟩ = some (.string s.pr)) (c2 : w.cell? ⟨sb, 2, none⟩ = some (.string s.ad)) (c3 : w.cell? ⟨sb, 3, none⟩ = some (.int .i64 s.po)) (hy : y.ad.size ≤ 1000) (hs : s.ad.size ≤ 1000) :
    Calls Tryd.prog 48 #[.agg #[.string y.pr, .string y.ad, .int .i64 y.po], .pointer (some ⟨sb, 0, none⟩)] w fun e w' => e = .returned (.bool (sameS y s)) ∧ Kp w w' := by
  have C := Lib.hid (fun w1 => specEq_any y s w1 hy hs)
  clear hy hs
  obtain ⟨p1, a1, o1⟩ := y
  obtain ⟨p2, a2, o2⟩ := s
  dsimp only at c1 c2 c3 C ⊢
  have hk : Kp w (w.alloc (.cells #[.string p1, .string a1, .int .i64 o1] 27)) := (Kp.refl w).alloc _
  have d1 := below_some hk c1
  have d2 := below_some hk c2
  have d3 := below_some hk c3
  clear hk
  go_enter Tryd.func48, Tryd.ntmps48
  go_wp2_with fail
  refine (C.out _).mono ?_
  rintro e w1 ⟨rfl, hk⟩
  have HK := Lib.hid (((Kp.refl w).alloc (.cells #[.string p1, .string a1, .int .i64 o1] 27)).trans hk)
  clear hk
  go_wp2_with fail
  go_ret
  exact ⟨rfl, HK.out⟩
/-- Whether a row holds an equal server. -/
def anyB (l : List Srv) (s : Srv) : Bool := l.any (sameS s)
set_option maxRecDepth 100000 in
set_option maxHeartbeats 2000000 in
theorem indexFunc_any (a : Option Addr) (n c sb : Nat) (l : List Srv) (s : Srv) (w : World) (hn : l.length = n) (h : SrvRow w a n (fun r => l.getD r zS)) (hy : ∀ y ∈ l, y.ad.size ≤ 1000) (hs : s.ad.size ≤ 1000) (c1 : w.cell? ⟨sb, 1, none⟩ = some (.string s.pr)) (c2 : w.cell? ⟨sb, 2, none⟩ = some (.string s.ad)) (c3 : w.cell? ⟨sb, 3, none⟩ = some (.int .i64 s.po)) (hm : n ≤ 1000) :
    Calls Tryd.prog 62 #[.slice a n c, fnV sb] w fun e w' => ∃ i : Int, e = .returned (.int .i64 i) ∧ (anyB l s = true → 0 ≤ i) ∧ (anyB l s = false → i = -1) ∧ Kp w w' := by
  have i0 : (n : Int) ≤ 1000 := by omega
  have HI := Lib.hid h
  have HNL := Lib.hid hn
  have C := Lib.hid (fun y w1 hk hy => clos_any y s sb w1 (below_some hk c1) (below_some hk c2) (below_some hk c3) hy hs)
  have HY := Lib.hid hy
  clear h hy hs c1 c2 c3 hm hn
  unfold fnV
  go_enter Tryd.func62, Tryd.ntmps62
  go_wp2_with fail
  go_loopg [8] n (fun G st wr => ∃ k : Nat, G = n - k ∧ k ≤ n ∧ st = .int .i64 (k : Int) ∧ anyB (l.take k) s = false ∧ Kp w wr)
  case atStart => exact ⟨0, rfl, Nat.zero_le _, rfl, rfl, Kp.refl _⟩
  case round =>
    obtain ⟨k, rfl, hk, rfl, hall, hkp⟩ := hrel
    have HALL := Lib.hid hall
    have HK := Lib.hid hkp
    have HKN := Lib.hid hk
    have j0 : (0 : Int) ≤ (k : Int) := by omega
    have j1 : (k : Int) ≤ (n : Int) := by omega
    clear hall hkp hk
    by_cases hlt : k < n
    · have j2 : (k : Int) < (n : Int) := by omega
      obtain ⟨b, o, rfl, d0, d1, d2⟩ := HI.out.kp HK.out k hlt
      have HLT := Lib.hid hlt
      have hkl : k < l.length := by rw [HNL.out]; exact hlt
      have HTK := Lib.hid (show l.take (k + 1) = l.take k ++ [l.getD k zS] from by
        rw [List.take_succ_eq_append_getElem hkl, List.getD_eq_getElem?_getD, List.getElem?_eq_getElem hkl, Option.getD_some])
      have HYK := Lib.hid (HY.out _ (getD_mem hkl))
      have HME := Lib.hid (getD_mem hkl)
      clear hlt hkl
      dsimp only at d0 d1 d2
      generalize l.getD k zS = y at d0 d1 d2 HTK HYK HME
      have CC := Lib.hid (fun w1 hk => C.out y w1 hk HYK.out)
      obtain ⟨pr, ad, po⟩ := y
      dsimp only at d0 d1 d2 CC
      go_wp2_with fail
      refine (CC.out _ HK.out).mono ?_
      rintro e w1 ⟨rfl, hb1⟩
      have HB1 := Lib.hid (HK.out.trans hb1)
      clear hb1 d0 d1 d2 CC
      cases hf : sameS ⟨pr, ad, po⟩ s
      · have HF := Lib.hid hf
        clear hf
        go_wp2_with fail
        go_roundg (n - (k + 1))
        case measure => have := HLT.out; omega
        case rel => exact ⟨k + 1, rfl, HLT.out, by go_num, by
          rw [HTK.out, anyB, List.any_append]
          have h1 := HALL.out
          rw [anyB] at h1
          rw [h1, List.any_cons, List.any_nil, sameS_comm, HF.out]; rfl, HB1.out⟩
      · have HF := Lib.hid hf
        clear hf
        go_wp2_with fail
        go_ret
        refine ⟨(k : Int), rfl, fun _ => by omega, fun h => ?_, HB1.out⟩
        exfalso
        rw [anyB, List.any_eq_false] at h
        have := h _ HME.out
        rw [sameS_comm, HF.out] at this
        exact this rfl
    · obtain rfl : k = n := by have := HKN.out; omega
      clear hlt
      go_wp2_with fail
      go_ret
      refine ⟨-1, rfl, fun h => ?_, fun _ => rfl, HK.out⟩
      have h1 := HALL.out
      rw [List.take_of_length_le (by rw [HNL.out]; exact Nat.le_refl _)] at h1
      rw [h1] at h; cases h
set_option maxRecDepth 100000 in
set_option maxHeartbeats 1000000 in
theorem containsFunc_any (a : Option Addr) (n c sb : Nat) (l : List Srv) (s : Srv) (w : World) (hn : l.length = n) (h : SrvRow w a n (fun r => l.getD r zS)) (hy : ∀ y ∈ l, y.ad.size ≤ 1000) (hs : s.ad.size ≤ 1000) (c1 : w.cell? ⟨sb, 1, none⟩ = some (.string s.pr)) (c2 : w.cell? ⟨sb, 2, none⟩ = some (.string s.ad)) (c3 : w.cell? ⟨sb, 3, none⟩ = some (.int .i64 s.po)) (hm : n ≤ 1000) :
    Calls Tryd.prog 47 #[.slice a n c, fnV sb] w fun e w' => e = .returned (.bool (anyB l s)) ∧ Kp w w' := by
  have HI := Lib.hid (indexFunc_any a n c sb l s w hn h hy hs c1 c2 c3 hm)
  clear h hn hy hs c1 c2 c3 hm
  generalize anyB l s = t at HI ⊢
  unfold fnV at HI ⊢
  go_enter Tryd.func47, Tryd.ntmps47
  go_wp2_with fail
  refine HI.out.mono ?_
  rintro e w1 ⟨i, rfl, h1, h2, hb⟩
  have HB := Lib.hid hb
  clear hb HI
  cases t
  · obtain rfl := h2 rfl
    clear h1 h2
    go_wp2_with fail
    go_ret
    exact ⟨rfl, HB.out⟩
  · have i0 := h1 rfl
    clear h1 h2
    go_wp2_with fail
    go_ret
    exact ⟨rfl, HB.out⟩
end Go.Proofs.YtmojecgmneodlaaDoor
