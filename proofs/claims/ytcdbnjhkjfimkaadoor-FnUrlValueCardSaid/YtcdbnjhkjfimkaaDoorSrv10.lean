/-
  The reference's equality of servers: configLow, ServersEqual, and whether a row holds an equal one.
-/
import Derived.Test.YtcdbnjhkjfimkaaDoorFnTwice
namespace Go.Proofs.YtcdbnjhkjfimkaaDoor
open Go Go.RowKit

set_option maxRecDepth 100000 in
theorem low_up (b : UInt8) : Lib.lowerB (Lib.upperB b) = Lib.lowerB b := by
  have : ∀ i : Fin 256, Lib.lowerB (Lib.upperB (UInt8.ofNat i.val)) = Lib.lowerB (UInt8.ofNat i.val) := by decide
  have h := this ⟨b.toNat, b.toNat_lt⟩
  simpa using h
set_option maxRecDepth 100000 in
theorem up_low (b : UInt8) : Lib.upperB (Lib.lowerB b) = Lib.upperB b := by
  have : ∀ i : Fin 256, Lib.upperB (Lib.lowerB (UInt8.ofNat i.val)) = Lib.upperB (UInt8.ofNat i.val) := by decide
  have h := this ⟨b.toNat, b.toNat_lt⟩
  simpa using h
theorem low_iff (a b : List UInt8) : a.map Lib.lowerB = b.map Lib.lowerB ↔ a.map Lib.upperB = b.map Lib.upperB := by
  constructor
  · intro h
    have h1 := congrArg (List.map Lib.upperB) h
    rw [List.map_map, List.map_map] at h1
    have e : ∀ l : List UInt8, l.map (Lib.upperB ∘ Lib.lowerB) = l.map Lib.upperB := fun l => List.map_congr_left fun x _ => up_low x
    rwa [e, e] at h1
  · intro h
    have h1 := congrArg (List.map Lib.lowerB) h
    rw [List.map_map, List.map_map] at h1
    have e : ∀ l : List UInt8, l.map (Lib.lowerB ∘ Lib.upperB) = l.map Lib.lowerB := fun l => List.map_congr_left fun x _ => low_up x
    rwa [e, e] at h1
def lowS (s : ByteArray) : ByteArray := ⟨(s.data.toList.map Lib.lowerB).toArray⟩
theorem lowS_size (s : ByteArray) : (lowS s).size = s.size := by
  show ((s.data.toList.map Lib.lowerB).toArray).size = s.data.size
  simp
theorem lowS_iff (a b : ByteArray) : (lowS a).data.toList = (lowS b).data.toList ↔ Lib.toUpperA a.data.toList = Lib.toUpperA b.data.toList := low_iff _ _

/-- The first k letters made small. -/
def mixL (l : List UInt8) (k i : Nat) : UInt8 := if i < k then Lib.lowerB (l.getD i 0) else l.getD i 0
def MixL (w : World) (b : Nat) (s : ByteArray) (k : Nat) : Prop := ∀ i, i < s.size → w.cell? ⟨b, i, none⟩ = some (.int .u8 ((mixL s.data.toList k i).toNat : Int)) ∧ w.frozen? ⟨b, i, none⟩ = false
theorem isUpper_iff (c : UInt8) : Lib.isUpperB c = true ↔ 65 ≤ c.toNat ∧ c.toNat ≤ 90 := by
  simp only [Lib.isUpperB, Bool.and_eq_true, decide_eq_true_eq, UInt8.le_iff_toNat_le]
  rfl
theorem lower_yes (c : UInt8) (h : 65 ≤ c.toNat ∧ c.toNat ≤ 90) : (Lib.lowerB c).toNat = c.toNat + 32 := by
  rw [Lib.lowerB, if_pos ((isUpper_iff c).2 h), UInt8.toNat_add]
  show (c.toNat + 32) % 256 = _
  omega
theorem lower_no (c : UInt8) (h : ¬ (65 ≤ c.toNat ∧ c.toNat ≤ 90)) : Lib.lowerB c = c := by
  rw [Lib.lowerB, if_neg fun h2 => h ((isUpper_iff c).1 h2)]
theorem MixL.done {w : World} {b : Nat} {s : ByteArray} (h : MixL w b s s.size) : Lib.Bytes w b 0 (lowS s) := fun i hi => by
  rw [lowS_size] at hi
  rw [Nat.zero_add, (h i hi).1, mixL, if_pos hi]
  congr 3
  show _ = ((lowS s).data[i]).toNat
  have hl : i < s.data.toList.length := by simpa using hi
  simp [lowS, List.getD, List.getElem?_eq_getElem hl]
theorem MixL.keep {w : World} {b j : Nat} {s : ByteArray} (h : MixL w b s j) (hn : Lib.lowerB (s.data.toList.getD j 0) = s.data.toList.getD j 0) : MixL w b s (j + 1) := fun i hi => by
  obtain ⟨h1, h2⟩ := h i hi
  refine ⟨?_, h2⟩
  rw [h1, mixL, mixL]
  by_cases e : i = j
  · subst e
    rw [if_neg (by omega), if_pos (by omega), hn]
  · by_cases e2 : i < j
    · rw [if_pos e2, if_pos (by omega)]
    · rw [if_neg e2, if_neg (by omega)]
theorem MixL.put {w : World} {b j : Nat} {s : ByteArray} (h : MixL w b s j) (u : Int) (hu : ((Lib.lowerB (s.data.toList.getD j 0)).toNat : Int) = u) : MixL (w.setCell ⟨b, j, none⟩ (.int .u8 u)) b s (j + 1) := fun i hi => by
  obtain ⟨h1, h2⟩ := h i hi
  refine ⟨?_, by rw [World.frozen?_setCell]; exact h2⟩
  by_cases e : i = j
  · subst e
    rw [World.cell?_setCell_same _ _ _ h1, mixL, if_pos (by omega), hu]
  · rw [World.cell?_setCell_other _ _ _ _ (by intro h; injection h with _ h; exact e h.symm), h1, mixL, mixL]
    by_cases e2 : i < j
    · rw [if_pos e2, if_pos (by omega)]
    · rw [if_neg e2, if_neg (by omega)]
theorem MixL.start {w : World} {b cap : Nat} {s : ByteArray} {e : TypeId} (h : w.heap[b]? = some (.cells (bytesRow s cap) e ((bytesRow s cap).size, (bytesRow s cap).size + 1))) : MixL w b s 0 := fun i hi => by
  have hg := bytesRow_ge s cap
  refine ⟨?_, ?_⟩
  · rw [cell_of_row w b i (bytesRow s cap) e _ h, bytesRow_at s cap i hi, mixL, if_neg (by omega)]
    have hl : i < s.data.toList.length := hi
    rw [List.getD_eq_getElem?_getD, List.getElem?_eq_getElem hl, Option.getD_some]
    rfl
  · simp only [World.frozen?, h]
    simp
    omega
set_option maxRecDepth 100000 in
set_option maxHeartbeats 4000000 in
theorem configLow_any (ad : ByteArray) (w : World) (hs : ad.size ≤ 1000) :
    Calls Tryd.prog 79 #[.string ad] w fun e w' => e = .returned (.string (lowS ad)) ∧ Kp w w' := by
  have s0 : (ad.size : Int) ≤ 1000 := by omega
  clear hs
  go_enter Tryd.func79, Tryd.ntmps79
  go_wp2_with fail
  rw [run_bytes_of_string w 9 26 5 ad Tryd.underlying9 Tryd.underlying26 Tryd.underlying5]
  simp only [Result.andThen]
  rw [Oper.upon_value]
  generalize hY : w.drew.alloc (.cells (bytesRow ad (grownCap w ad.size 0 5)) 5 ((bytesRow ad (grownCap w ad.size 0 5)).size, (bytesRow ad (grownCap w ad.size 0 5)).size + 1)) = Y
  generalize grownCap w ad.size 0 5 = cb at hY ⊢
  obtain ⟨bb, hbb⟩ : ∃ bb, bb = w.heap.size := ⟨_, rfl⟩
  have HMX := Lib.hid (show MixL Y bb ad 0 from MixL.start (cap := cb) (e := 5) (by rw [hbb, ← hY]; exact heap_alloc_new w.drew _))
  have HKY := Lib.hid (show Kp w Y from by rw [← hY]; exact (Kp.refl w).drew.alloc _)
  have HBB := Lib.hid (show w.heap.size ≤ bb from by omega)
  rw [← hbb]
  clear hY hbb
  go_wp2_with fail
  go_loopg [10] ad.size (fun G st wr => ∃ (j : Nat), G = ad.size - j ∧ j ≤ ad.size ∧ st = .int .i64 (j : Int) ∧ MixL wr bb ad j ∧ Kp w wr)
  case atStart => exact ⟨0, rfl, Nat.zero_le _, rfl, HMX.out, HKY.out⟩
  case round =>
    obtain ⟨j, rfl, hj, rfl, hmx, hkj⟩ := hrel
    have HM := Lib.hid hmx
    have HKJ := Lib.hid hkj
    have HJ := Lib.hid hj
    have t0 : (0 : Int) ≤ (j : Int) := by omega
    have t1 : (j : Int) ≤ (ad.size : Int) := by omega
    clear hmx hkj hj
    by_cases hlt : j < ad.size
    · have t2 : (j : Int) < (ad.size : Int) := by omega
      have HLT := Lib.hid hlt
      obtain ⟨d0, d1⟩ := HM.out j hlt
      rw [mixL, if_neg (Nat.lt_irrefl j)] at d0
      clear hlt
      obtain ⟨ch, hch⟩ : ∃ ch, ch = ad.data.toList.getD j 0 := ⟨_, rfl⟩
      rw [← hch] at d0
      obtain ⟨x, hx⟩ : ∃ x, x = ch.toNat := ⟨_, rfl⟩
      rw [← hx] at d0
      have x0 : (0 : Int) ≤ (x : Int) := by omega
      have x1 : (x : Int) < 256 := by have := ch.toNat_lt; omega
      by_cases h97 : 65 ≤ x
      · have y0 : (65 : Int) ≤ (x : Int) := by omega
        by_cases h122 : x ≤ 90
        · have y1 : (x : Int) ≤ 90 := by omega
          have HP := Lib.hid (HM.out.put ((x : Int) + 32) (by rw [← hch, lower_yes ch (by omega), ← hx]; omega))
          have HKP := Lib.hid (HKJ.out.set (p := ⟨bb, j, none⟩) HBB.out (.int .u8 ((x : Int) + 32)))
          clear hx hch h97 h122
          go_wp2_with fail
          go_roundg (ad.size - (j + 1))
          case measure => have := HLT.out; omega
          case rel => exact ⟨j + 1, rfl, HLT.out, by go_num, HP.out, HKP.out⟩
        · have y1 : (90 : Int) < (x : Int) := by omega
          have HP := Lib.hid (HM.out.keep (by rw [← hch]; exact lower_no ch (by omega)))
          clear hx hch h97 h122
          go_wp2_with fail
          go_roundg (ad.size - (j + 1))
          case measure => have := HLT.out; omega
          case rel => exact ⟨j + 1, rfl, HLT.out, by go_num, HP.out, HKJ.out⟩
      · have y0 : (x : Int) < 65 := by omega
        have HP := Lib.hid (HM.out.keep (by rw [← hch]; exact lower_no ch (by omega)))
        clear hx hch h97
        go_wp2_with fail
        go_roundg (ad.size - (j + 1))
        case measure => have := HLT.out; omega
        case rel => exact ⟨j + 1, rfl, HLT.out, by go_num, HP.out, HKJ.out⟩
    · obtain rfl : j = ad.size := by have := HJ.out; omega
      clear hlt
      have hconv : (convert 26 9 (.slice (some ⟨bb, 0, none⟩) ad.size cb)).run Tryd.prog wr = .ok (.string (lowS ad)) wr := by
        have h1 := Lib.run_convert_whole (P := Tryd.prog) wr 26 5 9 Tryd.underlying26 Tryd.underlying5 Tryd.underlying9 bb 0 (lowS ad) HM.out.done cb
        rw [lowS_size] at h1
        exact h1
      go_wp2_with fail
      go_ret
      exact ⟨rfl, HKJ.out⟩

theorem sameS_low (s t : Srv) : sameS s t = (decide (s.po = t.po) && decide ((lowS s.ad).data.toList = (lowS t.ad).data.toList)) := by
  rw [Bool.eq_iff_iff, sameS_iff, Bool.and_eq_true, decide_eq_true_eq, decide_eq_true_eq, lowS_iff]
  exact And.comm
/-- Whether a row holds an equal server. -/
def anyB (l : List Srv) (s : Srv) : Bool := l.any (sameS s)
end Go.Proofs.YtcdbnjhkjfimkaaDoor
