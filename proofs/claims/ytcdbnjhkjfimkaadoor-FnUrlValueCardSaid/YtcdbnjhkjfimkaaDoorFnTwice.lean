/-
  FnServedTwice: a server that is added once more, in letters of any case, changes nothing.
-/
import Derived.Test.YtcdbnjhkjfimkaaDoorSrv9
import Derived.Laws.IdiomStrings
import Derived.Lib.SlBytesRow
namespace Go.Proofs.YtcdbnjhkjfimkaaDoor
open Go Go.RowKit

def stpC (R : Nat → Srv) (r : Nat) : List Value := [.int .i64 0, .string (R r).pr, .string (R r).ad, .int .i64 (R r).po]
theorem stpC_one (R : Nat → Srv) (r : Nat) : ∀ u ∈ stpC R r, u.oneCell' = true := fun u hu => by
  simp only [stpC, List.mem_cons, List.not_mem_nil, or_false] at hu
  rcases hu with rfl | rfl | rfl | rfl <;> rfl
theorem flatV_len {f : Nat → List Value} {m : Nat} (hf : ∀ r, (f r).length = m) : ∀ k, (flatV f k).length = k * m
  | 0 => by simp [flatV]
  | k + 1 => by simp only [flatV, List.length_append, flatV_len hf k, hf, Nat.succ_mul]
theorem flatV_at {f : Nat → List Value} {m : Nat} (hf : ∀ r, (f r).length = m) : ∀ k r j u, r < k → (f r)[j]? = some u → (flatV f k)[r * m + j]? = some u
  | 0, r, j, u, hr, _ => by omega
  | k + 1, r, j, u, hr, hu => by
    have hj : j < m := by have := (List.getElem?_eq_some_iff.1 hu).1; rw [hf] at this; exact this
    have hl := flatV_len hf k
    by_cases e : r = k
    · subst e
      rw [flatV, List.getElem?_append_right (by rw [hl]; omega), hl, Nat.add_sub_cancel_left]
      exact hu
    · have h1 : (r + 1) * m ≤ k * m := Nat.mul_le_mul_right _ (by omega)
      rw [Nat.succ_mul] at h1
      rw [flatV, List.getElem?_append_left (by rw [hl]; omega)]
      exact flatV_at hf k r j u (by omega) hu
theorem flatV_congr {f g : Nat → List Value} : ∀ k, (∀ r, r < k → f r = g r) → flatV f k = flatV g k
  | 0, _ => rfl
  | k + 1, h => by rw [flatV, flatV, flatV_congr k (fun r hr => h r (by omega)), h k (by omega)]
/-- Steps that add, in a row of the call's own. -/
theorem stepsIn_own {w : World} {base n : Nat} {q : Option Addr} {c : Nat} {R : Nat → Srv} {e : TypeId} (h : w.ownsRow base e 4 (.slice q n c) n (flatV (stpC R) n)) : StepsIn w q n (fun _ => 0) R := fun r hr => by
  obtain ⟨g, cap, e, _, _, _, _, hc⟩ := own_form h (show 0 < n by omega)
  injection e with e1
  exact ⟨g, e1, hc _ _ (flatV_at (f := stpC R) (m := 4) (fun _ => rfl) n r 0 _ hr rfl), hc _ _ (flatV_at (f := stpC R) (m := 4) (fun _ => rfl) n r 1 _ hr rfl), hc _ _ (flatV_at (f := stpC R) (m := 4) (fun _ => rfl) n r 2 _ hr rfl), hc _ _ (flatV_at (f := stpC R) (m := 4) (fun _ => rfl) n r 3 _ hr rfl)⟩
theorem stAt_adds (R : Nat → Srv) : ∀ k, stAt (fun _ => 0) R k = ⟨((List.range k).map R).foldl addS [], 0⟩
  | 0 => rfl
  | k + 1 => by
    rw [stAt, stAt_adds R k, List.range_succ, List.map_append, List.foldl_append]
    rfl
/-- One more server, that is there already. -/
theorem adds_same (R R2 : Nat → Srv) (n i : Nat) (hi : i < n) (h : ∀ r, r < n → R2 r = R r) (hs : sameS (R2 n) (R i) = true) : (stAt (fun _ => 0) R2 (n + 1)).all = (stAt (fun _ => 0) R n).all := by
  have e : (List.range n).map R2 = (List.range n).map R := List.map_congr_left fun r hr => h r (List.mem_range.1 hr)
  rw [stAt_adds, stAt_adds, List.range_succ, List.map_append, e]
  exact added_twice _ (List.mem_map.2 ⟨i, List.mem_range.2 hi, rfl⟩) hs

/-- The first k letters made great. -/
def mixB (l : List UInt8) (k i : Nat) : UInt8 := if i < k then Lib.upperB (l.getD i 0) else l.getD i 0
def Mix (w : World) (b : Nat) (s : ByteArray) (k : Nat) : Prop := ∀ i, i < s.size → w.cell? ⟨b, i, none⟩ = some (.int .u8 ((mixB s.data.toList k i).toNat : Int)) ∧ w.frozen? ⟨b, i, none⟩ = false
theorem lower_iff (c : UInt8) : Lib.isLowerB c = true ↔ 97 ≤ c.toNat ∧ c.toNat ≤ 122 := by
  simp only [Lib.isLowerB, Bool.and_eq_true, decide_eq_true_eq, UInt8.le_iff_toNat_le]
  rfl
theorem upper_yes (c : UInt8) (h : 97 ≤ c.toNat ∧ c.toNat ≤ 122) : (Lib.upperB c).toNat = c.toNat - 32 := by
  rw [Lib.upperB, if_pos ((lower_iff c).2 h), UInt8.toNat_sub_of_le]
  · rfl
  · rw [UInt8.le_iff_toNat_le]
    show 32 ≤ c.toNat
    omega
theorem upper_no (c : UInt8) (h : ¬ (97 ≤ c.toNat ∧ c.toNat ≤ 122)) : Lib.upperB c = c := by
  rw [Lib.upperB, if_neg fun h2 => h ((lower_iff c).1 h2)]
def upS (s : ByteArray) : ByteArray := ⟨(upAll s.data.toList).toArray⟩
theorem upS_size (s : ByteArray) : (upS s).size = s.size := by
  show ((upAll s.data.toList).toArray).size = s.data.size
  simp [upAll]
theorem upS_data (s : ByteArray) : (upS s).data.toList = upAll s.data.toList := rfl
theorem Mix.done {w : World} {b : Nat} {s : ByteArray} (h : Mix w b s s.size) : Lib.Bytes w b 0 (upS s) := fun i hi => by
  rw [upS_size] at hi
  rw [Nat.zero_add, (h i hi).1, mixB, if_pos hi]
  congr 3
  show _ = ((upS s).data[i]).toNat
  have hl : i < s.data.toList.length := by simpa using hi
  simp [upS, upAll, List.getD, List.getElem?_eq_getElem hl]
theorem upS_ok {pr ad : ByteArray} (h : srvOk pr ad = true) : srvOk pr (upS ad) = true := by
  simp only [srvOk, Bool.and_eq_true, decide_eq_true_eq] at h ⊢
  refine ⟨⟨by rw [upS_size]; exact h.1.1, h.1.2⟩, ?_⟩
  rw [plainL_iff]
  intro b hb
  rw [upS_data] at hb
  obtain ⟨x, hx, rfl⟩ := List.mem_map.1 hb
  exact upper_lt x ((plainL_iff _).1 h.2 x hx)
theorem upS_same (s : Srv) : sameS ⟨s.pr, upS s.ad, s.po⟩ s = true := by
  rw [sameS_iff]
  refine ⟨?_, rfl⟩
  rw [upS_data]
  exact (hostEq_iff _ _).1 (upAll_host _)

theorem Mix.keep {w : World} {b j : Nat} {s : ByteArray} (h : Mix w b s j) (hn : Lib.upperB (s.data.toList.getD j 0) = s.data.toList.getD j 0) : Mix w b s (j + 1) := fun i hi => by
  obtain ⟨h1, h2⟩ := h i hi
  refine ⟨?_, h2⟩
  rw [h1, mixB, mixB]
  by_cases e : i = j
  · subst e
    rw [if_neg (by omega), if_pos (by omega), hn]
  · by_cases e2 : i < j
    · rw [if_pos e2, if_pos (by omega)]
    · rw [if_neg e2, if_neg (by omega)]
theorem Mix.put {w : World} {b j : Nat} {s : ByteArray} (h : Mix w b s j) (u : Int) (hu : ((Lib.upperB (s.data.toList.getD j 0)).toNat : Int) = u) : Mix (w.setCell ⟨b, j, none⟩ (.int .u8 u)) b s (j + 1) := fun i hi => by
  obtain ⟨h1, h2⟩ := h i hi
  refine ⟨?_, by rw [World.frozen?_setCell]; exact h2⟩
  by_cases e : i = j
  · subst e
    rw [World.cell?_setCell_same _ _ _ h1, mixB, if_pos (by omega), hu]
  · rw [World.cell?_setCell_other _ _ _ _ (by intro h; injection h with _ h; exact e h.symm), h1, mixB, mixB]
    by_cases e2 : i < j
    · rw [if_pos e2, if_pos (by omega)]
    · rw [if_neg e2, if_neg (by omega)]
theorem bytesRow_ge (s : ByteArray) (cap : Nat) : s.size ≤ (bytesRow s cap).size := by
  unfold bytesRow
  rw [Array.size_append, Array.size_map]
  exact Nat.le_add_right _ _
theorem Mix.start {w : World} {b cap : Nat} {s : ByteArray} {e : TypeId} (h : w.heap[b]? = some (.cells (bytesRow s cap) e ((bytesRow s cap).size, (bytesRow s cap).size + 1))) : Mix w b s 0 := fun i hi => by
  have hg := bytesRow_ge s cap
  refine ⟨?_, ?_⟩
  · rw [cell_of_row w b i (bytesRow s cap) e _ h, bytesRow_at s cap i hi, mixB, if_neg (by omega)]
    have hl : i < s.data.toList.length := hi
    rw [List.getD_eq_getElem?_getD, List.getElem?_eq_getElem hl, Option.getD_some]
    rfl
  · simp only [World.frozen?, h]
    simp
    omega

end Go.Proofs.YtcdbnjhkjfimkaaDoor
