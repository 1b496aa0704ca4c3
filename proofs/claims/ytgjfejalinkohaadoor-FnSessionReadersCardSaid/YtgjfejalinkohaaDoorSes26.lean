/-
  What is read of parts that were written: plain Lean.
-/
import Derived.Test.YtgjfejalinkohaaDoorSes25
namespace Go.Proofs.YtgjfejalinkohaaDoor
open Go Go.RowKit

theorem rdPacked_wide (v : Nat) (hv : v < 18446744073709551616) (rest : List Int) : RdPacked (packed v ++ rest) (w64 v) rest := by
  have hl := sig_le v
  have e : (((sig v).length : Int) % 128).toNat = (sig v).length := by omega
  refine ⟨_, _, rfl, by rw [e]; exact hl, by rw [e]; simp, by rw [e]; simp, ?_⟩
  show w64 (v : Int) = if (128 : Int) ≤ ((sig v).length : Int) then w64 (-(w64 (Lib.beZ ((sig v ++ rest).take (((sig v).length : Int) % 128).toNat)))) else w64 (Lib.beZ ((sig v ++ rest).take (((sig v).length : Int) % 128).toNat))
  rw [e, if_neg (by omega), List.take_left' rfl, beZ_sig v (by omega)]
theorem rdInt_wide (size : Nat) (comp big : Bool) (v : Nat) (hv : v < 18446744073709551616) (hs : v < 256 ^ size) (rest : List Int) : RdInt size comp big (numW size big comp v ++ rest) (w64 v) rest := by
  unfold RdInt numW
  cases comp
  · refine ⟨by simp [plain_length], by simp [List.drop_left' (plain_length _ _ _)], ?_⟩
    simp only [Bool.false_eq_true, if_false, List.take_left' (plain_length _ _ _), valB_plain size big v hs]
  · exact rdPacked_wide v hv rest

theorem PartsIn.ok {w : World} {a : Option Addr} {n : Nat} {P : Nat → LPart} (h : PartsIn w a n P) : ∀ r, r < n → (P r).Ok := fun r hr => by
  obtain ⟨_, _, _, _, _, _, h⟩ := h r hr
  exact h
theorem LPart.fits_le {m : Nat} {s : LPart} (h : s.fits m = true) : s.k1 ≤ m ∧ s.k2 ≤ m := by simpa [LPart.fits] using h
theorem put_ok {s : LPart} {t : PStep} (h : PutOf s t) (hok : s.Ok) (hf : s.fits 1000 = true) : t.Ok := by
  obtain ⟨f1, f2⟩ := LPart.fits_le hf
  refine ⟨by rw [h.kind]; omega, by rw [h.ys, h.k1, hok.l1], by rw [h.zs, h.k2, hok.l2], by rw [h.k1]; omega, by rw [h.k2]; omega, by rw [h.flag]; exact hok.flag, fun e => ?_, fun e => ?_⟩
  · rw [h.kind] at e
    rw [h.size, h.num, if_pos e]
    exact ⟨partSize_or _, _, rfl, partNum_lt _ _ _, partNum_half _ _ _ e⟩
  · rw [h.kind] at e
    rw [h.size, h.uns, if_pos e]
    exact ⟨partSize_or _, _, rfl, partNum_lt _ _ _⟩
theorem partSize_pos (s : Nat) : 0 < partSize s ∧ partSize s ≤ 8 := by rcases partSize_or s with h | h | h | h <;> omega
/-- What is read of a part behind which something stands. -/
theorem part_step (big : Bool) (chunk : Nat) (hc : 0 < chunk) (hc2 : chunk ≤ 1073741824) (hcb : big = false → chunk < 256) {s : LPart} {t : PStep} (h : PutOf s t) (hok : s.Ok) (hf : s.fits 1000 = true) (rest : List Int) :
    StepR big (getOf s).kind (getOf s).size (getOf s).big (getOf s).comp (stepW big chunk t ++ rest) (wantV s) rest := by
  obtain ⟨f1, f2⟩ := LPart.fits_le hf
  have l1 := hok.l1
  have l2 := hok.l2
  obtain h6 | h6 | h6 | h6 | h6 | h6 : s.kd % 6 = 0 ∨ s.kd % 6 = 1 ∨ s.kd % 6 = 2 ∨ s.kd % 6 = 3 ∨ s.kd % 6 = 4 ∨ s.kd % 6 = 5 := by omega
  · have e1 : stepW big chunk t = s.ys := by simp [stepW, h.kind, h6, h.ys]
    have e2 : getOf s = ⟨1, s.k1, false, false⟩ := by simp [getOf, h6]
    have e3 : wantV s = ⟨s.ys, [], 0, noText⟩ := by simp [wantV, h6]
    rw [e1, e2, e3]
    exact .inr (.inl ⟨rfl, by simp; omega, by rw [List.take_left' l1], by rw [List.drop_left' l1]⟩)
  · have e1 : stepW big chunk t = clrW big chunk s.ys := by simp [stepW, h.kind, h6, h.ys]
    have e2 : getOf s = ⟨2, 0, false, false⟩ := by simp [getOf, h6]
    have e3 : wantV s = ⟨s.ys, [], 0, noText⟩ := by simp [wantV, h6]
    rw [e1, e2, e3]
    exact .inr (.inr (.inl ⟨rfl, s.ys, rdClr_mk big chunk hc hc2 hcb s.ys rest, rfl⟩))
  · have e1 : stepW big chunk t = numW (partSize s.sz) s.big s.comp (partNum s.kd s.sz s.num) := by simp [stepW, h.kind, h6, h.size, h.big, h.comp, h.num]
    have e2 : getOf s = ⟨4, partSize s.sz, s.big, s.comp⟩ := by simp [getOf, h6]
    have e3 : wantV s = ⟨[], [], w64 (partNum s.kd s.sz s.num : Int), noText⟩ := by simp [wantV, h6]
    rw [e1, e2, e3]
    exact .inr (.inr (.inr (.inr (.inl ⟨.inl rfl, fun _ => partSize_pos _, _, rdInt_wide _ _ _ _ (partNum_max _ _ _) (partNum_lt _ _ _) rest, rfl⟩))))
  · have e1 : stepW big chunk t = numW (partSize s.sz) s.big (s.comp && decide (1 < partSize s.sz)) (partNum s.kd s.sz s.num) := by simp [stepW, h.kind, h6, h.size, h.big, h.comp, h.uns]
    have e2 : getOf s = ⟨4, partSize s.sz, s.big, s.comp && decide (1 < partSize s.sz)⟩ := by simp [getOf, h6]
    have e3 : wantV s = ⟨[], [], w64 (partNum s.kd s.sz s.num : Int), noText⟩ := by simp [wantV, h6]
    rw [e1, e2, e3]
    exact .inr (.inr (.inr (.inr (.inl ⟨.inl rfl, fun _ => partSize_pos _, _, rdInt_wide _ _ _ _ (partNum_max _ _ _) (partNum_lt _ _ _) rest, rfl⟩))))
  · have e1 : stepW big chunk t = kvW big chunk s.ys s.zs s.flag := by simp [stepW, h.kind, h6, h.ys, h.zs, h.flag]
    have e2 : getOf s = ⟨6, 0, false, false⟩ := by simp [getOf, h6]
    have e3 : wantV s = ⟨s.ys, s.zs, (s.flag : Int), noText⟩ := by simp [wantV, h6]
    have := hok.flag
    rw [e1, e2, e3]
    exact .inr (.inr (.inr (.inr (.inr (.inl ⟨rfl, s.ys, s.zs, (s.flag : Int), rdKv_mk big chunk hc hc2 hcb s.ys s.zs rest s.flag (by omega) (by omega) (by omega), rfl⟩)))))
  · have e1 : stepW big chunk t = fixedW s.ys := by simp [stepW, h.kind, h6, h.ys]
    have e2 : getOf s = ⟨8, 0, false, false⟩ := by simp [getOf, h6]
    have e3 : wantV s = ⟨s.ys, [], 0, noText⟩ := by simp [wantV, h6]
    rw [e1, e2, e3]
    exact .inr (.inr (.inr (.inr (.inr (.inr (.inl ⟨rfl, s.ys, rdFixed_mk s.ys rest (by omega), rfl⟩))))))
/-- What is read of parts, one behind the other, with something behind them. -/
theorem parts_run (big : Bool) (chunk : Nat) (hc : 0 < chunk) (hc2 : chunk ≤ 1073741824) (hcb : big = false → chunk < 256) (n : Nat) (P : Nat → LPart) (R : Nat → PStep) (more : List Int) (hp : ∀ r, r < n → PutOf (P r) (R r)) (hok : ∀ r, r < n → (P r).Ok) (hf : allFit 1000 P n = true) :
    RunR big n (fun r => getOf (P r)) (fun r => restL big chunk R (n - r) r ++ more) (fun r => wantV (P r)) := fun r hr => by
  show StepR big (getOf (P r)).kind (getOf (P r)).size (getOf (P r)).big (getOf (P r)).comp (restL big chunk R (n - r) r ++ more) (wantV (P r)) (restL big chunk R (n - (r + 1)) (r + 1) ++ more)
  rw [rest_step big chunk R n r hr, List.append_assoc]
  exact part_step big chunk hc hc2 hcb (hp r hr) (hok r hr) (allFit_at 1000 P n hf r hr) _
theorem parts_bys {n : Nat} {P : Nat → LPart} {R : Nat → PStep} (big : Bool) (chunk : Nat) (hp : ∀ r, r < n → PutOf (P r) (R r)) (hok : ∀ r, r < n → (P r).Ok) : Bys (putL big chunk R n) :=
  bys_put big chunk R n (fun r hr => by rw [(hp r hr).ys, (hp r hr).zs]; exact ⟨(hok r hr).b1, (hok r hr).b2⟩) n (Nat.le_refl _)
theorem want_in {w : World} {a : Option Addr} {n : Nat} {P : Nat → LPart} (h : PartsIn w a n P) : GotsIn w n (fun r => wantP (P r)) (fun r => wantV (P r)) := fun r hr => by
  obtain ⟨_, _, _, _, h1, h2, hok⟩ := h r hr
  show (wantV (P r)).d1.length = (wantP (P r)).k1 ∧ Lib.BytesIn w (wantP (P r)).q1 (wantP (P r)).k1 (wantV (P r)).d1 ∧ (wantV (P r)).d2.length = (wantP (P r)).k2 ∧ Lib.BytesIn w (wantP (P r)).q2 (wantP (P r)).k2 (wantV (P r)).d2
  generalize P r = s at h1 h2 hok
  by_cases e2 : s.kd % 6 = 2
  · simp only [wantP, wantV, e2, if_true]
    exact ⟨rfl, Lib.BytesIn.nil _ _ _, rfl, Lib.BytesIn.nil _ _ _⟩
  by_cases e3 : s.kd % 6 = 3
  · simp only [wantP, wantV, e3, if_true]
    exact ⟨rfl, Lib.BytesIn.nil _ _ _, rfl, Lib.BytesIn.nil _ _ _⟩
  by_cases e4 : s.kd % 6 = 4
  · simp only [wantP, wantV, e4, if_true]
    exact ⟨hok.l1, h1, hok.l2, h2⟩
  · simp only [wantP, wantV, e2, e3, e4, if_false]
    exact ⟨hok.l1, h1, rfl, Lib.BytesIn.nil _ _ _⟩
end Go.Proofs.YtgjfejalinkohaaDoor
