/-
  What a part is written as, and how long it is; one part alone.
-/
import Derived.Test.YtgjfejalinkohaaDoorSes26
namespace Go.Proofs.YtgjfejalinkohaaDoor
open Go Go.RowKit

/-- What a part is written as. -/
def partW (big : Bool) (chunk : Nat) (s : LPart) : List Int :=
  if s.kd % 6 = 0 then s.ys else if s.kd % 6 = 1 then clrW big chunk s.ys else if s.kd % 6 = 2 then numW (partSize s.sz) s.big s.comp (partNum s.kd s.sz s.num) else if s.kd % 6 = 3 then numW (partSize s.sz) s.big (s.comp && decide (1 < partSize s.sz)) (partNum s.kd s.sz s.num) else
  if s.kd % 6 = 4 then kvW big chunk s.ys s.zs s.flag else fixedW s.ys
theorem put_w {big : Bool} {chunk : Nat} {s : LPart} {t : PStep} (h : PutOf s t) : stepW big chunk t = partW big chunk s := by
  obtain h6 | h6 | h6 | h6 | h6 | h6 : s.kd % 6 = 0 ∨ s.kd % 6 = 1 ∨ s.kd % 6 = 2 ∨ s.kd % 6 = 3 ∨ s.kd % 6 = 4 ∨ s.kd % 6 = 5 := by omega
  · simp [stepW, partW, h.kind, h6, h.ys]
  · simp [stepW, partW, h.kind, h6, h.ys]
  · simp [stepW, partW, h.kind, h6, h.size, h.big, h.comp, h.num]
  · simp [stepW, partW, h.kind, h6, h.size, h.big, h.comp, h.uns]
  · simp [stepW, partW, h.kind, h6, h.ys, h.zs, h.flag]
  · simp [stepW, partW, h.kind, h6, h.ys]
/-- How many bytes a number has. -/
def nby (u : Nat) : Nat := if u = 0 then 0 else nby (u / 256) + 1
theorem sl_nby : ∀ k v, v < 256 ^ k → (sl k v).length = nby v
  | 0, v, h => by
    have : v = 0 := by simpa using h
    subst this
    rw [nby]; simp [sl]
  | k + 1, v, h => by
    rw [nby]
    unfold sl
    by_cases h0 : v = 0
    · simp [h0]
    · have h2 : v / 256 < 256 ^ k := by rw [Nat.pow_succ] at h; exact Nat.div_lt_of_lt_mul (by rw [Nat.mul_comm]; exact h)
      simp [h0, sl_nby k _ h2]
theorem sig_nby (v : Nat) (h : v < 18446744073709551616) : (sig v).length = nby v := by
  rw [sig, List.length_reverse]
  exact sl_nby 8 v (by simpa using h)
theorem nby_zero : nby 0 = 0 := by rw [nby]; simp
theorem nby_pos (u : Nat) (h : 0 < u) : nby u = nby (u / 256) + 1 := by
  conv => lhs; rw [nby]
  rw [if_neg (by omega)]
theorem numW_comp (k : Nat) (b : Bool) (v : Nat) (h : v < 18446744073709551616) : (numW k b true v).length = nby v + 1 := by
  simp [numW, packed, sig_nby v h]
theorem numW_plain (k : Nat) (b : Bool) (v : Nat) : (numW k b false v).length = k := by simp [numW, plain_length]
theorem chunks_ge (big : Bool) (chunk : Nat) (hc : 0 < chunk) : ∀ (f : Nat) (d : List Int), d.length ≤ f → d.length ≤ (chunks big chunk f d).length
  | 0, d, h => by simp at h; simp [h]
  | f + 1, d, h => by
    unfold chunks
    by_cases h0 : d = []
    · simp [h0]
    · have hl : 0 < d.length := List.length_pos_iff.2 h0
      have ih := chunks_ge big chunk hc f (d.drop chunk) (by simp; omega)
      simp only [if_neg h0, List.length_append, List.length_take, List.length_drop] at ih ⊢
      omega
theorem clrW_ge (big : Bool) (chunk : Nat) (hc : 0 < chunk) (d : List Int) : d.length ≤ (clrW big chunk d).length := by
  unfold clrW
  split
  · have := chunks_ge big chunk hc d.length d (Nat.le_refl _)
    simp; omega
  · simp
theorem dlcW_ge (big : Bool) (chunk : Nat) (hc : 0 < chunk) (d : List Int) : d.length ≤ (dlcW big chunk d).length := by
  unfold dlcW
  split
  · rename_i h; simp [h]
  · have := clrW_ge big chunk hc d
    simp; omega
theorem kvW_ge (big : Bool) (chunk : Nat) (hc : 0 < chunk) (k v : List Int) (n : Nat) : k.length ≤ (kvW big chunk k v n).length := by
  have := dlcW_ge big chunk hc k
  simp [kvW]; omega
theorem fixedW_ge (d : List Int) : d.length ≤ (fixedW d).length := by
  unfold fixedW
  split <;> simp <;> omega
theorem partW_ge (big : Bool) (chunk : Nat) (hc : 0 < chunk) (s : LPart) (h : s.kd % 6 = 1 ∨ s.kd % 6 = 4 ∨ s.kd % 6 = 5) : s.ys.length ≤ (partW big chunk s).length := by
  rcases h with h | h | h
  · simp [partW, h, clrW_ge big chunk hc]
  · simp [partW, h, kvW_ge big chunk hc]
  · simp [partW, h, fixedW_ge]
def sumL (big : Bool) (P : Nat → LPart) : Nat → Nat
  | 0 => 0
  | k + 1 => sumL big P k + (partW big 64 (P k)).length
theorem putL_sum {big : Bool} {P : Nat → LPart} {R : Nat → PStep} : ∀ n, (∀ r, r < n → PutOf (P r) (R r)) → (putL big 64 R n).length = sumL big P n
  | 0, _ => rfl
  | n + 1, h => by
    simp only [putL, sumL, List.length_append, put_w (h n (Nat.lt_succ_self n)), putL_sum n (fun r hr => h r (by omega))]

/-- One part alone: the steps that write it, and what is written. -/
def OnePuts (s : LPart) (W : World) (e : Ending) (w' : World) : Prop := ∃ a c t, e = .returned (.slice a 1 c) ∧ PutsIn w' a 1 (fun _ => t) ∧ PutOf s t ∧ Kp W w'
theorem onePuts_any (W : World) (b : Nat) (s : LPart) (hB : Blk W b 50 s.cells.toArray) (h1 : Lib.BytesIn W s.q1 s.k1 s.ys) (h2 : Lib.BytesIn W s.q2 s.k2 s.zs) (hok : s.Ok) (hf : s.fits 1000 = true) :
    Calls Tryd.prog 25 #[.slice (some ⟨b, 0, none⟩) 1 1] W (OnePuts s W) := by
  refine (sessionPuts_any (some ⟨b, 0, none⟩) 1 1 (fun _ => s) W (fun r hr => ⟨b, 0, rfl, fun j v hv => ?_, h1, h2, hok⟩) (by omega) (by simp [allFit, hf])).mono ?_
  · obtain rfl : r = 0 := by omega
    rw [show 0 + 0 * 8 + j = j by omega, hB.cell j]
    simpa using hv
  · rintro e w' ⟨v, R, rfl, hc, hp, hk⟩
    obtain ⟨a, c, rfl, hputs⟩ := hc.puts
    exact ⟨a, c, R 0, rfl, fun r hr => by obtain rfl : r = 0 := by omega
                                          exact hputs 0 hr, hp 0 (by omega), hk⟩
def OneLen (big : Bool) (s : LPart) (W : World) (e : Ending) (w' : World) : Prop := ∃ q l d, e = .returned (.slice q l d) ∧ l = (partW big 64 s).length ∧ Kp W w'
theorem oneLen_any (W : World) (a : Option Addr) (c : Nat) (big : Bool) (s : LPart) (t : PStep) (hp : PutsIn W a 1 (fun _ => t)) (ht : PutOf s t) (hok : s.Ok) (hf : s.fits 1000 = true) :
    Calls Tryd.prog 17 #[.slice a 1 c, .bool big, .int .i64 64] W (OneLen big s W) := by
  refine (sessionPut_any a 1 c (fun _ => t) big 64 W hp (fun _ _ => put_ok ht hok hf) (by omega) (by omega) (by omega) (fun _ => by omega)).mono ?_
  rintro e w' ⟨q, l, d, rfl, hl, _, hb⟩
  refine ⟨q, l, d, rfl, ?_, hb⟩
  rw [← hl, ← put_w (big := big) (chunk := 64) ht]
  simp [putL]
theorem partW_len (big : Bool) {s : LPart} {t : PStep} (ht : PutOf s t) (hok : s.Ok) (hf : s.fits 1000 = true) : (partW big 64 s).length ≤ 30000000 := by
  rw [← put_w (big := big) (chunk := 64) ht]
  exact stepW_len big 64 (by omega) t (put_ok ht hok hf)
end Go.Proofs.YtgjfejalinkohaaDoor
