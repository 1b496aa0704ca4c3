/-
  The forms of a session in plain Lean: numbers of a size, compressed numbers, CLRs, keys with values, fixed CLRs: how they are written and how they are read.
-/
import Derived.Lib.EndianZ
import Derived.Lib.UnsafeStr
import Derived.IntWalk
namespace Go.Proofs.YtacmnibhdmeidaaDoor
open Go

/-- The k least bytes of a number, the least one ahead. -/
def le : Nat → Nat → List Int
  | 0, _ => []
  | k + 1, v => ((v % 256 : Nat) : Int) :: le k (v / 256)
/-- The significant bytes, the least one ahead (k at most). -/
def sl : Nat → Nat → List Int
  | 0, _ => []
  | k + 1, v => if v = 0 then [] else ((v % 256 : Nat) : Int) :: sl k (v / 256)
def be (k v : Nat) : List Int := (le k v).reverse
def sig (v : Nat) : List Int := (sl 8 v).reverse
def packed (v : Nat) : List Int := ((sig v).length : Int) :: sig v
def plain (k : Nat) (big : Bool) (v : Nat) : List Int := if big then be k v else le k v

theorem le_length : ∀ k v, (le k v).length = k
  | 0, _ => rfl
  | k + 1, v => by simp [le, le_length k]
theorem be_length (k v : Nat) : (be k v).length = k := by simp [be, le_length]
theorem plain_length (k : Nat) (big : Bool) (v : Nat) : (plain k big v).length = k := by unfold plain; split <;> simp [be_length, le_length]
theorem le_byte : ∀ k v, ∀ x ∈ le k v, 0 ≤ x ∧ x < 256
  | 0, _, x, h => by simp [le] at h
  | k + 1, v, x, h => by
    rcases List.mem_cons.1 h with rfl | h
    · omega
    · exact le_byte k _ x h
theorem be_byte (k v : Nat) : ∀ x ∈ be k v, 0 ≤ x ∧ x < 256 := fun x h => le_byte k v x (by simpa [be] using h)
theorem plain_byte (k : Nat) (big : Bool) (v : Nat) : ∀ x ∈ plain k big v, 0 ≤ x ∧ x < 256 := by
  unfold plain
  split
  · exact be_byte k v
  · exact le_byte k v
theorem sl_byte : ∀ k v, ∀ x ∈ sl k v, 0 ≤ x ∧ x < 256
  | 0, _, x, h => by simp [sl] at h
  | k + 1, v, x, h => by
    unfold sl at h
    split at h
    · cases h
    · rcases List.mem_cons.1 h with rfl | h
      · omega
      · exact sl_byte k _ x h
theorem sig_byte (v : Nat) : ∀ x ∈ sig v, 0 ≤ x ∧ x < 256 := fun x h => sl_byte 8 v x (by simpa [sig] using h)
theorem sl_le : ∀ k v, (sl k v).length ≤ k
  | 0, _ => by simp [sl]
  | k + 1, v => by
    unfold sl
    split
    · simp
    · simp; exact sl_le k _
theorem sig_le (v : Nat) : (sig v).length ≤ 8 := by simpa [sig] using sl_le 8 v
theorem sl_small : ∀ s k v, v < 256 ^ s → (sl k v).length ≤ s
  | _, 0, _, _ => by simp [sl]
  | 0, k + 1, v, h => by
    have : v = 0 := by simpa using h
    simp [sl, this]
  | s + 1, k + 1, v, h => by
    unfold sl
    split
    · simp
    · simp
      exact sl_small s k _ (by rw [Nat.pow_succ] at h; exact Nat.div_lt_of_lt_mul (by rw [Nat.mul_comm]; exact h))
theorem sig_small (s v : Nat) (h : v < 256 ^ s) : (sig v).length ≤ s := by simpa [sig] using sl_small s 8 v h
theorem packed_byte (v : Nat) : ∀ x ∈ packed v, 0 ≤ x ∧ x < 256 := fun x h => by
  rcases List.mem_cons.1 h with rfl | h
  · have := sig_le v; omega
  · exact sig_byte v x h
theorem packed_length (v : Nat) : (packed v).length = (sig v).length + 1 := by simp [packed]
theorem sl_zero (k : Nat) : sl k 0 = [] := by cases k <;> simp [sl]
theorem le_zero : ∀ k, le k 0 = List.replicate k 0
  | 0 => rfl
  | k + 1 => by simp [le, le_zero k, List.replicate_succ]
/-- A number's bytes are its significant ones and zeros. -/
theorem le_sl : ∀ k v, le k v = sl k v ++ List.replicate (k - (sl k v).length) 0
  | 0, _ => rfl
  | k + 1, v => by
    unfold sl
    split
    · next h => subst h; rw [le_zero]; rfl
    · simp only [List.cons_append, List.length_cons, Nat.add_sub_add_right]
      rw [← le_sl k]
      rfl
theorem be_sig (v : Nat) : be 8 v = List.replicate (8 - (sig v).length) 0 ++ sig v := by
  unfold be sig
  rw [le_sl 8 v]
  simp
/-- The greatest significant byte is no zero. -/
theorem sl_last : ∀ k v, v < 256 ^ k → ∀ x, (sl k v).getLast? = some x → x ≠ 0
  | 0, _, _, x, h => by simp [sl] at h
  | k + 1, v, hv, x, h => by
    unfold sl at h
    split at h
    · simp at h
    · next h0 =>
      have hd : v / 256 < 256 ^ k := by rw [Nat.pow_succ] at hv; exact Nat.div_lt_of_lt_mul (by rw [Nat.mul_comm]; exact hv)
      by_cases hz : v / 256 = 0
      · rw [hz, sl_zero] at h
        simp at h
        omega
      · cases hs : sl k (v / 256) with
        | nil =>
          cases k with
          | zero => simp at hd; omega
          | succ k => unfold sl at hs; rw [if_neg hz] at hs; cases hs
        | cons y l =>
          rw [hs, List.getLast?_cons_cons, ← hs] at h
          exact sl_last k _ hd x h
theorem sig_head (v : Nat) (hv : v < 18446744073709551616) (h : 0 < (sig v).length) : (sig v).getD 0 0 ≠ 0 := by
  unfold sig at h ⊢
  rw [List.length_reverse] at h
  have h1 : (sl 8 v).reverse.head? = (sl 8 v).getLast? := by simp
  have h2 : (sl 8 v).reverse.getD 0 0 = (sl 8 v).getLast?.getD 0 := by
    rw [← h1]
    cases (sl 8 v).reverse <;> rfl
  rw [h2]
  cases hg : (sl 8 v).getLast? with
  | none => simp at hg; rw [hg] at h; simp at h
  | some x => exact sl_last 8 v (by simpa using hv) x hg
theorem be_zero_at (v i : Nat) (h : i < 8 - (sig v).length) : (be 8 v).getD i 0 = 0 := by
  rw [be_sig, List.getD_eq_getElem?_getD, List.getElem?_append_left (by simpa using h)]
  simp [h]
theorem be_sig_at (v : Nat) (hv : v < 18446744073709551616) (h : 0 < (sig v).length) : (be 8 v).getD (8 - (sig v).length) 0 ≠ 0 := by
  rw [be_sig, List.getD_eq_getElem?_getD, List.getElem?_append_right (by simp)]
  simpa using sig_head v hv h
theorem be_drop (v : Nat) : (be 8 v).drop (8 - (sig v).length) = sig v := by
  rw [be_sig, List.drop_left' (by simp)]

/-- As the shelf's contracts spell a number's bytes. -/
theorem leCells : ∀ k v, Lib.byteCells (Lib.leBytes k v) = (le k v).map (Value.int .u8)
  | 0, _ => rfl
  | k + 1, v => by
    have h := leCells k (v / 256)
    unfold Lib.byteCells at h ⊢
    simp only [Lib.leBytes, List.map_cons, le, h, Lib.toUInt8_mod]
theorem beCells (k v : Nat) : Lib.byteCells (Lib.beBytes k v) = (be k v).map (Value.int .u8) := by
  have h := leCells k v
  unfold Lib.byteCells at h ⊢
  unfold Lib.beBytes be
  rw [List.map_reverse, h, List.map_reverse]

/-- What bytes spell. -/
theorem leZ_le : ∀ k v, v < 256 ^ k → Lib.leZ (le k v) = v
  | 0, v, h => by simp at h; simp [le, Lib.leZ, h]
  | k + 1, v, h => by
    have hd : v / 256 < 256 ^ k := by rw [Nat.pow_succ] at h; exact Nat.div_lt_of_lt_mul (by rw [Nat.mul_comm]; exact h)
    simp only [le, Lib.leZ, leZ_le k _ hd]
    omega
theorem leZ_append_zero : ∀ (l : List Int) (k : Nat), Lib.leZ (l ++ List.replicate k 0) = Lib.leZ l
  | [], 0 => rfl
  | [], k + 1 => by
    have := leZ_append_zero [] k
    simp only [List.nil_append] at this
    simp only [List.replicate_succ, List.nil_append, Lib.leZ, this]
    rfl
  | x :: l, k => by simp only [List.cons_append, Lib.leZ, leZ_append_zero l k]
theorem leZ_snoc : ∀ (l : List Int) (x : Int), Lib.leZ (l ++ [x]) = Lib.leZ l + x * (256 : Int) ^ l.length
  | [], x => by simp [Lib.leZ]
  | y :: l, x => by
    simp only [List.cons_append, Lib.leZ, leZ_snoc l x, List.length_cons, Int.pow_succ]
    rw [Int.mul_add, Int.add_assoc]
    congr 1
    congr 1
    rw [← Int.mul_assoc, ← Int.mul_assoc, Int.mul_comm 256 x, Int.mul_assoc, Int.mul_assoc, Int.mul_comm 256]
theorem beFromZ_leZ : ∀ (l : List Int) (a : Int), Lib.beFromZ a l = a * (256 : Int) ^ l.length + Lib.leZ l.reverse
  | [], a => by simp [Lib.beFromZ, Lib.leZ]
  | x :: l, a => by
    simp only [Lib.beFromZ, beFromZ_leZ l, List.reverse_cons, leZ_snoc, List.length_reverse, List.length_cons, Int.pow_succ]
    rw [Int.add_mul, Int.mul_assoc, Int.mul_comm 256]
    omega
theorem beZ_leZ (l : List Int) : Lib.beZ l = Lib.leZ l.reverse := by
  unfold Lib.beZ
  rw [beFromZ_leZ]
  omega
theorem beZ_be (k v : Nat) (h : v < 256 ^ k) : Lib.beZ (be k v) = v := by rw [beZ_leZ, be, List.reverse_reverse, leZ_le k v h]
theorem beZ_zero (l : List Int) (k : Nat) : Lib.beZ (List.replicate k 0 ++ l) = Lib.beZ l := by
  rw [beZ_leZ, beZ_leZ, List.reverse_append, List.reverse_replicate, leZ_append_zero]
theorem beZ_sig (v : Nat) (h : v < 18446744073709551616) : Lib.beZ (sig v) = v := by
  rw [← beZ_zero (sig v) (8 - (sig v).length), ← be_sig]
  exact beZ_be 8 v (by simpa using h)
theorem leZ_range : ∀ (l : List Int), (∀ x ∈ l, 0 ≤ x ∧ x < 256) → 0 ≤ Lib.leZ l ∧ Lib.leZ l < (256 : Int) ^ l.length
  | [], _ => by simp [Lib.leZ]
  | x :: l, h => by
    have h1 := h x (by simp)
    have h2 := leZ_range l (fun y hy => h y (by simp [hy]))
    simp only [Lib.leZ, List.length_cons, Int.pow_succ]
    omega
theorem beZ_range (l : List Int) (h : ∀ x ∈ l, 0 ≤ x ∧ x < 256) : 0 ≤ Lib.beZ l ∧ Lib.beZ l < (256 : Int) ^ l.length := by
  have := leZ_range l.reverse (fun x hx => h x (by simpa using hx))
  rw [beZ_leZ]
  simpa using this

/-- What a reader of numbers gives: an int64. -/
def w64 (x : Int) : Int := RowKit.wrap64 x
def valB (big : Bool) (l : List Int) : Int := if big then Lib.beZ l else Lib.leZ l
theorem valB_plain (k : Nat) (big : Bool) (v : Nat) (h : v < 256 ^ k) : valB big (plain k big v) = v := by
  unfold valB plain
  cases big
  · exact leZ_le k v h
  · exact beZ_be k v h

/-- A compressed number is read. -/
def RdPacked (l : List Int) (n : Int) (r : List Int) : Prop := ∃ b t, l = b :: t ∧ (b % 128).toNat ≤ 8 ∧ (b % 128).toNat ≤ t.length ∧ r = t.drop (b % 128).toNat ∧
  n = if 128 ≤ b then w64 (-(w64 (Lib.beZ (t.take (b % 128).toNat)))) else w64 (Lib.beZ (t.take (b % 128).toNat))
/-- The head of a CLR's part. -/
def RdHead (big : Bool) (l : List Int) (k : Nat) (r : List Int) : Prop := if big then RdPacked l k r ∧ k ≤ 1073741824 else ∃ b, 0 ≤ b ∧ l = b :: r ∧ k = b.toNat
/-- The parts of a CLR. -/
inductive Parts (big : Bool) : List Int → List Int → List Int → Prop
  | done {l r : List Int} (h : RdHead big l 0 r) : Parts big l [] r
  | part {l r out rest : List Int} {k : Nat} (h : RdHead big l k r) (h0 : 0 < k) (hk : k ≤ r.length) (t : Parts big (r.drop k) out rest) : Parts big l (r.take k ++ out) rest
def RdClr (big : Bool) (l d r : List Int) : Prop := ∃ b t, l = b :: t ∧
  ((b = 0 ∨ b = 253 ∨ b = 255) ∧ d = [] ∧ r = t ∨ b = 254 ∧ Parts big t d r ∨ (0 < b ∧ b < 253) ∧ b.toNat ≤ t.length ∧ d = t.take b.toNat ∧ r = t.drop b.toNat)
def RdDlc (big : Bool) (l d r : List Int) : Prop := ∃ n t, RdPacked l n t ∧ 0 ≤ n ∧ n ≤ 1073741824 ∧ (n = 0 ∧ d = [] ∧ r = t ∨ 0 < n ∧ ∃ d', RdClr big t d' r ∧ d = d'.take n.toNat)
def RdKv (big : Bool) (l k v : List Int) (n : Int) (r : List Int) : Prop := ∃ t u, RdDlc big l k t ∧ RdDlc big t v u ∧ RdPacked u n r
def RdFixed (l d r : List Int) : Prop := ∃ b t, l = b :: t ∧
  ((b = 0 ∨ b = 253 ∨ b = 255) ∧ d = [] ∧ r = t ∨ b = 254 ∧ 4 ≤ t.length ∧ (Lib.beZ (t.take 4)).toNat ≤ (t.drop 4).length ∧ d = (t.drop 4).take (Lib.beZ (t.take 4)).toNat ∧ r = (t.drop 4).drop (Lib.beZ (t.take 4)).toNat ∨
    (0 < b ∧ b < 253) ∧ b.toNat ≤ t.length ∧ d = t.take b.toNat ∧ r = t.drop b.toNat)
/-- A number is read. -/
def RdInt (size : Nat) (comp big : Bool) (l : List Int) (n : Int) (r : List Int) : Prop := if comp then RdPacked l n r else size ≤ l.length ∧ r = l.drop size ∧ n = w64 (valB big (l.take size))

/-- How CLRs are written. -/
def headW (big : Bool) (k : Nat) : List Int := if big then packed k else [((k % 256 : Nat) : Int)]
def chunks (big : Bool) (chunk : Nat) : Nat → List Int → List Int
  | 0, _ => []
  | f + 1, d => if d = [] then [] else headW big (min d.length chunk) ++ d.take chunk ++ chunks big chunk f (d.drop chunk)
def clrW (big : Bool) (chunk : Nat) (d : List Int) : List Int := if 252 < d.length then 254 :: (chunks big chunk d.length d ++ [0]) else (d.length : Int) :: d
def dlcW (big : Bool) (chunk : Nat) (d : List Int) : List Int := if d = [] then [0] else packed d.length ++ clrW big chunk d
def kvW (big : Bool) (chunk : Nat) (k v : List Int) (n : Nat) : List Int := dlcW big chunk k ++ dlcW big chunk v ++ packed n
def fixedW (d : List Int) : List Int := if 252 < d.length then 254 :: (be 4 d.length ++ d) else (d.length : Int) :: d
def numW (size : Nat) (big comp : Bool) (v : Nat) : List Int := if comp then packed v else plain size big v

theorem w64_in {x : Int} (h0 : -9223372036854775808 ≤ x) (h1 : x ≤ 9223372036854775807) : w64 x = x := IntWalk.wrap64_in _ (by omega)
theorem rdPacked_mk (v : Nat) (hv : v < 9223372036854775808) (rest : List Int) : RdPacked (packed v ++ rest) v rest := by
  have hl := sig_le v
  have e : (((sig v).length : Int) % 128).toNat = (sig v).length := by omega
  refine ⟨_, _, rfl, by rw [e]; exact hl, by rw [e]; simp, by rw [e]; simp, ?_⟩
  show (v : Int) = if (128 : Int) ≤ ((sig v).length : Int) then w64 (-(w64 (Lib.beZ ((sig v ++ rest).take (((sig v).length : Int) % 128).toNat)))) else w64 (Lib.beZ ((sig v ++ rest).take (((sig v).length : Int) % 128).toNat))
  rw [e, if_neg (by omega), List.take_left' rfl, beZ_sig v (by omega), w64_in (by omega) (by omega)]
theorem rdHead_mk (big : Bool) (k : Nat) (hk : k ≤ 1073741824) (hs : big = false → k < 256) (rest : List Int) : RdHead big (headW big k ++ rest) k rest := by
  unfold RdHead headW
  cases big
  · have := hs rfl
    exact ⟨_, by omega, rfl, by omega⟩
  · exact ⟨rdPacked_mk k (by omega) rest, hk⟩
theorem headW_zero (big : Bool) : headW big 0 = [0] := by cases big <;> rfl
theorem parts_mk (big : Bool) (chunk : Nat) (hc : 0 < chunk) (hc2 : chunk ≤ 1073741824) (hs : big = false → chunk < 256) (rest : List Int) : ∀ (f : Nat) (d : List Int), d.length ≤ f → Parts big (chunks big chunk f d ++ 0 :: rest) d rest
  | 0, d, h => by
    have : d = [] := List.eq_nil_of_length_eq_zero (by omega)
    subst this
    have h := rdHead_mk big 0 (by omega) (by omega) rest
    rw [headW_zero] at h
    exact .done h
  | f + 1, d, h => by
    unfold chunks
    split
    · next hd =>
      subst hd
      have h := rdHead_mk big 0 (by omega) (by omega) rest
      rw [headW_zero] at h
      exact .done h
    · next hd =>
      have hd0 : 0 < d.length := List.length_pos_iff.2 hd
      have h1 := rdHead_mk big (min d.length chunk) (by omega) (fun hb => by have := hs hb; omega) (d.take chunk ++ (chunks big chunk f (d.drop chunk) ++ 0 :: rest))
      have h2 := parts_mk big chunk hc hc2 hs rest f (d.drop chunk) (by rw [List.length_drop]; omega)
      have hl : (d.take chunk).length = min d.length chunk := by rw [List.length_take]; omega
      have h3 := Parts.part (big := big) h1 (by omega) (by simp; omega) (out := d.drop chunk) (rest := rest) (by rw [List.drop_left' hl]; exact h2)
      rw [List.take_left' hl, List.take_append_drop] at h3
      rw [List.append_assoc, List.append_assoc]
      exact h3
theorem rdClr_mk (big : Bool) (chunk : Nat) (hc : 0 < chunk) (hc2 : chunk ≤ 1073741824) (hs : big = false → chunk < 256) (d rest : List Int) : RdClr big (clrW big chunk d ++ rest) d rest := by
  unfold clrW
  split
  · refine ⟨_, _, rfl, .inr (.inl ⟨rfl, ?_⟩)⟩
    have := parts_mk big chunk hc hc2 hs rest d.length d (Nat.le_refl _)
    show Parts big ((chunks big chunk d.length d ++ [0]) ++ rest) d rest
    rw [List.append_assoc]
    exact this
  · next h =>
    refine ⟨_, _, rfl, ?_⟩
    by_cases h0 : d = []
    · subst h0
      exact .inl ⟨.inl rfl, rfl, rfl⟩
    · have hp : 0 < d.length := List.length_pos_iff.2 h0
      exact .inr (.inr ⟨⟨by omega, by omega⟩, by simp, by simp, by simp⟩)
theorem rdDlc_mk (big : Bool) (chunk : Nat) (hc : 0 < chunk) (hc2 : chunk ≤ 1073741824) (hs : big = false → chunk < 256) (d rest : List Int) (hd : d.length ≤ 1073741824) : RdDlc big (dlcW big chunk d ++ rest) d rest := by
  unfold dlcW
  split
  · next h =>
    subst h
    have h := rdPacked_mk 0 (by omega) rest
    exact ⟨0, rest, h, by omega, by omega, .inl ⟨rfl, rfl, rfl⟩⟩
  · next h =>
    have hp : 0 < d.length := List.length_pos_iff.2 h
    have h1 := rdPacked_mk d.length (by omega) (clrW big chunk d ++ rest)
    rw [← List.append_assoc] at h1
    exact ⟨_, _, h1, by omega, by omega, .inr ⟨by omega, d, rdClr_mk big chunk hc hc2 hs d rest, by simp⟩⟩
theorem rdKv_mk (big : Bool) (chunk : Nat) (hc : 0 < chunk) (hc2 : chunk ≤ 1073741824) (hs : big = false → chunk < 256) (k v rest : List Int) (n : Nat) (hn : n < 9223372036854775808) (hk : k.length ≤ 1073741824) (hv : v.length ≤ 1073741824) : RdKv big (kvW big chunk k v n ++ rest) k v n rest := by
  unfold kvW
  rw [List.append_assoc, List.append_assoc]
  exact ⟨_, _, rdDlc_mk big chunk hc hc2 hs k _ hk, rdDlc_mk big chunk hc hc2 hs v _ hv, rdPacked_mk n hn rest⟩
theorem rdFixed_mk (d rest : List Int) (hd : d.length < 4294967296) : RdFixed (fixedW d ++ rest) d rest := by
  unfold fixedW
  split
  · have e : Lib.beZ (((be 4 d.length ++ d) ++ rest).take 4) = (d.length : Int) := by
      rw [List.append_assoc, List.take_left' (be_length 4 _), beZ_be 4 _ (by simpa using hd)]
    have e2 : ((be 4 d.length ++ d) ++ rest).drop 4 = d ++ rest := by rw [List.append_assoc, List.drop_left' (be_length 4 _)]
    refine ⟨_, _, rfl, .inr (.inl ⟨rfl, by simp [be_length], ?_⟩)⟩
    show (Lib.beZ (((be 4 d.length ++ d) ++ rest).take 4)).toNat ≤ (((be 4 d.length ++ d) ++ rest).drop 4).length ∧ d = (((be 4 d.length ++ d) ++ rest).drop 4).take (Lib.beZ (((be 4 d.length ++ d) ++ rest).take 4)).toNat ∧ rest = (((be 4 d.length ++ d) ++ rest).drop 4).drop (Lib.beZ (((be 4 d.length ++ d) ++ rest).take 4)).toNat
    rw [e, e2]
    exact ⟨by simp, by simp, by simp⟩
  · next h =>
    refine ⟨_, _, rfl, ?_⟩
    by_cases h0 : d = []
    · subst h0
      exact .inl ⟨.inl rfl, rfl, rfl⟩
    · have hp : 0 < d.length := List.length_pos_iff.2 h0
      exact .inr (.inr ⟨⟨by omega, by omega⟩, by simp, by simp, by simp⟩)
theorem rdInt_mk (size : Nat) (comp big : Bool) (v : Nat) (hv : v < 9223372036854775808) (hs : v < 256 ^ size) (rest : List Int) : RdInt size comp big (numW size big comp v ++ rest) v rest := by
  unfold RdInt numW
  cases comp
  · refine ⟨by simp [plain_length], by simp [List.drop_left' (plain_length _ _ _)], ?_⟩
    simp only [Bool.false_eq_true, if_false, List.take_left' (plain_length _ _ _), valB_plain size big v hs, w64_in (show (-9223372036854775808 : Int) ≤ v by omega) (show (v : Int) ≤ 9223372036854775807 by omega)]
  · exact rdPacked_mk v hv rest
end Go.Proofs.YtacmnibhdmeidaaDoor
