/-
  The text of a number: its parts, and the row in which it is built.
-/
import Derived.Test.YtcdbnjhkjfimkaaDoorNum12
import Derived.Test.YtcdbnjhkjfimkaaDoorNum11
namespace Go.Proofs.YtcdbnjhkjfimkaaDoor
open Go Go.RowKit

/-- The bytes of a number of these pairs (each 0 to 99). -/
def numB (neg : Bool) (P : Int) (pv : List Int) : List Int := (if neg then 62 - P else 193 + P) :: (pv.map (enc neg) ++ if neg = true ∧ pv.length < 20 then [102] else [])
theorem numB_at (neg : Bool) (P : Int) (pv : List Int) (j : Nat) (h : j < pv.length) : (numB neg P pv).getD (1 + j) 0 = enc neg (pv.getD j 0) := by
  unfold numB
  rw [Nat.add_comm 1 j, List.getD_cons_succ, List.getD_eq_getElem?_getD, List.getElem?_append_left (by simpa using h), List.getElem?_map, List.getD_eq_getElem?_getD, List.getElem?_eq_getElem h]
  rfl
theorem numB_pos (P : Int) (pv : List Int) : (numB false P pv).length = 1 + pv.length := by simp [numB]; omega
theorem numB_neg (P : Int) (pv : List Int) (h : pv.length < 20) : (numB true P pv).length = 2 + pv.length := by simp [numB, h]; omega
theorem numB_full (P : Int) (pv : List Int) (h : ¬ pv.length < 20) : (numB true P pv).length = 1 + pv.length := by simp [numB, h]; omega
theorem numB_last (P : Int) (pv : List Int) (h : pv.length < 20) : (numB true P pv).getD (1 + pv.length) 0 = 102 := by
  unfold numB
  rw [Nat.add_comm 1, List.getD_cons_succ, List.getD_eq_getElem?_getD, List.getElem?_append_right (by simp)]
  simp [h]
/-- A pair in two letters. -/
def two (p : Int) : List Int := [48 + p / 10, 48 + p % 10]
def twoL (l : List Int) : List Int := l.flatMap two
/-- The first pair: one letter, where one does. -/
def oneL (p : Int) : List Int := if p < 10 then [48 + p] else two p
theorem twoL_snoc (l : List Int) (p : Int) : twoL (l ++ [p]) = twoL l ++ two p := by simp [twoL]
theorem twoL_len : ∀ l : List Int, (twoL l).length = 2 * l.length
  | [] => rfl
  | p :: l => by
    have := twoL_len l
    unfold twoL at this ⊢
    rw [List.flatMap_cons, List.length_append, this, List.length_cons]
    simp [two]
    omega
/-- What is written, and the room behind it. -/
def fillL (A : List Int) (r : Nat) : List Int := A ++ List.replicate r 0
theorem fill_len (A : List Int) (r : Nat) : (fillL A r).length = A.length + r := by simp [fillL]
theorem fill_set (A : List Int) (r : Nat) (v : Int) : (fillL A (r + 1)).set A.length v = fillL (A ++ [v]) r := by
  unfold fillL
  rw [List.set_append_right _ _ (Nat.le_refl _), Nat.sub_self, List.replicate_succ, List.set_cons_zero]
  simp
theorem fill_take (A : List Int) (r : Nat) : (fillL A r).take A.length = A := by simp [fillL]
abbrev RowAt (w : World) (base g n cap : Nat) (xs : List Int) : Prop := w.ownsRow base 5 1 (.slice (some ⟨g, 0, none⟩) n cap) n (xs.map (Value.int .u8))
/-- A byte more. -/
theorem fill_put {w : World} {base g n cap : Nat} {A : List Int} {r : Nat} (h : RowAt w base g n cap (fillL A (r + 1))) (v : Int) (k : Nat) (hk : k = A.length) :
    RowAt (w.setCell ⟨g, k, none⟩ (.int .u8 v)) base g n cap (fillL (A ++ [v]) r) ∧ w.grownBy (w.setCell ⟨g, k, none⟩ (.int .u8 v)) (some g) := by
  subst hk
  obtain ⟨a, b⟩ := own_store h A.length v
  rw [fill_set] at a
  exact ⟨a, b⟩
theorem fill_n {w : World} {base g n cap : Nat} {xs : List Int} (h : RowAt w base g n cap xs) : xs.length = n := by simpa using h.1
theorem grown_kp {w a b : World} {base g n cap : Nat} {xs : List Int} (h : RowAt a base g n cap xs) (hg : a.grownBy b (some g)) (hk : Kp w a) (hb : w.heap.size ≤ base) : Kp w b :=
  hk.grown hg (fun k e => by injection e with e; have := own_lt h; omega)
def PutPost (w : World) (base g n cap : Nat) (A : List Int) (r : Nat) (v : Value) (e : Ending) (w' : World) : Prop := e = .returned v ∧ RowAt w' base g n cap (fillL A r) ∧ w.grownBy w' (some g)
set_option maxRecDepth 100000 in
set_option maxHeartbeats 2000000 in
theorem two_any (base g n cap r : Nat) (A : List Int) (p : Int) (w : World) (h : RowAt w base g n cap (fillL A (r + 2))) (p0 : 0 ≤ p) (p1 : p ≤ 99) (hA : A.length ≤ 1000) :
    Calls Tryd.prog 187 #[.int .u8 p, .slice (some ⟨g, 0, none⟩) n cap, .int .i64 (A.length : Int)] w (PutPost w base g n cap (A ++ two p) r (.tuple #[])) := by
  have hn := fill_n h
  rw [fill_len] at hn
  obtain ⟨q, hq⟩ : ∃ q, q = A.length := ⟨_, rfl⟩
  rw [← hq] at hn hA ⊢
  have c0 := own_cell h q (by omega)
  have c1 := own_cell h (q + 1) (by omega)
  have f0 := h.frozenAt q
  have f1 := h.frozenAt (q + 1)
  generalize (fillL A (r + 2)).getD q 0 = z0 at c0
  generalize (fillL A (r + 2)).getD (q + 1) 0 = z1 at c1
  have HR := Lib.hid (fun a b (hab : two p = [a, b]) => (show RowAt ((w.setCell ⟨g, q, none⟩ (.int .u8 a)).setCell ⟨g, q + 1, none⟩ (.int .u8 b)) base g n cap (fillL (A ++ two p) r) ∧ w.grownBy ((w.setCell ⟨g, q, none⟩ (.int .u8 a)).setCell ⟨g, q + 1, none⟩ (.int .u8 b)) (some g) from by
    obtain ⟨h1, g1⟩ := fill_put h a q hq
    obtain ⟨h2, g2⟩ := fill_put h1 b (q + 1) (by rw [List.length_append, hq]; rfl)
    rw [hab]
    exact ⟨by simpa using h2, grown_trans g1 g2⟩))
  have i0 : (q : Int) + 2 ≤ (n : Int) := by omega
  have i1 : (q : Int) ≤ 1000 := by omega
  have i2 : (0 : Int) ≤ (q : Int) := by omega
  have i3 : ((q : Int) + 1).toNat = q + 1 := by omega
  clear h hn hq hA
  by_cases hp : p < 10
  · have HT := Lib.hid (show two p = [48, 48 + p] from by unfold two; rw [show p / 10 = 0 by omega, show p % 10 = p by omega]; rfl)
    go_enter Tryd.func187, Tryd.ntmps187
    go_wp2
    obtain ⟨h1, h2⟩ := HR.out _ _ HT.out
    exact bodyPost_ret (results_none rfl _ _ _) rfl ⟨rfl, h1, h2⟩
  · have HT := Lib.hid (show two p = [48 + p / 10, 48 + p % 10] from rfl)
    have d0 : 0 ≤ p / 10 := by omega
    have d1 : p / 10 ≤ 9 := by omega
    have d2 : 0 ≤ p % 10 := by omega
    have d3 : p % 10 ≤ 9 := by omega
    go_enter Tryd.func187, Tryd.ntmps187
    go_wp2
    obtain ⟨h1, h2⟩ := HR.out _ _ HT.out
    exact bodyPost_ret (results_none rfl _ _ _) rfl ⟨rfl, h1, h2⟩
set_option maxRecDepth 100000 in
set_option maxHeartbeats 2000000 in
theorem one_any (base g n cap r : Nat) (A : List Int) (p : Int) (w : World) (h : RowAt w base g n cap (fillL A (r + (oneL p).length))) (p0 : 0 ≤ p) (p1 : p ≤ 99) (hA : A.length ≤ 1000) :
    Calls Tryd.prog 186 #[.int .u8 p, .slice (some ⟨g, 0, none⟩) n cap, .int .i64 (A.length : Int)] w (PutPost w base g n cap (A ++ oneL p) r (.int .i64 ((oneL p).length : Int))) := by
  have hn := fill_n h
  rw [fill_len] at hn
  obtain ⟨q, hq⟩ : ∃ q, q = A.length := ⟨_, rfl⟩
  rw [← hq] at hn hA ⊢
  have i1 : (q : Int) ≤ 1000 := by omega
  have i2 : (0 : Int) ≤ (q : Int) := by omega
  have i3 : ((q : Int) + 1).toNat = q + 1 := by omega
  by_cases hp : p < 10
  · have hl : oneL p = [48 + p] := by unfold oneL; rw [if_pos hp]
    rw [hl] at h hn ⊢
    simp only [List.length_cons, List.length_nil, Nat.zero_add] at h hn ⊢
    have c0 := own_cell h q (by omega)
    have f0 := h.frozenAt q
    generalize (fillL A (r + 1)).getD q 0 = z0 at c0
    obtain ⟨h1, g1⟩ := fill_put h (48 + p) q hq
    have HR := Lib.hid (And.intro h1 g1)
    have i0 : (q : Int) + 1 ≤ (n : Int) := by omega
    clear h hn hq hA h1 g1 hl
    go_enter Tryd.func186, Tryd.ntmps186
    go_wp2
    go_ret
    exact ⟨rfl, HR.out.1, HR.out.2⟩
  · have hl : oneL p = [48 + p / 10, 48 + p % 10] := by unfold oneL; rw [if_neg hp]; rfl
    rw [hl] at h hn ⊢
    simp only [List.length_cons, List.length_nil, Nat.zero_add] at h hn ⊢
    have c0 := own_cell h q (by omega)
    have c1 := own_cell h (q + 1) (by omega)
    have f0 := h.frozenAt q
    have f1 := h.frozenAt (q + 1)
    generalize (fillL A (r + 2)).getD q 0 = z0 at c0
    generalize (fillL A (r + 2)).getD (q + 1) 0 = z1 at c1
    obtain ⟨h1, g1⟩ := fill_put h (48 + p / 10) q hq
    obtain ⟨h2, g2⟩ := fill_put h1 (48 + p % 10) (q + 1) (by rw [List.length_append, hq]; rfl)
    rw [List.append_assoc] at h2
    have HR := Lib.hid (And.intro h2 (grown_trans g1 g2))
    have i0 : (q : Int) + 2 ≤ (n : Int) := by omega
    have d0 : 0 ≤ p / 10 := by omega
    have d1 : p / 10 ≤ 9 := by omega
    have d2 : 0 ≤ p % 10 := by omega
    have d3 : p % 10 ≤ 9 := by omega
    clear h hn hq hA h1 g1 h2 g2 hl
    go_enter Tryd.func186, Tryd.ntmps186
    go_wp2
    go_ret
    exact ⟨rfl, HR.out.1, HR.out.2⟩
end Go.Proofs.YtcdbnjhkjfimkaaDoor
