/-
  The form of a number: what ToNumber makes of decimal digits, a sign and an exponent.
-/
import Derived.Test.YtcdbnjhkjfimkaaDoorGen
import Derived.Test.YtcdbnjhkjfimkaaDoorApp
namespace Go.Proofs.YtcdbnjhkjfimkaaDoor
open Go Go.RowKit

/-- Digits in letters, two by two. -/
def prs : List Int → List Int
  | [] => []
  | [a] => [10 * (a - 48)]
  | a :: b :: r => (10 * (a - 48) + (b - 48)) :: prs r
theorem prs_length : ∀ l : List Int, (prs l).length = (l.length + 1) / 2
  | [] => rfl
  | [_] => by simp [prs]
  | _ :: _ :: r => by
    simp only [prs, List.length_cons, prs_length r]
    omega
def IsDigit (x : Int) : Prop := 48 ≤ x ∧ x ≤ 57
theorem prs_at : ∀ (l : List Int) (j : Nat), 2 * j < l.length → (prs l).getD j 0 = 10 * (l.getD (2 * j) 0 - 48) + (if 2 * j + 1 < l.length then l.getD (2 * j + 1) 0 - 48 else 0)
  | [], _, h => by simp at h
  | [a], j, h => by
    obtain rfl : j = 0 := by simp at h; omega
    simp [prs]
  | a :: b :: r, 0, _ => by simp [prs]
  | a :: b :: r, j + 1, h => by
    have ih := prs_at r j (by simp at h; omega)
    have e : 2 * (j + 1) = 2 * j + 1 + 1 := by omega
    simp only [prs, List.getD_cons_succ, e, List.length_cons]
    rw [ih]
    simp
theorem prs_mem : ∀ l : List Int, (∀ x ∈ l, IsDigit x) → ∀ x ∈ prs l, 0 ≤ x ∧ x ≤ 99
  | [], _, x, hx => by simp [prs] at hx
  | [a], h, x, hx => by
    have := h a (by simp)
    unfold IsDigit at this
    simp [prs] at hx
    omega
  | a :: b :: r, h, x, hx => by
    have h1 := h a (by simp)
    have h2 := h b (by simp)
    unfold IsDigit at h1 h2
    simp only [prs, List.mem_cons] at hx
    rcases hx with rfl | hx
    · omega
    · exact prs_mem r (fun y hy => h y (by simp [hy])) x hx

/-- A pair as it is written. -/
def enc (neg : Bool) (x : Int) : Int := if neg then 101 - x else x + 1
/-- The bytes behind the first one. -/
def tailL (neg : Bool) (l : List Int) : List Int := (prs l).map (enc neg) ++ if neg then [102] else []
/-- The digits as ToNumber takes them: with a nought ahead, if the exponent is even. -/
def evenL (e : Int) (l : List Int) : List Int := if e % 2 = 0 then 48 :: l else l
def headB (neg : Bool) (e : Int) : Int := if neg then 127 - (e / 2 + 1 + 64) else e / 2 + 1 + 64 + 128
def numL (l : List Int) (neg : Bool) (e : Int) : List Int := headB neg e :: tailL neg (evenL e l)

theorem setAll_snoc {α : Type} : ∀ (vs : List α) (xs : List α) (o : Nat) (v : α), setAll xs o (vs ++ [v]) = (setAll xs o vs).set (o + vs.length) v
  | [], xs, o, v => by simp [setAll]
  | u :: us, xs, o, v => by
    rw [List.cons_append, setAll, setAll, setAll_snoc us]
    simp only [List.length_cons]
    rw [show o + 1 + us.length = o + (us.length + 1) by omega]
theorem setAll_one : ∀ (vs : List Int) (a : Int) (k : Nat), setAll (a :: List.replicate (vs.length + k) 0) 1 vs = a :: vs ++ List.replicate k 0
  | vs, a, k => by
    have key : ∀ (vs pre : List Int), setAll (pre ++ List.replicate (vs.length + k) 0) pre.length vs = pre ++ vs ++ List.replicate k 0 := by
      intro vs
      induction vs with
      | nil => intro pre; simp [setAll]
      | cons v vs ih =>
        intro pre
        have h := ih (pre ++ [v])
        rw [setAll]
        have e : (pre ++ List.replicate ((v :: vs).length + k) 0).set pre.length v = (pre ++ [v]) ++ List.replicate (vs.length + k) (0 : Int) := by
          rw [List.set_append_right _ _ (Nat.le_refl _)]
          simp only [Nat.sub_self, List.length_cons]
          rw [show vs.length + 1 + k = (vs.length + k) + 1 by omega, List.replicate_succ]
          simp
        rw [e]
        simp only [List.length_append, List.length_cons, List.length_nil] at h
        rw [h]
        simp
    simpa using key vs [a]

/-- What stands in the row behind the loop, and what is made of it. -/
theorem num_close (neg : Bool) (l : List Int) (hd : Int) : 
    ((if neg then (setAll (List.replicate (1 + (l.length + 1) / 2 + if neg then 1 else 0) (0 : Int)) 1 ((prs l).map (enc neg))).set (1 + (l.length + 1) / 2) 102 else setAll (List.replicate (1 + (l.length + 1) / 2 + if neg then 1 else 0) (0 : Int)) 1 ((prs l).map (enc neg))).set 0 hd) = hd :: tailL neg l := by
  have hl : ((prs l).map (enc neg)).length = (l.length + 1) / 2 := by simp [prs_length]
  unfold tailL
  generalize (prs l).map (enc neg) = vs at *
  rw [← hl]
  cases neg
  · have h := setAll_one vs 0 0
    rw [Nat.add_zero, ← List.replicate_succ] at h
    simp only [Bool.false_eq_true, if_false, Nat.add_zero]
    rw [Nat.add_comm 1, h]
    simp
  · have h := setAll_one vs 0 1
    rw [← List.replicate_succ] at h
    simp only [if_true]
    rw [show 1 + vs.length + 1 = vs.length + 1 + 1 by omega, h, Nat.add_comm 1]
    have e : (0 :: vs ++ List.replicate 1 (0 : Int)).set (vs.length + 1) 102 = 0 :: vs ++ [102] := by
      rw [show (0 :: vs ++ List.replicate 1 (0 : Int)) = 0 :: (vs ++ [0]) by simp, List.set_cons_succ, List.set_append_right _ _ (Nat.le_refl _)]
      simp
    rw [e]
    simp
end Go.Proofs.YtcdbnjhkjfimkaaDoor
