/-
  Plain laws for FnUrlValue.
-/
import Derived.Test.YtcdbnjhkjfimkaaDoorUrl14
namespace Go.Proofs.YtcdbnjhkjfimkaaDoor
open Go Go.RowKit

theorem trimL_behind : ∀ x : List UInt8, (trimL (x ++ [32]) = [] ∧ trimL x = []) ∨ trimL (x ++ [32]) = trimL x ++ [32]
  | [] => .inl ⟨rfl, rfl⟩
  | c :: x => by
    by_cases h : c = 32
    · subst h
      rw [List.cons_append, trimL_blank, trimL_blank]
      exact trimL_behind x
    · exact .inr (by rw [List.cons_append, trimL_other c _ h, trimL_other c _ h]; rfl)
theorem trimB_behind (x : List UInt8) : trimB (x ++ [32]) = trimB x := by
  rcases trimL_behind x with ⟨h1, h2⟩ | h
  · rw [trimB, trimB, h1, h2]
  · rw [trimB, trimB, h, trimR_blank]
theorem trimB_ahead (x : List UInt8) : trimB (32 :: x) = trimB x := by rw [trimB, trimL_blank, ← trimB]
theorem parts_ahead (l : List UInt8) : (splitC (32 :: l)).map trimB = (splitC l).map trimB := by
  rw [splitC, if_neg (by decide)]
  cases h : splitC l with
  | nil => exact absurd h (splitC_ne l)
  | cons x t => simp only [List.map_cons, trimB_ahead]
theorem splitC_behind (c : UInt8) (hc : ¬ c = 44) : ∀ l : List UInt8, ∃ A x, splitC l = A ++ [x] ∧ splitC (l ++ [c]) = A ++ [x ++ [c]]
  | [] => ⟨[], [], rfl, by rw [List.nil_append, splitC, if_neg hc]; rfl⟩
  | d :: l => by
    obtain ⟨A, x, h1, h2⟩ := splitC_behind c hc l
    by_cases hd : d = 44
    · exact ⟨[] :: A, x, by rw [splitC, if_pos hd, h1]; rfl, by rw [List.cons_append, splitC, if_pos hd, h2]; rfl⟩
    · cases A with
      | nil => exact ⟨[], d :: x, by rw [splitC, if_neg hd, h1]; rfl, by rw [List.cons_append, splitC, if_neg hd, h2]; rfl⟩
      | cons a A => exact ⟨(d :: a) :: A, x, by rw [splitC, if_neg hd, h1]; rfl, by rw [List.cons_append, splitC, if_neg hd, h2]; rfl⟩
theorem parts_behind (l : List UInt8) : (splitC (l ++ [32])).map trimB = (splitC l).map trimB := by
  obtain ⟨A, x, h1, h2⟩ := splitC_behind 32 (by decide) l
  rw [h1, h2, List.map_append, List.map_append, List.map_cons, List.map_cons, trimB_behind]
theorem parts_trimL : ∀ l : List UInt8, (splitC (trimL l)).map trimB = (splitC l).map trimB
  | [] => rfl
  | c :: l => by
    by_cases h : c = 32
    · subst h; rw [trimL_blank, parts_trimL l, parts_ahead]
    · rw [trimL_other c l h]
theorem parts_trimR : ∀ m : List UInt8, (splitC (trimL m).reverse).map trimB = (splitC m.reverse).map trimB
  | [] => rfl
  | c :: m => by
    by_cases h : c = 32
    · subst h; rw [trimL_blank, parts_trimR m, List.reverse_cons, parts_behind]
    · rw [trimL_other c m h]
/-- The blanks around a list of parts are those around its outer parts. -/
theorem parts_trim (l : List UInt8) : (splitC (trimB l)).map trimB = (splitC l).map trimB := by
  have h := parts_trimR (trimL l).reverse
  rw [List.reverse_reverse, parts_trimL] at h
  exact h
/-- What stands ahead of a sign, and behind it. -/
def cutA (c : UInt8) (l : List UInt8) : List UInt8 := l.takeWhile (· != c)
def cutR (c : UInt8) (l : List UInt8) : List UInt8 := (l.dropWhile (· != c)).drop 1
theorem cut_none (c : UInt8) : ∀ l : List UInt8, c ∉ l → cutA c l = l ∧ cutR c l = []
  | [], _ => ⟨rfl, rfl⟩
  | d :: l, h => by
    have h1 : (d != c) = true := by simp; exact fun e => h (by rw [e]; exact List.mem_cons_self)
    obtain ⟨a, b⟩ := cut_none c l (fun e => h (List.mem_cons_of_mem _ e))
    exact ⟨by rw [cutA, List.takeWhile_cons, h1]; simp only [if_true]; rw [← cutA, a], by rw [cutR, List.dropWhile_cons, h1]; simp only [if_true]; rw [← cutR, b]⟩
theorem cut_at (c : UInt8) (m : List UInt8) : ∀ l : List UInt8, c ∉ l → cutA c (l ++ c :: m) = l ∧ cutR c (l ++ c :: m) = m
  | [], _ => by
    have h1 : (c != c) = false := by simp
    exact ⟨by rw [List.nil_append, cutA, List.takeWhile_cons, h1]; rfl, by rw [List.nil_append, cutR, List.dropWhile_cons, h1]; rfl⟩
  | d :: l, h => by
    have h1 : (d != c) = true := by simp; exact fun e => h (by rw [e]; exact List.mem_cons_self)
    obtain ⟨a, b⟩ := cut_at c m l (fun e => h (List.mem_cons_of_mem _ e))
    exact ⟨by rw [List.cons_append, cutA, List.takeWhile_cons, h1]; simp only [if_true]; rw [← cutA, a], by rw [List.cons_append, cutR, List.dropWhile_cons, h1]; simp only [if_true]; rw [← cutR, b]⟩
theorem cut_amp (x : List UInt8) (hx : (38 : UInt8) ∉ x) (L : List (List UInt8)) : cutA 38 (ampL (x :: L)) = x ∧ cutR 38 (ampL (x :: L)) = ampL L := by
  cases L with
  | nil => rw [ampL]; exact cut_none 38 x hx
  | cons y t =>
    rw [ampL, List.append_assoc]
    exact cut_at 38 _ x hx
theorem esc_mem (l : List UInt8) (h : (38 : UInt8) ∈ escL true l) : False := esc_amp l 38 h rfl
theorem opt_amp (nm q : List UInt8) (hn : ∀ c ∈ nm, alnumB c = true) : (38 : UInt8) ∉ optL nm q := fun h => by
  rw [optL] at h
  rcases List.mem_append.1 h with h | h
  · rcases List.mem_append.1 h with h | h
    · exact absurd (hn _ h) (by decide)
    · exact absurd (List.mem_singleton.1 h) (by decide)
  · exact esc_amp (trimB q) 38 h rfl
theorem opt_cut (nm q : List UInt8) (hn : ∀ c ∈ nm, alnumB c = true) : cutA 61 (optL nm q) = nm ∧ cutR 61 (optL nm q) = (escS true ⟨(trimB q).toArray⟩).data.toList := by
  have h : (61 : UInt8) ∉ nm := fun h => absurd (hn _ h) (by decide)
  rw [optL, List.append_assoc]
  exact cut_at 61 _ nm h
end Go.Proofs.YtcdbnjhkjfimkaaDoor
