/-
  Plain laws for FnUrlJdbc.
-/
import Derived.Test.YtcdbnjhkjfimkaaDoorUrl13
namespace Go.Proofs.YtcdbnjhkjfimkaaDoor
open Go Go.RowKit

theorem splitC_one : ∀ l : List UInt8, (splitC l).length = 1 → (44 : UInt8) ∉ l
  | [], _ => by simp
  | c :: l, h => by
    rw [splitC] at h
    split at h
    · have := splitC_ne l
      rw [List.length_cons] at h
      exact absurd (List.length_eq_zero_iff.1 (by omega)) this
    · rename_i hc
      have h2 : (splitC l).length = 1 := by
        split at h
        · rename_i e; exact absurd e (splitC_ne l)
        · rename_i x t e; rw [e]; simpa using h
      intro hm
      rcases List.mem_cons.1 hm with e | e
      · exact hc e.symm
      · exact splitC_one l h2 e
theorem trimL_head (l : List UInt8) : trimL l = [] ∨ ∃ c m, trimL l = c :: m ∧ c ≠ 32 := by
  induction l with
  | nil => exact .inl rfl
  | cons c l ih =>
    by_cases h : c = 32
    · subst h; rw [trimL_blank]; exact ih
    · exact .inr ⟨c, l, trimL_other c l h, h⟩
theorem trimL_idem (l : List UInt8) : trimL (trimL l) = trimL l := by
  rcases trimL_head l with h | ⟨c, m, h, hc⟩
  · rw [h]; rfl
  · rw [h, trimL_other c m hc]
theorem trimR_idem (l : List UInt8) : trimR (trimR l) = trimR l := by
  simp [trimR, trimL_idem]
theorem trimL_end (c : UInt8) (hc : c ≠ 32) : ∀ x : List UInt8, ∃ y, trimL (x ++ [c]) = y ++ [c]
  | [] => ⟨[], trimL_other c [] hc⟩
  | d :: x => by
    by_cases h : d = 32
    · subst h
      obtain ⟨y, hy⟩ := trimL_end c hc x
      exact ⟨y, by rw [List.cons_append, trimL_blank, hy]⟩
    · exact ⟨d :: x, by rw [List.cons_append, trimL_other d _ h]⟩
/-- Cutting behind leaves the head. -/
theorem trimL_trimR (c : UInt8) (m : List UInt8) (hc : c ≠ 32) : trimL (trimR (c :: m)) = trimR (c :: m) := by
  obtain ⟨y, hy⟩ := trimL_end c hc m.reverse
  rw [trimR, List.reverse_cons, hy, List.reverse_append]
  exact trimL_other c _ hc
theorem trimB_idem (l : List UInt8) : trimB (trimB l) = trimB l := by
  rw [trimB, trimB]
  rcases trimL_head l with h | ⟨c, m, h, hc⟩
  · rw [h]; rfl
  · rw [h, trimL_trimR c m hc, trimR_idem]
theorem opt_trim (nm q : List UInt8) : optL nm (trimB q) = optL nm q := by rw [optL, optL, trimB_idem]
theorem splitC_trim (l : List UInt8) (h : (splitC l).length = 1) : splitC l = [l] ∧ splitC (trimB l) = [trimB l] :=
  ⟨splitC_none l (splitC_one l h), splitC_none _ (fun hm => splitC_one l h (trimB_mem l _ hm))⟩
end Go.Proofs.YtcdbnjhkjfimkaaDoor
