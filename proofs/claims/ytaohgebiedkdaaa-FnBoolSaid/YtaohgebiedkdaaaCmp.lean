/-
  bytes.Compare: it returns the comparison of the two lists of bytes; the world stays as it was.
-/
import Derived.Lib.Bytealg
import Derived.Lib.BytesEntry
import Derived.WalkKit
import Derived.OwnWalk
import Derived.WalkLawsBesides
import Derived.Outline
import Derived.Lib.Hide
import Derived.Test.YtaohgebiedkdaaaKit
import Derived.Test.YtaohgebiedkdaaaProg
namespace Go.Proofs.Ytaohgebiedkdaaa
open Go Go.RowKit

theorem run_bytesOf_in {P : Program} {w : World} {p : Option Addr} {n c : Nat} {xs : List Int} (h : Lib.BytesIn w p n xs) (hx : xs.length = n) :
    (Extern.Bytes.bytesOf (.slice p n c)).run P w = .ok ⟨(Lib.bytesOf xs).toArray⟩ w := by
  subst hx
  rcases Nat.eq_zero_or_pos xs.length with h0 | h0
  · have : xs = [] := List.eq_nil_of_length_eq_zero h0
    subst this
    cases p with
    | none => rfl
    | some a => rfl
  · obtain ⟨b, o, rfl, hc⟩ := h h0
    show (Extern.Bytes.loadBytes ⟨b, o, none⟩ xs.length .empty).run P w = _
    rw [Lib.run_loadBytesX w xs ⟨b, o, none⟩ .empty (fun j x hj => by
      have hl := (List.getElem?_eq_some_iff.1 hj).1
      have e : (⟨b, o, none⟩ : Addr).add j = ⟨b, o + j, none⟩ := by simp [Addr.add]
      rw [e, hc j hl]
      simp [List.getD, hj])]
    simp [ByteArray.empty, ByteArray.emptyWithCapacity]
    rfl

theorem run_compare_in {P : Program} {w : World} {p q : Option Addr} {n c m d : Nat} {xs ys : List Int} (h : Lib.BytesIn w p n xs) (hx : xs.length = n) (k : Lib.BytesIn w q m ys) (hy : ys.length = m) :
    (Extern.BytealgCompare.compare #[.slice p n c, .slice q m d]).run P w = .ok (.int .i64 (Lib.compareBytes (Lib.bytesOf xs) (Lib.bytesOf ys))) w := by
  change Sem.run P (do pure (goInt (Extern.BytealgCompare.cmp (← Extern.Bytes.bytesOf (.slice p n c)) (← Extern.Bytes.bytesOf (.slice q m d))))) w = _
  simp only [Sem.run_bind, run_bytesOf_in h hx, run_bytesOf_in k hy, Sem.run_pure, Result.andThen]
  rw [Lib.cmp_eq]
  rfl

set_option maxHeartbeats 400000 in
theorem bytes_Compare_any {w : World} {p q : Option Addr} {n c m d : Nat} {xs ys : List Int} (h : Lib.BytesIn w p n xs) (hx : xs.length = n) (k : Lib.BytesIn w q m ys) (hy : ys.length = m) :
    Calls Try.prog 10 #[.slice p n c, .slice q m d] w fun e w' => e = .returned (.int .i64 (Lib.compareBytes (Lib.bytesOf xs) (Lib.bytesOf ys))) ∧ w' = w := by
  have hr := run_compare_in (P := Try.prog) (c := c) (d := d) h hx k hy
  have H := Lib.hid hr
  clear hr hx hy h k
  go_enter Try.func10, Try.ntmps10
  go_wp2
  rw [run_callFunc_extern Try.func11 (by kernel_rfl) (by kernel_rfl) (by kernel_rfl) (e := Extern.BytealgCompare.compare) (by kernel_rfl), H.out]
  simp only [Result.andThen]
  rw [Oper.upon_value]
  go_wp2
  go_ret
  exact ⟨rfl, rfl⟩
end Go.Proofs.Ytaohgebiedkdaaa
