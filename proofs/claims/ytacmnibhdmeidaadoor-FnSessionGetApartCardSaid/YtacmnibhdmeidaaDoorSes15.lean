/-
  What a session writes are bytes; two rows of bytes, one behind the other.
-/
import Derived.Test.YtacmnibhdmeidaaDoorSes14
namespace Go.Proofs.YtacmnibhdmeidaaDoor
open Go Go.RowKit

def Bys (l : List Int) : Prop := ∀ x ∈ l, 0 ≤ x ∧ x < 256
theorem Bys.nil : Bys [] := fun _ h => absurd h List.not_mem_nil
theorem Bys.app {a b : List Int} (h : Bys a) (k : Bys b) : Bys (a ++ b) := fun x hx => by
  rcases List.mem_append.1 hx with hx | hx
  · exact h x hx
  · exact k x hx
theorem Bys.cons {x : Int} {b : List Int} (h : 0 ≤ x ∧ x < 256) (k : Bys b) : Bys (x :: b) := fun y hy => by
  rcases List.mem_cons.1 hy with rfl | hy
  · exact h
  · exact k y hy
theorem Bys.take {a : List Int} (h : Bys a) (n : Nat) : Bys (a.take n) := fun x hx => h x (List.mem_of_mem_take hx)
theorem Bys.drop {a : List Int} (h : Bys a) (n : Nat) : Bys (a.drop n) := fun x hx => h x (List.mem_of_mem_drop hx)
theorem bys_packed (v : Nat) : Bys (packed v) := packed_byte v
theorem bys_fixed {d : List Int} (h : Bys d) : Bys (fixedW d) := by
  unfold fixedW
  split
  · exact Bys.cons (by omega) (Bys.app (be_byte 4 _) h)
  · exact Bys.cons (by omega) h
theorem bys_head (big : Bool) (k : Nat) : Bys (headW big k) := by
  unfold headW
  split
  · exact bys_packed k
  · exact Bys.cons (by omega) Bys.nil
theorem bys_chunks (big : Bool) (chunk : Nat) : ∀ (f : Nat) (d : List Int), Bys d → Bys (chunks big chunk f d)
  | 0, _, _ => Bys.nil
  | f + 1, d, h => by
    unfold chunks
    split
    · exact Bys.nil
    · exact Bys.app (Bys.app (bys_head big _) (h.take _)) (bys_chunks big chunk f _ (h.drop _))
theorem bys_clr (big : Bool) (chunk : Nat) {d : List Int} (h : Bys d) : Bys (clrW big chunk d) := by
  unfold clrW
  split
  · exact Bys.cons (by omega) (Bys.app (bys_chunks big chunk _ d h) (Bys.cons (by omega) Bys.nil))
  · exact Bys.cons (by omega) h
theorem bys_dlc (big : Bool) (chunk : Nat) {d : List Int} (h : Bys d) : Bys (dlcW big chunk d) := by
  unfold dlcW
  split
  · exact Bys.cons (by omega) Bys.nil
  · exact Bys.app (bys_packed _) (bys_clr big chunk h)
theorem bys_kv (big : Bool) (chunk : Nat) {k v : List Int} (n : Nat) (hk : Bys k) (hv : Bys v) : Bys (kvW big chunk k v n) := Bys.app (Bys.app (bys_dlc big chunk hk) (bys_dlc big chunk hv)) (bys_packed n)
theorem bys_num (s : Nat) (b c : Bool) (v : Nat) : Bys (numW s b c v) := by
  unfold numW
  split
  · exact bys_packed v
  · exact plain_byte s b v
theorem bys_step (big : Bool) (chunk : Nat) {s : PStep} (h1 : Bys s.ys) (h2 : Bys s.zs) : Bys (stepW big chunk s) := by
  unfold stepW
  split
  · exact h1
  split
  · exact bys_clr big chunk h1
  split
  · exact bys_num _ _ _ _
  split
  · exact bys_num _ _ _ _
  split
  · exact bys_kv big chunk _ h1 h2
  · exact bys_fixed h1
theorem bys_put (big : Bool) (chunk : Nat) (P : Nat → PStep) (n : Nat) (h : ∀ r, r < n → Bys (P r).ys ∧ Bys (P r).zs) : ∀ k, k ≤ n → Bys (putL big chunk P k)
  | 0, _ => Bys.nil
  | k + 1, hk => Bys.app (bys_put big chunk P n h k (by omega)) (bys_step big chunk (h k (by omega)).1 (h k (by omega)).2)

/-- Two rows, in a slice that the text itself builds. -/
theorem sls_two {W : World} {b : Nat} {t : TypeId} {q1 q2 : Option Addr} {l1 c1 l2 c2 : Nat} {xs ys : List Int} (h : Blk W b t #[.slice q1 l1 c1, .slice q2 l2 c2]) (h1 : Lib.BytesIn W q1 l1 xs) (e1 : xs.length = l1) (h2 : Lib.BytesIn W q2 l2 ys) (e2 : ys.length = l2) :
    SlsIn W (some ⟨b, 0, none⟩) 2 (fun r => if r = 0 then q1 else q2) (fun r => if r = 0 then l1 else l2) (fun r => if r = 0 then c1 else c2) (fun r => if r = 0 then xs else ys) := fun r hr => by
  rcases (show r = 0 ∨ r = 1 by omega) with rfl | rfl
  · exact ⟨b, 0, rfl, by rw [Nat.zero_add, h.cell 0]; rfl, h1, e1⟩
  · exact ⟨b, 0, rfl, by rw [Nat.zero_add, h.cell 1]; rfl, h2, e2⟩
theorem cat_two (xs ys : List Int) : catN (fun r => if r = 0 then xs else ys) 2 = xs ++ ys := by simp [catN]
end Go.Proofs.YtacmnibhdmeidaaDoor
