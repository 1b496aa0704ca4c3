/-
  Served's loop over steps.
-/
import Derived.Test.YtcdbnjhkjfimkaaDoorSrv6
import Derived.Deep.CutBlock
namespace Go.Proofs.YtcdbnjhkjfimkaaDoor
open Go Go.RowKit

/-- Steps as they lie in memory. -/
def StepsIn (w : World) (a : Option Addr) (n : Nat) (KD : Nat → Int) (SV : Nat → Srv) : Prop := ∀ r, r < n → ∃ g, a = some ⟨g, 0, none⟩ ∧ w.cell? ⟨g, r * 4, none⟩ = some (.int .i64 (KD r)) ∧ w.cell? ⟨g, r * 4 + 1, none⟩ = some (.string (SV r).pr) ∧ w.cell? ⟨g, r * 4 + 2, none⟩ = some (.string (SV r).ad) ∧ w.cell? ⟨g, r * 4 + 3, none⟩ = some (.int .i64 (SV r).po)
theorem StepsIn.kp {w w' : World} {a : Option Addr} {n : Nat} {KD : Nat → Int} {SV : Nat → Srv} (h : StepsIn w a n KD SV) (hk : Kp w w') : StepsIn w' a n KD SV := fun r hr => by
  obtain ⟨g, h0, h1, h2, h3, h4⟩ := h r hr
  exact ⟨g, h0, below_some hk h1, below_some hk h2, below_some hk h3, below_some hk h4⟩
def stAt (KD : Nat → Int) (SV : Nat → Srv) : Nat → SrvSt
  | 0 => ⟨[], 0⟩
  | k + 1 => (stAt KD SV k).step (KD k) (SV k)
theorem stAt_len (KD : Nat → Int) (SV : Nat → Srv) : ∀ k, (stAt KD SV k).all.length ≤ k ∧ (stAt KD SV k).pos ≤ k
  | 0 => ⟨Nat.le_refl _, Nat.le_refl _⟩
  | k + 1 => by
    have h := stAt_len KD SV k
    have h2 := step_len (stAt KD SV k) (KD k) (SV k)
    simp only [stAt]
    omega
/-- A row of records, one behind the other. -/
def flatV (f : Nat → List Value) : Nat → List Value
  | 0 => []
  | k + 1 => flatV f k ++ f k
def outC (KD : Nat → Int) (SV : Nat → Srv) (r : Nat) : List Value := srvC ((stAt KD SV r).got (KD r))
def isC (KD : Nat → Int) (SV : Nat → Srv) (r : Nat) : List Value := [.bool ((stAt KD SV r).gives (KD r))]
theorem infoBool : (Tryd.prog.info? 4).map (fun i => (i.zero, i.size, i.bytes)) = some (some (.bool false), 1, 1) := by kernel_rfl

/-- append of one new record. -/
theorem app_one {ty e : TypeId} {z : Value} {size bytes : Nat} (ht : Tryd.prog.underlying ty = some (.slice e)) (hinfo : (Tryd.prog.info? e).map (fun i => (i.zero, i.size, i.bytes)) = some (some z, size, bytes)) (hzs : z.cells.size = size) (hsz : 0 < size) (hby : bytes ≤ 1000)
    (W : World) (base : Nat) (v : Value) (n : Nat) (xs : List Value) (hown : W.ownsRow base e size v n xs) (hbase : base ≤ W.heap.size) (hn : n ≤ 1000000) (cs : List Value) (hl : cs.length = size) (h1 : ∀ u ∈ cs, u.oneCell' = true) :
    ∃ v' w5, (Builtin.append_ #[ty, ty] ty #[v, .slice (some ⟨W.heap.size, 0, none⟩) 1 1]).run Tryd.prog (W.alloc (.cells cs.toArray e)) = .ok v' w5 ∧
      w5.ownsRow base e size v' (n + 1) (xs ++ cs) ∧ W.grownBy w5 v.ownBlock ∧ (v'.ownBlock = v.ownBlock ∨ v'.ownBlock = some (W.heap.size + 1)) := by
  generalize hW : W.alloc (.cells cs.toArray e) = W4
  have hs : W4.heap.size = W.heap.size + 1 := by rw [← hW]; simp
  have hk : Kp W W4 := hW ▸ (Kp.refl W).alloc _
  obtain ⟨v', w5, r1, r2, r5, r6⟩ := app_rec ht hinfo hzs hsz hby W4 base v n xs (own_below hown hk) W.heap.size cs (hW ▸ Blk.new W _ _) hl h1 hn (by omega)
  refine ⟨v', w5, r1, r2, ?_, by rw [hs] at r6; exact r6⟩
  rw [← hW] at r5
  exact (World.grownBy_alloc W _ _).trans r5
theorem own_grown {w w' : World} {base base' : Nat} {e e' : TypeId} {size size' n n' : Nat} {v v' : Value} {xs xs' : List Value} (h : w.ownsRow base e size v n xs) (h' : w.ownsRow base' e' size' v' n' xs') (hne : e ≠ e') (hg : w.grownBy w' v'.ownBlock) : w'.ownsRow base e size v n xs :=
  own_heap h fun g hg1 => hg.block g (own_lt' h g hg1).2 (fun e => own_own_ne h h' hne g hg1 e.symm)
theorem srvC_one (s : Srv) : ∀ u ∈ srvC s, u.oneCell' = true := fun u hu => by
  simp only [srvC, List.mem_cons, List.not_mem_nil, or_false] at hu
  rcases hu with rfl | rfl | rfl <;> rfl
end Go.Proofs.YtcdbnjhkjfimkaaDoor
