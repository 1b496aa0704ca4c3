/-
  A row of servers that grows by one.
-/
import Derived.Test.YtcdbnjhkjfimkaaDoorSrv1
import Derived.OwnWalk
import Derived.Maps.AppendAt
import Derived.Deep.AppendLies
import Derived.Deep.RegionHeld3
import Derived.Lib.AppendZeros
namespace Go.Proofs.YtcdbnjhkjfimkaaDoor
open Go Go.RowKit

theorem own_lt' {w : World} {base : Nat} {e : TypeId} {size n : Nat} {v : Value} {xs : List Value} (h : w.ownsRow base e size v n xs) : ∀ r, v.ownBlock = some r → base ≤ r ∧ r < w.heap.size := fun r hr => by
  rcases h.2 with ⟨rfl, _⟩ | ⟨g', cap, cur, rfl, hb, hh, _⟩
  · simp [Value.ownBlock] at hr
  · have : g' = r := by simpa [Value.ownBlock] using hr
    subst this
    refine ⟨hb, ?_⟩
    rcases Nat.lt_or_ge g' w.heap.size with hlt | hge
    · exact hlt
    · rw [Array.getElem?_eq_none hge] at hh; cases hh
theorem own_form {w : World} {base n : Nat} {e : TypeId} {size : Nat} {v : Value} {xs : List Value} (h : w.ownsRow base e size v n xs) (hn : 0 < n) : ∃ g cap, v = .slice (some ⟨g, 0, none⟩) n cap ∧ n ≤ cap ∧ cap ≤ maxLen ∧ g < w.heap.size ∧ base ≤ g ∧ ∀ j u, xs[j]? = some u → w.cell? ⟨g, j, none⟩ = some u := by
  have hh := h
  rcases h.2 with ⟨rfl, h0⟩ | ⟨g, cap, cur, rfl, hb, hg, hle, hm, _⟩
  · omega
  · refine ⟨g, cap, rfl, hle, hm, ?_, hb, fun j u hj => ?_⟩
    · rcases Nat.lt_or_ge g w.heap.size with hlt | hge
      · exact hlt
      · rw [Array.getElem?_eq_none hge] at hg; cases hg
    · have hjl : j < xs.length := (List.getElem?_eq_some_iff.1 hj).1
      have := hh.cellAt j (by have := hh.1; omega)
      rw [this, ← hj, List.getElem?_eq_getElem hjl]

/-- append of one record of whatever struct. -/
theorem app_rec {ty e : TypeId} {z : Value} {size bytes : Nat} (ht : Tryd.prog.underlying ty = some (.slice e)) (hinfo : (Tryd.prog.info? e).map (fun i => (i.zero, i.size, i.bytes)) = some (some z, size, bytes)) (hzs : z.cells.size = size) (hsz : 0 < size) (hby : bytes ≤ 1000)
    (w : World) (base : Nat) (v : Value) (n : Nat) (xs : List Value) (hown : w.ownsRow base e size v n xs) (g : Nat) (cs : List Value) (hg : Blk w g e cs.toArray) (hl : cs.length = size) (h1 : ∀ u ∈ cs, u.oneCell' = true) (hn : n ≤ 1000000) (hbase : base ≤ w.heap.size) :
    ∃ v' w', (Builtin.append_ #[ty, ty] ty #[v, .slice (some ⟨g, 0, none⟩) 1 1]).run Tryd.prog w = .ok v' w' ∧ w'.ownsRow base e size v' (n + 1) (xs ++ cs) ∧ w.grownBy w' v.ownBlock ∧ (v'.ownBlock = v.ownBlock ∨ v'.ownBlock = some w.heap.size) := by
  obtain ⟨i0, hi, hz0, hz1, hz2⟩ := info_parts hinfo
  have hb : (n + 1) * bytes ≤ 1000001 * 1000 := Nat.mul_le_mul (by omega) hby
  obtain ⟨v', w', h1, h2, h3, _, h5⟩ := run_append_own_at (P := Tryd.prog) w base ty ty e i0 z size bytes ht hi hz0 hz1 hz2 hzs hsz v n xs hown ⟨g, 0, none⟩ 1 1 cs (by omega)
    (fun j x hj => by rw [Go.WideShapes.add_plain, Nat.zero_add, hg.cell j, ← hj]; simp) h1 (by unfold maxLen; omega) (by omega) hbase
  exact ⟨v', w', h1, h2, h3, h5⟩
/-- At a step of a region that draws its order: an append whose run is known. -/
theorem step_append_run {P : Program} {ops : Array Oper} {o : Oper} {a : Act} {w : World} {K : Act → World → Prop} {Q : Exit → Act → World → Prop} {E : Prop} (hgd : o.guard = none) (s x : Operand) (t tn : TypeId)
    (ho : o.op = .call { callee := .builtin .append, args := #[s, x], argTypes := #[t, tn] }) (vs vx : Value) (hs : a.eval s = vs) (hx : a.eval x = vx)
    (v' : Value) (w' : World) (hr : (Builtin.append_ #[t, tn] o.type #[vs, vx]).run P w = .ok v' w') (h : K (a.put o.dst v') w') :
    if Region.wanted o (yielded ops a.tmps) = true then Oper.wp P o a w K Q else E := by
  have hw : Region.wanted o (yielded ops a.tmps) = true := by simp [Region.wanted, hgd]
  rw [if_pos hw]
  exact Lib.wp_append_run w s x t tn ho vs vx hs hx v' w' hr h


end Go.Proofs.YtcdbnjhkjfimkaaDoor
