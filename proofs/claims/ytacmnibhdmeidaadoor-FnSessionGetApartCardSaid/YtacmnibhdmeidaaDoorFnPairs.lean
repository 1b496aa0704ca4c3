/-
  FnSessionPairs: keys and values with flags, one behind the other, are read again, and nothing is left.
-/
import Derived.Test.YtacmnibhdmeidaaDoorSes19
namespace Go.Proofs.YtacmnibhdmeidaaDoor
open Go Go.RowKit

/-- At a step of a region that draws its order: an append whose run is known. -/
theorem step_append_run {P : Program} {ops : Array Oper} {o : Oper} {a : Act} {w : World} {K : Act → World → Prop} {Q : Exit → Act → World → Prop} {E : Prop} (hgd : o.guard = none) (s x : Operand) (t tn : TypeId)
    (ho : o.op = .call { callee := .builtin .append, args := #[s, x], argTypes := #[t, tn] }) (vs vx : Value) (hs : a.eval s = vs) (hx : a.eval x = vx)
    (v' : Value) (w' : World) (hr : (Builtin.append_ #[t, tn] o.type #[vs, vx]).run P w = .ok v' w') (h : K (a.put o.dst v') w') :
    if Region.wanted o (yielded ops a.tmps) = true then Oper.wp P o a w K Q else E := by
  have hw : Region.wanted o (yielded ops a.tmps) = true := by simp [Region.wanted, hgd]
  rw [if_pos hw]
  exact Lib.wp_append_run w s x t tn ho vs vx hs hx v' w' hr h

/-- A step that writes a pair. -/
structure PairAt (XK XV : Nat → List Int) (LK LV : Nat → Nat) (fs : List Int) (r : Nat) (s : PStep) : Prop where
  kind : s.kind = 4
  ys : s.ys = XK r
  zs : s.zs = XV r
  k1 : s.k1 = LK r
  k2 : s.k2 = LV r
  fl : fs.getD r 0 = (s.flag : Int)
  m1 : LK r ≤ 600
  m2 : LV r ≤ 600

theorem PairAt.ok {XK XV : Nat → List Int} {LK LV : Nat → Nat} {fs : List Int} {r : Nat} {s : PStep} (h : PairAt XK XV LK LV fs r s) (h1 : (XK r).length = LK r) (h2 : (XV r).length = LV r) (h3 : fs.getD r 0 < 256) : s.Ok :=
  ⟨by rw [h.kind]; omega, by rw [h.ys, h.k1, h1], by rw [h.zs, h.k2, h2], by rw [h.k1]; have := h.m1; omega, by rw [h.k2]; have := h.m2; omega, by rw [h.fl] at h3; omega, fun e => by rw [h.kind] at e; omega, fun e => by rw [h.kind] at e; omega⟩
def kvRec (XK XV : Nat → List Int) (fs : List Int) (r : Nat) : GRec := ⟨XK r, XV r, fs.getD r 0, noText⟩
theorem pair_run {XK XV : Nat → List Int} {LK LV : Nat → Nat} {fs : List Int} (big : Bool) (n : Nat) (R : Nat → PStep) (h : ∀ r, r < n → PairAt XK XV LK LV fs r (R r)) (h1 : ∀ r, r < n → (XK r).length = LK r) (h2 : ∀ r, r < n → (XV r).length = LV r) (h3 : ∀ r, r < n → fs.getD r 0 < 256) :
    RunR big n (fun _ => G6) (fun r => restL big 64 R (n - r) r) (kvRec XK XV fs) := fun r hr => by
  have hp := h r hr
  have e : stepW big 64 (R r) = kvW big 64 (XK r) (XV r) (R r).flag := by simp [stepW, hp.kind, hp.ys, hp.zs]
  have hf := h3 r hr
  rw [hp.fl] at hf
  refine .inr (.inr (.inr (.inr (.inr (.inl ⟨rfl, XK r, XV r, fs.getD r 0, ?_, rfl⟩)))))
  show RdKv big (restL big 64 R (n - r) r) (XK r) (XV r) (fs.getD r 0) (restL big 64 R (n - (r + 1)) (r + 1))
  rw [rest_step big 64 R n r hr, e, hp.fl]
  exact rdKv_mk big 64 (by omega) (by omega) (fun _ => by omega) (XK r) (XV r) _ _ (by omega) (by rw [h1 r hr]; have := hp.m1; omega) (by rw [h2 r hr]; have := hp.m2; omega)
theorem gotRow_flat (Q : Nat → GPlace) (V : Nat → GRec) : ∀ k, gotRow Q V k = flatR (fun p : GPlace × GRec => gotCells p.1 p.2) (fun r => (Q r, V r)) k
  | 0 => rfl
  | k + 1 => by rw [gotRow, flatR, gotRow_flat Q V k]
theorem got_at (Q : Nat → GPlace) (V : Nat → GRec) (k r j : Nat) (u : Value) (hr : r < k) (hu : (gotCells (Q r) (V r))[j]? = some u) : (gotRow Q V k)[r * 5 + j]? = some u := by
  rw [gotRow_flat]
  exact flatR_at (size := 5) (fun _ => rfl) k r j u hr hu

end Go.Proofs.YtacmnibhdmeidaaDoor
