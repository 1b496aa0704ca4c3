/-
  A region that draws its order, walked by what holds of the operations that have come up: each operation once, not each order.
-/
import Derived.Test.YtacmnibhdmeidaaDoorKeep
namespace Go.Proofs.YtacmnibhdmeidaaDoor
open Go Go.RowKit

section
variable {P : Program} {md : Region.Mode} {ops : Array Oper} {Q : Exit → Act → World → Prop} {S : World → Prop}
theorem count_set {l : Array Bool} {i : Nat} (h : l.getD i true = false) : (l.setIfInBounds i true).toList.count false < l.toList.count false := by
  have hi : i < l.size := by
    rcases Nat.lt_or_ge i l.size with h' | h'
    · exact h'
    · simp [h'] at h
  have hv : l.toList[i]'(by simpa using hi) = false := by simpa [hi] using h
  rw [Array.toList_setIfInBounds, List.count_set (by simpa using hi), hv]
  have hp : 0 < l.toList.count false := List.count_pos_iff.2 (by rw [← hv]; exact List.getElem_mem _)
  rw [if_pos (by rfl), if_neg (by decide)]
  omega
theorem count_pos {l : Array Bool} {i : Nat} (h : l.getD i true = false) : 0 < l.toList.count false := by
  have := count_set h
  omega
/-- What holds at each state, whatever has come up, serves. -/
theorem wpAnyH_inv (Inv : Array Bool → Act → World → Prop) (hS : ∀ l a w, Inv l a w → S w)
    (hstep : ∀ l a w i, Inv l a w → i ∈ Region.ready md ops l → wpOp P ops Q i (fun a' w' => Inv (l.setIfInBounds i true) a' w') a w)
    (hdone : ∀ l a w, Inv l a w → Region.ready md ops l = [] → Q .normal a w) :
    ∀ (fuel : Nat) (l : Array Bool) (a : Act) (w : World), l.toList.count false ≤ fuel → Inv l a w → wpAnyH P md ops Q S fuel l a w
  | 0, l, a, w, hc, h => by
    have h0 : Region.ready md ops l = [] := by
      cases hr : Region.ready md ops l with
      | nil => rfl
      | cons i r =>
        have hm : i ∈ Region.ready md ops l := by rw [hr]; exact List.mem_cons_self ..
        have := count_pos (mem_ready.1 hm).1
        omega
    exact ⟨h0, hdone l a w h h0⟩
  | fuel + 1, l, a, w, hc, h => ⟨hdone l a w h, fun i hi => wpOp_mono (fun a' w' h' => ⟨hS _ _ _ h', wpAnyH_inv Inv hS hstep hdone fuel _ a' w' (by have := count_set (mem_ready.1 hi).1; omega) h'⟩) (hstep l a w i h hi)⟩
/-- Where nothing may come up, all have come up (each waits for elder ones alone). -/
theorem ready_all {l : Array Bool} (hord : ∀ (i : Nat) o, ops[i]? = some o → ∀ e ∈ o.after, Region.binds md e = true → e.on < i) (hsz : l.size = ops.size) (hr : Region.ready md ops l = []) :
    ∀ (k i : Nat), i < k → i < ops.size → l.getD i false = true
  | 0, i, h, _ => absurd h (by omega)
  | k + 1, i, h, hi => by
    by_cases hk : i < k
    · exact ready_all hord hsz hr k i hk hi
    · by_cases hl : l.getD i false = true
      · exact hl
      · exfalso
        have hf : l.getD i true = false := by
          have hil : i < l.size := by omega
          simp [hil] at hl ⊢
          exact hl
        have hm : i ∈ Region.ready md ops l := mem_ready.2 ⟨hf, ops[i], by simp [hi], fun e he hb => ready_all hord hsz hr k e.on (by have := hord i ops[i] (by simp [hi]) e he hb; omega) (by have := hord i ops[i] (by simp [hi]) e he hb; omega)⟩
        rw [hr] at hm
        cases hm
end

/-- An operation of the region, the slot it fills, what that slot then holds. -/
structure Slot where
  op : Nat
  dst : Nat
  spec : Value → World → Prop
/-- The slots of the operations that have come up hold what they should; the others are as at the start. -/
structure IA (F : List Slot) (last n : Nat) (a0 : Act) (w0 : World) (l : Array Bool) (a : Act) (w : World) : Prop where
  size : l.size = n
  lst : l.getD last true = false
  dfr : a.defers = a0.defers
  tsz : a.tmps.size = a0.tmps.size
  old : ∀ k, (∀ s ∈ F, s.dst ≠ k) → a.tmps[k]? = a0.tmps[k]?
  up : ∀ i, i < n → (∀ s ∈ F, s.op ≠ i) → i ≠ last → l.getD i true = true
  kp : Kp w0 w
  fam : ∀ s ∈ F, l.getD s.op false = true → ∃ v, a.tmps[s.dst]? = some v ∧ s.spec v w
section
variable {F : List Slot} {last n : Nat} {a0 a : Act} {w0 w w' : World} {l : Array Bool}
theorem IA.step (h : IA F last n a0 w0 l a w) (hF : F.Pairwise fun s t => s.op ≠ t.op ∧ s.dst ≠ t.dst) (hm : ∀ s ∈ F, ∀ v w w', s.spec v w → Kp w w' → s.spec v w') {s : Slot} (hs : s ∈ F) (hl : s.op ≠ last) (hd : s.dst < a0.tmps.size) {v : Value} (hk : Kp w w') (hv : s.spec v w') :
    IA F last n a0 w0 (l.setIfInBounds s.op true) (a.put (some s.dst) v) w' := by
  have huniq : ∀ t ∈ F, t = s ∨ (t.op ≠ s.op ∧ t.dst ≠ s.dst) := fun t ht => by
    by_cases e : t = s
    · exact .inl e
    · have := List.pairwise_iff_getElem.1 hF
      obtain ⟨i, hi, rfl⟩ := List.mem_iff_getElem.1 ht
      obtain ⟨j, hj, rfl⟩ := List.mem_iff_getElem.1 hs
      rcases Nat.lt_trichotomy i j with hij | hij | hij
      · exact .inr (this i j hi hj hij)
      · subst hij; exact absurd rfl e
      · exact .inr ⟨fun e => (this j i hj hi hij).1 e.symm, fun e => (this j i hj hi hij).2 e.symm⟩
  have hput : (a.put (some s.dst) v).tmps = a.tmps.setIfInBounds s.dst v := rfl
  refine ⟨by simp [h.size], by rw [getD_set_ne true hl]; exact h.lst, h.dfr, by rw [hput]; simp [h.tsz], fun k hk => ?_, fun i hi hn hne => ?_, h.kp.trans hk, fun t ht hlt => ?_⟩
  · rw [hput, Array.getElem?_setIfInBounds_ne (hk s hs)]
    exact h.old k hk
  · rw [getD_set_ne true (hn s hs)]
    exact h.up i hi hn hne
  · rcases huniq t ht with rfl | ⟨h1, h2⟩
    · exact ⟨v, by rw [hput]; simp [h.tsz, hd], hv⟩
    · rw [getD_set_ne false (Ne.symm h1)] at hlt
      obtain ⟨u, hu, hsp⟩ := h.fam t ht hlt
      exact ⟨u, by rw [hput, Array.getElem?_setIfInBounds_ne (Ne.symm h2)]; exact hu, hm t ht u w w' hsp hk⟩
theorem IA.get (h : IA F last n a0 w0 l a w) {s : Slot} (hs : s ∈ F) (hl : l.getD s.op false = true) : ∃ v, a.eval (.tmp s.dst) = v ∧ s.spec v w := by
  obtain ⟨v, hv, hsp⟩ := h.fam s hs hl
  exact ⟨v, by show a.tmps.getD s.dst undef = v; rw [Array.getD_eq_getD_getElem?, hv]; rfl, hsp⟩
theorem IA.base (h : IA F last n a0 w0 l a w) {k : Nat} (hk : ∀ s ∈ F, s.dst ≠ k) {v : Value} (hv : a0.eval (.tmp k) = v) : a.eval (.tmp k) = v := by
  rw [← hv]
  show a.tmps.getD k undef = a0.tmps.getD k undef
  rw [Array.getD_eq_getD_getElem?, Array.getD_eq_getD_getElem?, h.old k hk]
end
/-- Number i of the region: what it fills, what it does, what it waits for. -/
def OpAt (ops : Array Oper) (i : Nat) (dst : Option Nat) (op : Op) (deps : List Nat) : Prop :=
  ∃ ty pos aft, ops[i]? = some ⟨dst, op, ty, pos, aft, none⟩ ∧ ∀ j ∈ deps, ∃ e ∈ aft, Region.binds .any e = true ∧ e.on = j
theorem OpAt.deps {ops : Array Oper} {i : Nat} {dst : Option Nat} {op : Op} {deps : List Nat} (h : OpAt ops i dst op deps) {l : Array Bool} (hr : i ∈ Region.ready .any ops l) {j : Nat} (hj : j ∈ deps) : l.getD j false = true := by
  obtain ⟨ty, pos, aft, ho, hd⟩ := h
  obtain ⟨_, o, ho', hall⟩ := mem_ready.1 hr
  rw [ho] at ho'
  injection ho' with ho'
  subst ho'
  obtain ⟨e, he, hb, rfl⟩ := hd j hj
  exact hall e he hb
/-- It yields a value. -/
theorem OpAt.value {P : Program} {ops : Array Oper} {Q : Exit → Act → World → Prop} {i : Nat} {dst : Option Nat} {op : Op} {deps : List Nat} (h : OpAt ops i dst op deps) {K : Act → World → Prop} {a : Act} {w w' : World} {v : Value}
    (hx : ∀ ty pos aft, (execOp a.eval ⟨dst, op, ty, pos, aft, none⟩).run P w = .ok (.value v) w') (hK : K (a.put dst v) w') : wpOp P ops Q i K a w := by
  obtain ⟨ty, pos, aft, ho, _⟩ := h
  unfold wpOp
  simp only [ho]
  rw [if_pos (by rfl)]
  refine .inl ?_
  unfold Oper.wp
  rw [hx ty pos aft]
  exact hK
/-- It stores. -/
theorem OpAt.skip {P : Program} {ops : Array Oper} {Q : Exit → Act → World → Prop} {i : Nat} {op : Op} {deps : List Nat} (h : OpAt ops i none op deps) {K : Act → World → Prop} {a : Act} {w w' : World}
    (hx : ∀ ty pos aft, (execOp a.eval ⟨none, op, ty, pos, aft, none⟩).run P w = .ok .skip w') (hK : K a w') : wpOp P ops Q i K a w := by
  obtain ⟨ty, pos, aft, ho, _⟩ := h
  unfold wpOp
  simp only [ho]
  rw [if_pos (by rfl)]
  refine .inl ?_
  unfold Oper.wp
  rw [hx ty pos aft]
  exact hK
theorem enter_of {P : Program} {f : FuncId} {fn : Func} {c : Code} (hf : P.funcs[f]? = some fn) (hname : (fn.name == "runtime.NumGoroutine") = false) (hb : fn.body = some c) (args : Array Value) (w : World) : (callFunc f args).run P w = .ok (.enter f args) w := by
  have h1 : fn.name ≠ "runtime.NumGoroutine" := by simpa using hname
  simp [callFunc, hf, h1, hb]
/-- It calls a function that returns. -/
theorem OpAt.call {P : Program} {ops : Array Oper} {Q : Exit → Act → World → Prop} {i d : Nat} {f : FuncId} {args : Array Operand} {ts : Array TypeId} {deps : List Nat} (h : OpAt ops i (some d) (.call ⟨.value (.func f), args, ts⟩) deps) {K : Act → World → Prop} {a : Act} {w : World} {vs : Array Value}
    (hf : ∀ vs w, (callFunc f vs).run P w = .ok (.enter f vs) w) (ha : args.map a.eval = vs) {R : Value → World → Prop} (hc : Calls P f vs w fun e w' => ∃ v, e = .returned v ∧ R v w') (hK : ∀ v w', R v w' → K (a.put (some d) v) w') : wpOp P ops Q i K a w := by
  obtain ⟨ty, pos, aft, ho, _⟩ := h
  unfold wpOp
  simp only [ho]
  rw [if_pos (by rfl)]
  refine .inl ?_
  unfold Oper.wp
  have hx : (execOp a.eval ⟨some d, .call ⟨.value (.func f), args, ts⟩, ty, pos, aft, none⟩).run P w = .ok (.enter f (args.map a.eval)) w := by
    show (callFunc f ((#[] ++ args.map a.eval) ++ #[])).run P w = _
    rw [hf]
    simp
  rw [hx, ha]
  refine hc.mono ?_
  rintro e w' ⟨v, rfl, hR⟩
  exact hK v w' hR
end Go.Proofs.YtacmnibhdmeidaaDoor
