/-
  The steps of Served as contracts over the state of a DatabaseInfo: its servers and the place of the active one.
-/
import Derived.Test.YtcdbnjhkjfimkaaDoorSrv5
namespace Go.Proofs.YtcdbnjhkjfimkaaDoor
open Go Go.RowKit

def zS : Srv := ⟨ByteArray.empty, ByteArray.empty, 0⟩
/-- The place of the server that a step gives. -/
def SrvSt.at_ (t : SrvSt) (k : Int) : Nat := if k = 2 then t.pos + 1 else t.pos
def SrvSt.got (t : SrvSt) (k : Int) : Srv := if t.gives k = true then t.all.getD (t.at_ k) zS else zS
def srvC (s : Srv) : List Value := [.string s.pr, .string s.ad, .int .i64 s.po]
def allC (l : List Srv) : List Value := l.flatMap srvC
theorem allC_snoc (l : List Srv) (s : Srv) : allC (l ++ [s]) = allC l ++ srvC s := by simp [allC]
theorem allC_at : ∀ (l : List Srv) (r j : Nat), r < l.length → j < 3 → (allC l)[r * 3 + j]? = (srvC (l.getD r zS))[j]?
  | [], r, j, h, _ => by simp at h
  | s :: l, 0, j, _, hj => by
    simp only [allC, List.flatMap_cons, Nat.zero_mul, Nat.zero_add, List.getD_cons_zero]
    rw [List.getElem?_append_left (by simpa [srvC] using hj)]
  | s :: l, r + 1, j, h, hj => by
    have ih := allC_at l r j (by simpa using h) hj
    simp only [allC, List.flatMap_cons, List.getD_cons_succ] at ih ⊢
    rw [List.getElem?_append_right (by simp [srvC]; omega), ← ih]
    congr 1
    simp [srvC]
    omega
theorem getD_mem {l : List Srv} {r : Nat} (h : r < l.length) : l.getD r zS ∈ l := by
  rw [List.getD_eq_getElem?_getD, List.getElem?_eq_getElem h, Option.getD_some]
  exact List.getElem_mem _
theorem addS_len (l : List Srv) (s : Srv) : (addS l s).length ≤ l.length + 1 := by
  unfold addS
  split <;> simp
theorem step_len (t : SrvSt) (k : Int) (s : Srv) : (t.step k s).all.length ≤ t.all.length + 1 ∧ (t.step k s).pos ≤ t.pos + 1 := by
  unfold SrvSt.step
  split
  · exact ⟨addS_len _ _, by simp⟩
  · split
    · simp
    · split <;> simp
theorem addS_mem {l : List Srv} {s x : Srv} (h : x ∈ addS l s) : x ∈ l ∨ x = s := by
  unfold addS at h
  split at h
  · exact .inl h
  · rcases List.mem_append.1 h with h | h
    · exact .inl h
    · exact .inr (List.mem_singleton.1 h)

theorem own_heap {w w' : World} {base : Nat} {e : TypeId} {size n : Nat} {v : Value} {xs : List Value} (h : w.ownsRow base e size v n xs) (hh : ∀ g, v.ownBlock = some g → w'.heap[g]? = w.heap[g]?) : w'.ownsRow base e size v n xs := by
  obtain ⟨h1, h2⟩ := h
  refine ⟨h1, ?_⟩
  rcases h2 with h2 | ⟨g, cap, cur, hv, hg, hh', r⟩
  · exact .inl h2
  · refine .inr ⟨g, cap, cur, hv, hg, (hh g (by rw [hv]; rfl)).trans hh', r⟩
theorem own_blk_ne {w : World} {base : Nat} {e t : TypeId} {size n g : Nat} {v : Value} {xs : List Value} {cs : Array Value} (h : w.ownsRow base e size v n xs) (hg : Blk w g t cs) (hne : e ≠ t) : v.ownBlock ≠ some g := by
  rcases h.2 with ⟨rfl, _⟩ | ⟨g', cap, cur, rfl, _, hh, _⟩
  · simp [Value.ownBlock]
  · intro he
    have : g' = g := by simpa [Value.ownBlock] using he
    subst this
    unfold Blk at hg
    rw [hh] at hg
    injection hg with hg
    injection hg with _ ht
    exact hne ht
theorem own_own_ne {w : World} {base base' : Nat} {e e' : TypeId} {size size' n n' : Nat} {v v' : Value} {xs xs' : List Value} (h : w.ownsRow base e size v n xs) (h' : w.ownsRow base' e' size' v' n' xs') (hne : e ≠ e') : ∀ g, v.ownBlock = some g → v'.ownBlock ≠ some g := by
  intro g hv hv'
  rcases h.2 with ⟨rfl, _⟩ | ⟨g1, cap, cur, rfl, _, hh, _⟩
  · simp [Value.ownBlock] at hv
  · rcases h'.2 with ⟨rfl, _⟩ | ⟨g2, cap2, cur2, rfl, _, hh2, _⟩
    · simp [Value.ownBlock] at hv'
    · have e1 : g1 = g := by simpa [Value.ownBlock] using hv
      have e2 : g2 = g := by simpa [Value.ownBlock] using hv'
      subst e1 e2
      rw [hh] at hh2
      injection hh2 with hh2
      injection hh2 with _ ht
      exact hne ht
theorem own_slice {w : World} {base : Nat} {e : TypeId} {size n : Nat} {v : Value} {xs : List Value} (h : w.ownsRow base e size v n xs) : ∃ q c, v = .slice q n c ∧ n ≤ c ∧ c ≤ maxLen := by
  rcases h.2 with ⟨rfl, h0⟩ | ⟨g, cap, cur, rfl, _, _, h1, h2, _⟩
  · exact ⟨none, 0, by rw [h0], by omega, by simp [maxLen]⟩
  · exact ⟨_, _, rfl, h1, h2⟩

/-- What a step leaves as it was. -/
def Fr (base b : Nat) (v : Value) (w w' : World) : Prop := (∀ g, g < w.heap.size → g ≠ b → some g ≠ v.ownBlock → w'.heap[g]? = w.heap[g]?) ∧ (∀ U, Kp U w → U.heap.size ≤ base → U.heap.size ≤ b → Kp U w')
theorem Fr.of_kp {base b : Nat} {v : Value} {w w' : World} (h : Kp w w') : Fr base b v w w' := ⟨fun g hg _ _ => h.block g hg, fun _ hU _ _ => hU.trans h⟩
theorem heap_set_ne (w : World) (b i : Nat) (u : Value) {g : Nat} (h : g ≠ b) : (w.setCell ⟨b, i, none⟩ u).heap[g]? = w.heap[g]? := Below.heap_setCell w ⟨b, i, none⟩ u g h
theorem Fr.set {base b : Nat} {v : Value} {w w' : World} (i : Nat) (u : Value) (hk : Kp (w.setCell ⟨b, i, none⟩ u) w') : Fr base b v w w' :=
  ⟨fun g hg h1 _ => (hk.block g (by rw [World.size_setCell]; exact hg)).trans (heap_set_ne w b i u h1), fun _ hU _ h2 => (hU.set h2 u).trans hk⟩

/-- What asking gives: nothing, or the address of a server. -/
def Gave (t : SrvSt) (k : Int) (s : Value) (w : World) : Prop := (t.gives k = false ∧ s = .pointer none) ∨ (t.gives k = true ∧ ∃ g o, s = .pointer (some ⟨g, o, none⟩) ∧ w.cell? ⟨g, o, none⟩ = some (.string (t.got k).pr) ∧ w.cell? ⟨g, o + 1, none⟩ = some (.string (t.got k).ad) ∧ w.cell? ⟨g, o + 2, none⟩ = some (.int .i64 (t.got k).po))
end Go.Proofs.YtcdbnjhkjfimkaaDoor
