/-
  The steps of Served as contracts over the state of a DatabaseInfo: its servers and the place of the active one.
-/
import Derived.Test.YtmojecgmneodlaaDoorSrv5
namespace Go.Proofs.YtmojecgmneodlaaDoor
open Go Go.RowKit

def zS : Srv := ⟨ByteArray.empty, ByteArray.empty, 0⟩
/-- The place of the server that a step gives. -/
def SrvSt.at_ (t : SrvSt) (k : Int) : Nat := if k = 2 then t.pos + 1 else t.pos
def SrvSt.got (t : SrvSt) (k : Int) : Srv := if t.gives k = true then t.all.getD (t.at_ k) zS else zS
def srvC (s : Srv) : List Value := [.string s.pr, .string s.ad, .int .i64 s.po]
def allC (l : List Srv) : List Value := l.flatMap srvC
theorem allC_snoc (l : List Srv) (s : Srv) : allC (l ++ [s]) = allC l ++ srvC s := by simp [allC]
theorem allC_at : ∀ (l : List Srv) (r j : Nat), r < l.length → j < 3 → (allC l)[r * 3 + j]? = (srvC (l.getD r zS))[j]?
  | [], r, j, h, _ => by simp at h
  | s :: l, 0, j, _, hj => by
    simp only [allC, List.flatMap_cons, Nat.zero_mul, Nat.zero_add, List.getD_cons_zero]
    rw [List.getElem?_append_left (by simpa [srvC] using hj)]
  | s :: l, r + 1, j, h, hj => by
    have ih := allC_at l r j (by simpa using h) hj
    simp only [allC, List.flatMap_cons, List.getD_cons_succ] at ih ⊢
    rw [List.getElem?_append_right (by simp [srvC]; omega), ← ih]
    congr 1
    simp [srvC]
    omega
theorem getD_mem {l : List Srv} {r : Nat} (h : r < l.length) : l.getD r zS ∈ l := by
  rw [List.getD_eq_getElem?_getD, List.getElem?_eq_getElem h, Option.getD_some]
  exact List.getElem_mem _
theorem addS_len (l : List Srv) (s : Srv) : (addS l s).length ≤ l.length + 1 := by
  unfold addS
  split <;> simp
theorem step_len (t : SrvSt) (k : Int) (s : Srv) : (t.step k s).all.length ≤ t.all.length + 1 ∧ (t.step k s).pos ≤ t.pos + 1 := by
  unfold SrvSt.step
  split
  · exact ⟨addS_len _ _, by simp⟩
  · split
    · simp
    · split <;> simp
theorem addS_mem {l : List Srv} {s x : Srv} (h : x ∈ addS l s) : x ∈ l ∨ x = s := by
  unfold addS at h
  split at h
  · exact .inl h
  · rcases List.mem_append.1 h with h | h
    · exact .inl h
    · exact .inr (List.mem_singleton.1 h)

theorem own_heap {w w' : World} {base : Nat} {e : TypeId} {size n : Nat} {v : Value} {xs : List Value} (h : w.ownsRow base e size v n xs) (hh : ∀ g, v.ownBlock = some g → w'.heap[g]? = w.heap[g]?) : w'.ownsRow base e size v n xs := by
  obtain ⟨h1, h2⟩ := h
  refine ⟨h1, ?_⟩
  rcases h2 with h2 | ⟨g, cap, cur, hv, hg, hh', r⟩
  · exact .inl h2
  · refine .inr ⟨g, cap, cur, hv, hg, (hh g (by rw [hv]; rfl)).trans hh', r⟩
theorem own_blk_ne {w : World} {base : Nat} {e t : TypeId} {size n g : Nat} {v : Value} {xs : List Value} {cs : Array Value} (h : w.ownsRow base e size v n xs) (hg : Blk w g t cs) (hne : e ≠ t) : v.ownBlock ≠ some g := by
  rcases h.2 with ⟨rfl, _⟩ | ⟨g', cap, cur, rfl, _, hh, _⟩
  · simp [Value.ownBlock]
  · intro he
    have : g' = g := by simpa [Value.ownBlock] using he
    subst this
    unfold Blk at hg
    rw [hh] at hg
    injection hg with hg
    injection hg with _ ht
    exact hne ht
theorem own_own_ne {w : World} {base base' : Nat} {e e' : TypeId} {size size' n n' : Nat} {v v' : Value} {xs xs' : List Value} (h : w.ownsRow base e size v n xs) (h' : w.ownsRow base' e' size' v' n' xs') (hne : e ≠ e') : ∀ g, v.ownBlock = some g → v'.ownBlock ≠ some g := by
  intro g hv hv'
  rcases h.2 with ⟨rfl, _⟩ | ⟨g1, cap, cur, rfl, _, hh, _⟩
  · simp [Value.ownBlock] at hv
  · rcases h'.2 with ⟨rfl, _⟩ | ⟨g2, cap2, cur2, rfl, _, hh2, _⟩
    · simp [Value.ownBlock] at hv'
    · have e1 : g1 = g := by simpa [Value.ownBlock] using hv
      have e2 : g2 = g := by simpa [Value.ownBlock] using hv'
      subst e1 e2
      rw [hh] at hh2
      injection hh2 with hh2
      injection hh2 with _ ht
      exact hne ht
theorem own_slice {w : World} {base : Nat} {e : TypeId} {size n : Nat} {v : Value} {xs : List Value} (h : w.ownsRow base e size v n xs) : ∃ q c, v = .slice q n c ∧ n ≤ c ∧ c ≤ maxLen := by
  rcases h.2 with ⟨rfl, h0⟩ | ⟨g, cap, cur, rfl, _, _, h1, h2, _⟩
  · exact ⟨none, 0, by rw [h0], by omega, by simp [maxLen]⟩
  · exact ⟨_, _, rfl, h1, h2⟩

/-- What a step leaves as it was. -/
def Fr (base b : Nat) (v : Value) (w w' : World) : Prop := (∀ g, g < w.heap.size → g ≠ b → some g ≠ v.ownBlock → w'.heap[g]? = w.heap[g]?) ∧ (∀ U, Kp U w → U.heap.size ≤ base → U.heap.size ≤ b → Kp U w')
theorem Fr.of_kp {base b : Nat} {v : Value} {w w' : World} (h : Kp w w') : Fr base b v w w' := ⟨fun g hg _ _ => h.block g hg, fun _ hU _ _ => hU.trans h⟩
theorem heap_set_ne (w : World) (b i : Nat) (u : Value) {g : Nat} (h : g ≠ b) : (w.setCell ⟨b, i, none⟩ u).heap[g]? = w.heap[g]? := Below.heap_setCell w ⟨b, i, none⟩ u g h
theorem Fr.set {base b : Nat} {v : Value} {w w' : World} (i : Nat) (u : Value) (hk : Kp (w.setCell ⟨b, i, none⟩ u) w') : Fr base b v w w' :=
  ⟨fun g hg h1 _ => (hk.block g (by rw [World.size_setCell]; exact hg)).trans (heap_set_ne w b i u h1), fun _ hU _ h2 => (hU.set h2 u).trans hk⟩

/-- A DatabaseInfo in memory: its servers lie in a row of the call's own. -/
structure Inf (base : Nat) (w : World) (b : Nat) (v : Value) (t : SrvSt) : Prop where
  blk : ∃ cs, Blk w b 72 cs ∧ cs[2]? = some v ∧ cs[3]? = some (.int .i64 (t.pos : Int))
  own : w.ownsRow base 75 3 v t.all.length (allC t.all)
  ok : ∀ s ∈ t.all, srvOk s.pr s.ad = true
theorem Inf.kp {base b : Nat} {v : Value} {t : SrvSt} {w w' : World} (h : Inf base w b v t) (hk : Kp w w') : Inf base w' b v t := by
  obtain ⟨⟨cs, h1, h2, h3⟩, ho, hs⟩ := h
  exact ⟨⟨cs, h1.kp hk, h2, h3⟩, own_below ho hk, hs⟩
theorem Inf.far {base b : Nat} {v : Value} {t : SrvSt} {w : World} (h : Inf base w b v t) : v.ownBlock ≠ some b := by
  obtain ⟨⟨cs, h1, _, _⟩, ho, _⟩ := h
  exact own_blk_ne ho h1 (by decide)
/-- Another row of another type is as it was. -/
theorem Inf.row {base b : Nat} {v : Value} {t : SrvSt} {w w' : World} (h : Inf base w b v t) (hf : Fr base b v w w') {B : Nat} {e : TypeId} {size n : Nat} {u : Value} {xs : List Value} (ho : w.ownsRow B e size u n xs) (h1 : e ≠ 72) (h2 : e ≠ 75) : w'.ownsRow B e size u n xs := by
  obtain ⟨⟨cs, hb, _, _⟩, hs, _⟩ := h
  exact own_heap ho fun g hg => hf.1 g (own_lt' ho g hg).2 (fun e => own_blk_ne ho hb h1 (by rw [hg, e])) (fun e => own_own_ne ho hs h2 g hg e.symm)
/-- The place of the active server is set. -/
theorem Inf.set {base b : Nat} {v : Value} {t : SrvSt} {w : World} (h : Inf base w b v t) (p : Nat) : Inf base (w.setCell ⟨b, 3, none⟩ (.int .i64 (p : Int))) b v ⟨t.all, p⟩ := by
  have hf := h.far
  obtain ⟨⟨cs, h1, h2, h3⟩, ho, hs⟩ := h
  refine ⟨⟨_, h1.set_ 3 _, ?_, ?_⟩, own_heap ho fun g hg => heap_set_ne w b 3 _ (fun e => hf (by rw [hg, e])), hs⟩
  · rw [Array.getElem?_setIfInBounds_ne (by decide)]; exact h2
  · obtain ⟨hl, _⟩ := Array.getElem?_eq_some_iff.1 h3
    rw [Array.getElem?_setIfInBounds_self_of_lt hl]
/-- The cells of a server. -/
theorem Inf.cells {base b : Nat} {v : Value} {t : SrvSt} {w : World} (h : Inf base w b v t) {r : Nat} (hr : r < t.all.length) : ∃ g cap, v = .slice (some ⟨g, 0, none⟩) t.all.length cap ∧ w.cell? ⟨g, r * 3, none⟩ = some (.string (t.all.getD r zS).pr) ∧ w.cell? ⟨g, r * 3 + 1, none⟩ = some (.string (t.all.getD r zS).ad) ∧ w.cell? ⟨g, r * 3 + 2, none⟩ = some (.int .i64 (t.all.getD r zS).po) := by
  obtain ⟨g, cap, rfl, _, _, _, _, hc⟩ := own_form h.own (show 0 < t.all.length by omega)
  exact ⟨g, cap, rfl, hc _ _ ((allC_at t.all r 0 hr (by decide)).trans rfl), hc _ _ ((allC_at t.all r 1 hr (by decide)).trans rfl), hc _ _ ((allC_at t.all r 2 hr (by decide)).trans rfl)⟩

theorem inf_add (base b : Nat) (v : Value) (t : SrvSt) (s : Srv) (w : World) (h : Inf base w b v t) (ho : srvOk s.pr s.ad = true) (hn : t.all.length ≤ 1000) (hbase : base ≤ w.heap.size) :
    Calls Tryd.prog 41 #[.pointer (some ⟨b, 0, none⟩), .agg #[.string s.pr, .string s.ad, .int .i64 s.po]] w fun e w' => e = .returned (.tuple #[]) ∧ ∃ v', Inf base w' b v' ⟨addS t.all s, t.pos⟩ ∧ Fr base b v w w' := by
  have hfar := h.far
  obtain ⟨q, c, rfl, _, _⟩ := own_slice h.own
  obtain ⟨⟨cs, h1, h2, h3⟩, hown, hok⟩ := h
  refine (addServer_any b t.all.length c base q cs (allC t.all) (fun r => t.all.getD r zS) s w h1 h2 hown hfar hbase (fun r hr => ⟨(allC_at t.all r 1 hr (by decide)).trans rfl, (allC_at t.all r 2 hr (by decide)).trans rfl, hok _ (getD_mem hr)⟩) ho hn).mono ?_
  rintro e w' ⟨rfl, hp⟩
  refine ⟨rfl, ?_⟩
  rcases hp with ⟨⟨r, hr, hs⟩, hk⟩ | ⟨hno, v', w5, rfl, hb5, ho5, hfr, hf5, hkp⟩
  · have ha : addS t.all s = t.all := by
      rw [addS, if_pos (List.any_eq_true.2 ⟨_, getD_mem hr, hs⟩)]
    rw [ha]
    exact ⟨_, ⟨⟨cs, h1.kp hk, h2, h3⟩, own_below hown hk, hok⟩, Fr.of_kp hk⟩
  · have ha : addS t.all s = t.all ++ [s] := by
      rw [addS, if_neg]
      intro hany
      obtain ⟨y, hy, e⟩ := List.any_eq_true.1 hany
      obtain ⟨r, hr, rfl⟩ := List.getElem_of_mem hy
      have := hno r hr
      rw [List.getD_eq_getElem?_getD, List.getElem?_eq_getElem hr, Option.getD_some] at this
      rw [this] at e
      cases e
    rw [ha]
    have hb6 := hb5.set_ 2 v'
    refine ⟨v', ⟨⟨_, hb6, ?_, ?_⟩, ?_, ?_⟩, ⟨fun g hg h1 h2 => (heap_set_ne w5 b 2 v' h1).trans (hf5 g hg h2), fun _ hU h1 h2 => (hkp _ hU h1).set h2 _⟩⟩
    · obtain ⟨hl, _⟩ := Array.getElem?_eq_some_iff.1 h2
      rw [Array.getElem?_setIfInBounds_self_of_lt hl]
    · rw [Array.getElem?_setIfInBounds_ne (by decide)]; exact h3
    · have e : (t.all ++ [s]).length = t.all.length + 1 := by simp
      rw [e, allC_snoc]
      exact own_heap ho5 fun g hg => heap_set_ne w5 b 2 v' (fun e => hfr (by rw [hg, e]))
    · intro x hx
      rcases List.mem_append.1 hx with hx | hx
      · exact hok x hx
      · rw [List.mem_singleton.1 hx]; exact ho

/-- What asking gives: nothing, or the address of a server. -/
def Gave (t : SrvSt) (k : Int) (s : Value) (w : World) : Prop := (t.gives k = false ∧ s = .pointer none) ∨ (t.gives k = true ∧ ∃ g o, s = .pointer (some ⟨g, o, none⟩) ∧ w.cell? ⟨g, o, none⟩ = some (.string (t.got k).pr) ∧ w.cell? ⟨g, o + 1, none⟩ = some (.string (t.got k).ad) ∧ w.cell? ⟨g, o + 2, none⟩ = some (.int .i64 (t.got k).po))
theorem inf_ask (base b : Nat) (v : Value) (t : SrvSt) (w : World) (h : Inf base w b v t) (hn : t.all.length ≤ 1000) (hp : t.pos ≤ 1000) :
    Calls Tryd.prog 43 #[.pointer (some ⟨b, 0, none⟩), .bool false] w fun e w' => ∃ s, e = .returned s ∧ Gave t 1 s w' ∧ Inf base w' b v t ∧ Fr base b v w w' := by
  have hI := h
  obtain ⟨q, c, rfl, _, _⟩ := own_slice h.own
  obtain ⟨⟨cs, h1, h2, h3⟩, hown, hok⟩ := h
  by_cases hlt : t.pos < t.all.length
  · obtain ⟨g, cap, e, c0, c1, c2⟩ := hI.cells hlt
    injection e with e1 _ e2
    refine (active_some b t.all.length c t.pos q g cs w h1 h2 h3 hp hn hlt e1).mono ?_
    rintro e w' ⟨rfl, hk⟩
    have hg : t.gives 1 = true := by simp [SrvSt.gives, hlt]
    have he : t.got 1 = t.all.getD t.pos zS := by simp [SrvSt.got, hg, SrvSt.at_]
    exact ⟨_, rfl, .inr ⟨hg, g, _, rfl, by rw [he]; exact below_some hk c0, by rw [he]; exact below_some hk c1, by rw [he]; exact below_some hk c2⟩, hI.kp hk, Fr.of_kp hk⟩
  · refine (active_none b t.all.length c t.pos q cs w h1 h2 h3 hp hn (by omega)).mono ?_
    rintro e w' ⟨rfl, hk⟩
    exact ⟨_, rfl, .inl ⟨by simp [SrvSt.gives]; omega, rfl⟩, hI.kp hk, Fr.of_kp hk⟩
theorem inf_jump (base b : Nat) (v : Value) (t : SrvSt) (w : World) (h : Inf base w b v t) (hn : t.all.length ≤ 1000) (hp : t.pos ≤ 1000) :
    Calls Tryd.prog 43 #[.pointer (some ⟨b, 0, none⟩), .bool true] w fun e w' => ∃ s, e = .returned s ∧ Gave t 2 s w' ∧ Inf base w' b v ⟨t.all, t.pos + 1⟩ ∧ Fr base b v w w' := by
  have hI := h
  obtain ⟨q, c, rfl, _, _⟩ := own_slice h.own
  obtain ⟨⟨cs, h1, h2, h3⟩, hown, hok⟩ := h
  have hJ := hI.set (t.pos + 1)
  by_cases hlt : t.pos + 1 < t.all.length
  · obtain ⟨g, cap, e, c0, c1, c2⟩ := hJ.cells (r := t.pos + 1) hlt
    injection e with e1 _ e2
    refine (jump_some b t.all.length c t.pos (t.pos + 1) (by omega) q g cs w h1 h2 h3 hp hn hlt e1).mono ?_
    rintro e w' ⟨rfl, hk⟩
    have hg : t.gives 2 = true := by simp [SrvSt.gives, hlt]
    have he : t.got 2 = t.all.getD (t.pos + 1) zS := by simp [SrvSt.got, hg, SrvSt.at_]
    exact ⟨_, rfl, .inr ⟨hg, g, _, rfl, by rw [he]; exact below_some hk c0, by rw [he]; exact below_some hk c1, by rw [he]; exact below_some hk c2⟩, hJ.kp hk, Fr.set 3 _ hk⟩
  · refine (jump_none b t.all.length c t.pos (t.pos + 1) (by omega) q cs w h1 h2 h3 hp hn (by omega)).mono ?_
    rintro e w' ⟨rfl, hk⟩
    exact ⟨_, rfl, .inl ⟨by simp [SrvSt.gives]; omega, rfl⟩, hJ.kp hk, Fr.set 3 _ hk⟩
theorem inf_reset (base b : Nat) (v : Value) (t : SrvSt) (w : World) (h : Inf base w b v t) :
    Calls Tryd.prog 44 #[.pointer (some ⟨b, 0, none⟩)] w fun e w' => e = .returned (.tuple #[]) ∧ Inf base w' b v ⟨t.all, 0⟩ ∧ Fr base b v w w' := by
  have hJ := h.set 0
  obtain ⟨⟨cs, h1, h2, h3⟩, hown, hok⟩ := h
  refine (reset_any b cs _ w h1 h3).mono ?_
  rintro e w' ⟨rfl, rfl⟩
  exact ⟨rfl, hJ, Fr.set 3 _ (Kp.refl _)⟩
end Go.Proofs.YtmojecgmneodlaaDoor
