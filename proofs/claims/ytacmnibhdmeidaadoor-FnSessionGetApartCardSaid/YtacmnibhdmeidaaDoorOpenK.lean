/-
  An argument that is a slice of what to ask of a message, opened.
-/
import Derived.Test.YtacmnibhdmeidaaDoorAsk0
import Derived.Deep.Slices
import Derived.Deep.Fields
import Derived.ChangeSame
import Derived.ChangeSlices
import Derived.OpenShut
namespace Go.Proofs.YtacmnibhdmeidaaDoor
open Go Go.RowKit Go.ChangeShapes Go.WideShapes Go.Deep

section
variable {H : Type} {enc : TypeId × Value → H} {P : Program} {w : World} {base : Nat} {spare : Nat → Bool} {held : Bool}
theorem open_slice_fields {t e : TypeId} {fs : Array Field} {fuel : Nat} {cs : List Value} {x : DataW H × List MemPlace} (ht : P.underlying t = some (.slice e)) (he : P.underlying e = some (.struct fs))
    (hone : oneCellFields P fs = true) (hC : P.cellsOf e = fs.size) (h : DataW.trod enc P w base spare held fuel t cs = some x) :
    (cs = [.slice none 0 0] ∧ x = (.nil, [])) ∨
    ∃ (a : Addr) (len cap m : Nat) (D : Nat → DataW H) (Pl : Nat → List MemPlace), cs = [.slice (some a) len cap] ∧ base ≤ a.block ∧ len ≤ cap ∧ cap ≤ maxLen ∧ m = (if spare a.block then cap else len) ∧
      x = (.slice ((List.range len).map D) ((List.range (m - len)).map fun j => D (len + j)), MemPlace.row a (m * fs.size) ++ (List.range m).flatMap Pl) ∧
      ∀ i, i < m → ∃ (ys : List (DataW H × List MemPlace)) (n : Nat), D i = .agg (ys.map (·.1)) ∧ Pl i = ys.flatMap (·.2) ∧ ys.length = fs.size ∧
        ∀ (j : Nat) (f : Field), fs[j]? = some f → ∃ (v : Value) (y : DataW H × List MemPlace), w.cell? (a.add (i * fs.size + j)) = some v ∧ ys[j]? = some y ∧ DataW.trod enc P w base spare held n f.type [v] = some y := by
  rcases open_slice ht h with h0 | ⟨a, len, cap, m, n, D, Pl, hcs, hb, hl, hm, hmm, hx, hi⟩
  · exact .inl h0
  · refine .inr ⟨a, len, cap, m, D, Pl, hcs, hb, hl, hm, hmm, by rw [hC] at hx; exact hx, fun i him => ?_⟩
    obtain ⟨cs', hc, ht'⟩ := hi i him
    rw [hC] at hc
    obtain ⟨ys, n', hn', hy, hlen, hyl, hf⟩ := DataW.trod_struct he ht'
    obtain ⟨_, hcl, hat⟩ := World.cells?_some hc
    simp only [Prod.mk.injEq] at hy
    refine ⟨ys, n', hy.1, hy.2, hyl, fun j f hj => ?_⟩
    obtain ⟨ho, hk⟩ := hone_of hone j f hj
    have hjl : j < fs.size := (Array.getElem?_eq_some_iff.1 hj).1
    have hcell := hat j hjl
    have hv : cs'[j]? = some (cs'[j]'(by omega)) := List.getElem?_eq_getElem (by omega)
    have h1 := hf j f hj
    rw [ho, hk] at h1
    have hone' : (cs'.drop j).take 1 = [cs'[j]'(by omega)] := by
      rw [List.drop_eq_getElem_cons (by omega)]
      rfl
    rw [hone'] at h1
    have hys : ys[j]? = some (ys[j]'(by omega)) := List.getElem?_eq_getElem (by omega)
    refine ⟨_, _, ?_, hys, h1.trans hys⟩
    rw [← Go.Deep.add_add, hcell, hv]
end

theorem wf_kind {k : IntKind} {x : Int} (h : (Lit.int k x).wf = true) : k.min ≤ x ∧ x ≤ k.max := by
  simp [Lit.wf] at h
  omega
section
variable {H : Type} {enc : TypeId × Value → H} {w : World} {base : Nat} {held : Bool}
/-- A number of a field. -/
theorem field_nat {k : IntKind} {t : TypeId} {m : Nat} {fuel : Nat} {v : Value} {y : DataW H × List MemPlace} (ht : Tryd.prog.underlying t = some (.int k)) (h0 : k.min = 0) (hm : k.max = (m : Int) - 1) (h : DataW.trod enc Tryd.prog w base (fun _ => true) held fuel t [v] = some y) : ∃ x : Nat, v = .int k x ∧ x < m := by
  obtain ⟨x, hv, _, hw⟩ := DataW.trod_int ht h
  have h1 := wf_kind hw
  rw [h0, hm] at h1
  obtain ⟨n, rfl⟩ : ∃ n : Nat, x = n := ⟨x.toNat, by omega⟩
  exact ⟨n, by simpa using hv, by omega⟩
theorem field_bool {t : TypeId} {fuel : Nat} {v : Value} {y : DataW H × List MemPlace} (ht : Tryd.prog.underlying t = some .bool) (h : DataW.trod enc Tryd.prog w base (fun _ => true) held fuel t [v] = some y) : ∃ x : Bool, v = .bool x := by
  obtain ⟨x, hv, _⟩ := DataW.trod_bool ht h
  exact ⟨x, by simpa using hv⟩
theorem asksIn_open {fuel : Nat} {p : Option Addr} {n c : Nat} {x : DataW H × List MemPlace} (h : DataW.trod enc Tryd.prog w base (fun _ => true) held fuel 36 [.slice p n c] = some x) :
    ∃ P, AsksIn w p n P ∧ n ≤ c ∧ c ≤ maxLen := by
  rcases open_slice_fields Tryd.underlying36 Tryd.underlying80 (by kernel_rfl) (by kernel_rfl) h with ⟨hcs, _⟩ | ⟨a, len, cap, m, D, Pl, hcs, _, hl, hm, hmm, _, hf⟩
  · cases hcs
    exact ⟨fun _ => ⟨0, 0, false, false⟩, fun r hr => absurd hr (by omega), Nat.le_refl _, Nat.zero_le _⟩
  · cases hcs
    have hmc : m = c := by simpa using hmm
    subst hmc
    obtain ⟨b, o, s⟩ := a
    have key : ∀ r, ∃ s' : LAsk, r < n → (s = none ∧ (∀ j v, s'.cells[j]? = some v → w.cell? ⟨b, o + r * 4 + j, none⟩ = some v) ∧ s'.Ok) := fun r => by
      by_cases hr : r < n
      · obtain ⟨ys, nn, _, _, _, hfl⟩ := hf r (by omega)
        obtain ⟨v0, y0, c0, _, t0⟩ := hfl 0 _ rfl
        obtain ⟨v1, y1, c1, _, t1⟩ := hfl 1 _ rfl
        obtain ⟨v2, y2, c2, _, t2⟩ := hfl 2 _ rfl
        obtain ⟨v3, y3, c3, _, t3⟩ := hfl 3 _ rfl
        obtain ⟨x0, rfl, h0⟩ := field_nat (k := .u8) (m := 256) Tryd.underlying5 rfl rfl t0
        obtain ⟨x1, rfl, h1⟩ := field_nat (k := .u8) (m := 256) Tryd.underlying5 rfl rfl t1
        obtain ⟨x2, rfl⟩ := field_bool Tryd.underlying4 t2
        obtain ⟨x3, rfl⟩ := field_bool Tryd.underlying4 t3
        obtain rfl : s = none := by
          obtain ⟨_, _, _, _, _, hz⟩ := hf 0 (by omega)
          obtain ⟨_, _, cz, _⟩ := hz 0 _ rfl
          simpa [Addr.add] using World.cell?_spot cz
        have cc : ∀ j u, w.cell? ((⟨b, o, none⟩ : Addr).add (r * 4 + j)) = some u → w.cell? ⟨b, o + r * 4 + j, none⟩ = some u := fun j u hu => by
          rw [Go.WideShapes.add_plain, ← Nat.add_assoc] at hu; exact hu
        refine ⟨⟨x0, x1, x2, x3⟩, fun _ => ⟨rfl, fun j v hv => ?_, ⟨h0, h1⟩⟩⟩
        match j, hv with
        | 0, hv => cases hv; exact cc 0 _ c0
        | 1, hv => cases hv; exact cc 1 _ c1
        | 2, hv => cases hv; exact cc 2 _ c2
        | 3, hv => cases hv; exact cc 3 _ c3
        | j + 4, hv => cases hv
      · exact ⟨⟨0, 0, false, false⟩, fun h => absurd h hr⟩
    exact ⟨fun r => Classical.choose (key r), fun r hr => by
      obtain ⟨rfl, h1, h2⟩ := Classical.choose_spec (key r) hr
      exact ⟨b, o, rfl, h1, h2⟩, hl, hm⟩
end
end Go.Proofs.YtacmnibhdmeidaaDoor
