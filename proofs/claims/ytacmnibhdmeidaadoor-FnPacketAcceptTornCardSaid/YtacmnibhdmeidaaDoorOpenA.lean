/-
  An argument that is a packet ACCEPT, opened.
-/
import Derived.Test.YtacmnibhdmeidaaDoorAcc4
import Derived.ChangeSlices
import Derived.ProofKit
import Derived.OpenShut
import Derived.ShutString
import Derived.ChangeArms
namespace Go.Proofs.YtacmnibhdmeidaaDoor
open Go Go.RowKit Go.ChangeShapes Go.WideShapes

section
variable {H : Type} {enc : TypeId × Value → H} {P : Program} {w : World} {base : Nat} {spare : Nat → Bool} {held : Bool}
theorem trod_fields {t : TypeId} {fs : Array Field} {fuel : Nat} {cs : List Value} {x : DataW H × List MemPlace} (hs : P.underlying t = some (.struct fs)) (h : DataW.trod enc P w base spare held fuel t cs = some x) :
    ∃ (n : Nat), ∀ (j ty off : Nat), fs[j]?.map (fun f => (f.type, f.offset)) = some (ty, off) → ∃ y, DataW.trod enc P w base spare held n ty ((cs.drop off).take (P.cellsOf ty)) = some y := by
  obtain ⟨ys, n, _, _, _, hyl, hj⟩ := DataW.trod_struct hs h
  refine ⟨n, fun j ty off hm => ?_⟩
  obtain ⟨f, hjf, hm⟩ := Option.map_eq_some_iff.1 hm
  simp only [Prod.mk.injEq] at hm
  obtain ⟨rfl, rfl⟩ := hm
  have hlt : j < ys.length := by rw [hyl]; exact (Array.getElem?_eq_some_iff.1 hjf).1
  exact ⟨_, (hj j f hjf).trans (List.getElem?_eq_getElem hlt)⟩
end
theorem cellsA : Tryd.prog.cellsOf 23 = 1 ∧ Tryd.prog.cellsOf 5 = 1 ∧ Tryd.prog.cellsOf 22 = 1 ∧ Tryd.prog.cellsOf 9 = 1 ∧ Tryd.prog.cellsOf 26 = 1 := ⟨by kernel_rfl, by kernel_rfl, by kernel_rfl, by kernel_rfl, by kernel_rfl⟩
set_option maxRecDepth 100000 in
theorem open_acc {H : Type} {enc : TypeId × Value → H} {w : World} {r : Reach} {base b0 : Nat} {held : Bool} {v : Value} {d : DataW H} {p : List MemPlace}
    (hv : Value.okWide Tryd.prog w r b0 28 v) (h : DataW.Trod enc Tryd.prog w base (fun _ => true) held 28 v d p) :
    ∃ (a : Ac) (q : Option Addr) (n c : Nat) (xs : List Int), v = .agg (a.cells (.slice q n c)) ∧ a.Ok ∧ a.adr.size ≤ maxLen ∧ Lib.BytesIn w q n xs ∧ xs.length = n ∧ (∀ x ∈ xs, 0 ≤ x ∧ x < 256) ∧ n ≤ c ∧ c ≤ maxLen := by
  obtain ⟨l, n, rfl, hl, hf⟩ := open_struct Tryd.underlying28 hv h
  rw [show Tryd.prog.cellsOf 28 = 13 from by kernel_rfl] at hl
  match l, hl with
  | [c0, c1, c2, c3, c4, c5, c6, c7, c8, c9, c10, c11, c12], _ =>
    obtain ⟨yh, hh⟩ := hf 0 25 0 rfl
    rw [show Tryd.prog.cellsOf 25 = 4 from by kernel_rfl] at hh
    obtain ⟨n', hg⟩ := trod_fields Tryd.underlying25 hh
    obtain ⟨y0, h0⟩ := hg 0 22 0 rfl
    obtain ⟨y1, h1⟩ := hg 1 5 1 rfl
    obtain ⟨y2, h2⟩ := hg 2 5 2 rfl
    obtain ⟨y3, h3⟩ := hg 3 23 3 rfl
    obtain ⟨y4, h4⟩ := hf 1 23 4 rfl
    obtain ⟨y5, h5⟩ := hf 2 23 5 rfl
    obtain ⟨y6, h6⟩ := hf 3 23 6 rfl
    obtain ⟨y7, h7⟩ := hf 4 5 7 rfl
    obtain ⟨y8, h8⟩ := hf 5 5 8 rfl
    obtain ⟨y9, h9⟩ := hf 6 22 9 rfl
    obtain ⟨y10, h10⟩ := hf 7 22 10 rfl
    obtain ⟨y11, h11⟩ := hf 8 9 11 rfl
    obtain ⟨y12, h12⟩ := hf 9 26 12 rfl
    obtain ⟨m0, e0, _, w0⟩ := DataW.trod_int Tryd.underlying22 h0
    obtain ⟨m1, e1, _, w1⟩ := DataW.trod_int Tryd.underlying5 h1
    obtain ⟨m2, e2, _, w2⟩ := DataW.trod_int Tryd.underlying5 h2
    obtain ⟨m3, e3, _, w3⟩ := DataW.trod_int Tryd.underlying23 h3
    obtain ⟨m4, e4, _, w4⟩ := DataW.trod_int Tryd.underlying23 h4
    obtain ⟨m5, e5, _, w5⟩ := DataW.trod_int Tryd.underlying23 h5
    obtain ⟨m6, e6, _, w6⟩ := DataW.trod_int Tryd.underlying23 h6
    obtain ⟨m7, e7, _, w7⟩ := DataW.trod_int Tryd.underlying5 h7
    obtain ⟨m8, e8, _, w8⟩ := DataW.trod_int Tryd.underlying5 h8
    obtain ⟨m9, e9, _, w9⟩ := DataW.trod_int Tryd.underlying22 h9
    obtain ⟨m10, e10, _, w10⟩ := DataW.trod_int Tryd.underlying22 h10
    obtain ⟨s11, e11, _, z11⟩ := DataW.trod_string Tryd.underlying9 h11
    obtain ⟨k1, k2, k3, k4, k5⟩ := cellsA
    simp only [k1, k2, k3, k4, k5, List.drop_succ_cons, List.drop_zero, List.take_succ_cons, List.take_zero, List.cons.injEq, and_true] at e0 e1 e2 e3 e4 e5 e6 e7 e8 e9 e10 e11 h12
    subst e0 e1 e2 e3 e4 e5 e6 e7 e8 e9 e10 e11
    have fin : ∃ q n c xs, c12 = .slice q n c ∧ Lib.BytesIn w q n xs ∧ xs.length = n ∧ (∀ x ∈ xs, 0 ≤ x ∧ x < 256) ∧ n ≤ c ∧ c ≤ maxLen := by
      rcases open_ints Tryd.underlying26 Tryd.underlying5 (by kernel_rfl) h12 with ⟨hcs, _⟩ | ⟨x, l, c, zs, hcs, _, hl, hm, hz, _, hcell, hwz⟩
      · obtain rfl : c12 = .slice none 0 0 := by simpa using hcs
        exact ⟨none, 0, 0, [], rfl, Lib.BytesIn.nil _ _ _, rfl, (fun _ h => absurd h List.not_mem_nil), Nat.le_refl _, Nat.zero_le _⟩
      · obtain rfl : c12 = .slice (some x) l c := by simpa using hcs
        have hz' : zs.length = c := by simpa using hz
        exact ⟨some x, l, c, zs.take l, rfl, Lib.BytesIn.of_cells (fun i hi => by rw [hcell i (by omega)]; simp [List.getD, hi]), by simp; omega, fun x hx => byte_of_wf (hwz x (List.mem_of_mem_take hx)), hl, hm⟩
    obtain ⟨q, n, c, xs, rfl, h1, h2, h3, h4, h5⟩ := fin
    exact ⟨⟨m0, m1, m2, m3, m4, m5, m6, m7, m8, m9, m10, s11⟩, q, n, c, xs, rfl, ⟨byte_of_wf w1, byte_of_wf w2, byte_of_wf w7, byte_of_wf w8, u32_of_wf w0, u16_of_wf w4, u16_of_wf w5, u16_of_wf w6, u32_of_wf w9, u32_of_wf w10⟩, z11, h1, h2, h3, h4, h5⟩
end Go.Proofs.YtacmnibhdmeidaaDoor
