/-
  An interval by value, opened to its cells.
-/
import Derived.Test.YtaohgebiedkdaaaDoorFnInterval
import Derived.Test.YtaohgebiedkdaaaDoorOpenS
namespace Go.Proofs.YtaohgebiedkdaaaDoor
open Go Go.RowKit Go.ChangeShapes Go.WideShapes

set_option maxRecDepth 100000 in
theorem open_iv {H : Type} {enc : TypeId × Value → H} {w : World} {r : Reach} {base b0 : Nat} {spare : Nat → Bool} {held : Bool} {v : Value} {d : DataW H} {p : List MemPlace}
    (hv : Value.okWide Tryd.prog w r b0 55 v) (h : DataW.Trod enc Tryd.prog w base spare held 55 v d p) : ∃ x : Iv, v = x.val := by
  obtain ⟨l, n, rfl, hl, hf⟩ := open_struct Tryd.underlying55 hv h
  rw [show Tryd.prog.cellsOf 55 = 8 from by kernel_rfl] at hl
  match l, hl with
  | [c0, c1, c2, c3, c4, c5, c6, c7], _ =>
    obtain ⟨y0, h0⟩ := hf 0 4 0 rfl
    obtain ⟨y1, h1⟩ := hf 1 3 1 rfl
    obtain ⟨y2, h2⟩ := hf 2 3 2 rfl
    obtain ⟨y3, h3⟩ := hf 3 3 3 rfl
    obtain ⟨y4, h4⟩ := hf 4 3 4 rfl
    obtain ⟨y5, h5⟩ := hf 5 3 5 rfl
    obtain ⟨y6, h6⟩ := hf 6 3 6 rfl
    obtain ⟨y7, h7⟩ := hf 7 3 7 rfl
    obtain ⟨m0, e0, _⟩ := DataW.trod_bool Tryd.underlying4 h0
    obtain ⟨m1, e1, _, w1⟩ := DataW.trod_int Tryd.underlying3 h1
    obtain ⟨m2, e2, _, w2⟩ := DataW.trod_int Tryd.underlying3 h2
    obtain ⟨m3, e3, _, w3⟩ := DataW.trod_int Tryd.underlying3 h3
    obtain ⟨m4, e4, _, w4⟩ := DataW.trod_int Tryd.underlying3 h4
    obtain ⟨m5, e5, _, w5⟩ := DataW.trod_int Tryd.underlying3 h5
    obtain ⟨m6, e6, _, w6⟩ := DataW.trod_int Tryd.underlying3 h6
    obtain ⟨m7, e7, _, w7⟩ := DataW.trod_int Tryd.underlying3 h7
    simp only [show Tryd.prog.cellsOf 3 = 1 from by kernel_rfl, show Tryd.prog.cellsOf 4 = 1 from by kernel_rfl, List.drop_succ_cons, List.drop_zero, List.take_succ_cons, List.take_zero, List.cons.injEq, and_true] at e0 e1 e2 e3 e4 e5 e6 e7
    subst e0 e1 e2 e3 e4 e5 e6 e7
    exact ⟨⟨m0, m1, m2, m3, m4, m5, m6, m7⟩, rfl⟩
end Go.Proofs.YtaohgebiedkdaaaDoor
