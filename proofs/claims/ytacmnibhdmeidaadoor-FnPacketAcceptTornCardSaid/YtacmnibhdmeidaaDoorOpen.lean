/-
  Arguments that are structs by value, opened to their cells.
-/
import Derived.Test.YtacmnibhdmeidaaDoorData
import Derived.ProofKit
import Derived.ChangeArms
namespace Go.Proofs.YtacmnibhdmeidaaDoor
open Go Go.RowKit Go.ChangeShapes Go.WideShapes

theorem byte_of_wf {x : Int} (h : (Lit.int .u8 x).wf = true) : 0 ≤ x ∧ x < 256 := by
  have h1 : IntKind.u8.min = 0 := rfl
  have h2 : IntKind.u8.max = 255 := rfl
  simp [Lit.wf, h1, h2] at h
  omega
theorem u16_of_wf {x : Int} (h : (Lit.int .u16 x).wf = true) : 0 ≤ x ∧ x < 65536 := by
  have h1 : IntKind.u16.min = 0 := rfl
  have h2 : IntKind.u16.max = 65535 := rfl
  simp [Lit.wf, h1, h2] at h
  omega
theorem u32_of_wf {x : Int} (h : (Lit.int .u32 x).wf = true) : 0 ≤ x ∧ x < 4294967296 := by
  have h1 : IntKind.u32.min = 0 := rfl
  have h2 : IntKind.u32.max = 4294967295 := rfl
  simp [Lit.wf, h1, h2] at h
  omega

section
variable {H : Type} {enc : TypeId × Value → H} {P : Program} {w : World} {base : Nat} {spare : Nat → Bool} {held : Bool}
/-- A struct by value, whatever its fields: its cells, and each field's own reading. -/
theorem open_struct {r : Reach} {b0 : Nat} {t : TypeId} {fs : Array Field} {v : Value} {d : DataW H} {p : List MemPlace} (hs : P.underlying t = some (.struct fs))
    (hv : Value.okWide P w r b0 t v) (h : DataW.Trod enc P w base spare held t v d p) :
    ∃ (l : List Value) (n : Nat), v = .agg l.toArray ∧ l.length = P.cellsOf t ∧ ∀ (j ty off : Nat), fs[j]?.map (fun f => (f.type, f.offset)) = some (ty, off) → ∃ y, DataW.trod enc P w base spare held n ty ((l.drop off).take (P.cellsOf ty)) = some y := by
  obtain ⟨cs, rfl, hsz⟩ := okWide_struct hs hv
  obtain ⟨fuel, hf⟩ := h
  have hf' : DataW.trod enc P w base spare held fuel t cs.toList = some (d, p) := by simpa [Value.cells] using hf
  obtain ⟨ys, n, _, _, _, hyl, hj⟩ := DataW.trod_struct hs hf'
  refine ⟨cs.toList, n, by simp, by simpa using hsz, fun j ty off hm => ?_⟩
  obtain ⟨f, hjf, hm⟩ := Option.map_eq_some_iff.1 hm
  simp only [Prod.mk.injEq] at hm
  obtain ⟨rfl, rfl⟩ := hm
  have hlt : j < ys.length := by rw [hyl]; exact (Array.getElem?_eq_some_iff.1 hjf).1
  exact ⟨_, (hj j f hjf).trans (List.getElem?_eq_getElem hlt)⟩
end

theorem cells_cx : Tryd.prog.cellsOf 58 = 10 := by kernel_rfl
theorem cells_u16 : Tryd.prog.cellsOf 23 = 1 := by kernel_rfl
theorem cells_u8 : Tryd.prog.cellsOf 5 = 1 := by kernel_rfl
theorem cells_u32 : Tryd.prog.cellsOf 22 = 1 := by kernel_rfl
theorem cells_bool : Tryd.prog.cellsOf 4 = 1 := by kernel_rfl
set_option maxRecDepth 100000 in
theorem open_cx {H : Type} {enc : TypeId × Value → H} {w : World} {r : Reach} {base b0 : Nat} {spare : Nat → Bool} {held : Bool} {v : Value} {d : DataW H} {p : List MemPlace}
    (hv : Value.okWide Tryd.prog w r b0 58 v) (h : DataW.Trod enc Tryd.prog w base spare held 58 v d p) : ∃ c : Cx, v = c.val ∧ c.Ok := by
  obtain ⟨l, n, rfl, hl, hf⟩ := open_struct Tryd.underlying58 hv h
  rw [cells_cx] at hl
  match l, hl with
  | [c0, c1, c2, c3, c4, c5, c6, c7, c8, c9], _ =>
    obtain ⟨y0, h0⟩ := hf 0 23 0 rfl
    obtain ⟨y1, h1⟩ := hf 1 23 1 rfl
    obtain ⟨y2, h2⟩ := hf 2 23 2 rfl
    obtain ⟨y3, h3⟩ := hf 3 23 3 rfl
    obtain ⟨y4, h4⟩ := hf 4 23 4 rfl
    obtain ⟨y5, h5⟩ := hf 5 5 5 rfl
    obtain ⟨y6, h6⟩ := hf 6 5 6 rfl
    obtain ⟨y7, h7⟩ := hf 7 22 7 rfl
    obtain ⟨y8, h8⟩ := hf 8 22 8 rfl
    obtain ⟨y9, h9⟩ := hf 9 4 9 rfl
    obtain ⟨m0, e0, _, w0⟩ := DataW.trod_int Tryd.underlying23 h0
    obtain ⟨m1, e1, _, w1⟩ := DataW.trod_int Tryd.underlying23 h1
    obtain ⟨m2, e2, _, w2⟩ := DataW.trod_int Tryd.underlying23 h2
    obtain ⟨m3, e3, _, w3⟩ := DataW.trod_int Tryd.underlying23 h3
    obtain ⟨m4, e4, _, w4⟩ := DataW.trod_int Tryd.underlying23 h4
    obtain ⟨m5, e5, _, w5⟩ := DataW.trod_int Tryd.underlying5 h5
    obtain ⟨m6, e6, _, w6⟩ := DataW.trod_int Tryd.underlying5 h6
    obtain ⟨m7, e7, _, w7⟩ := DataW.trod_int Tryd.underlying22 h7
    obtain ⟨m8, e8, _, w8⟩ := DataW.trod_int Tryd.underlying22 h8
    obtain ⟨m9, e9, _⟩ := DataW.trod_bool Tryd.underlying4 h9
    simp only [cells_u16, cells_u8, cells_u32, cells_bool, List.drop_succ_cons, List.drop_zero, List.take_succ_cons, List.take_zero, List.cons.injEq, and_true] at e0 e1 e2 e3 e4 e5 e6 e7 e8 e9
    subst e0 e1 e2 e3 e4 e5 e6 e7 e8 e9
    exact ⟨⟨m0, m1, m2, m3, m4, m5, m6, m7, m8, m9⟩, rfl, ⟨u16_of_wf w0, u16_of_wf w1, u16_of_wf w2, u16_of_wf w3, u32_of_wf w7, u32_of_wf w8⟩⟩

set_option maxRecDepth 100000 in
theorem open_head {H : Type} {enc : TypeId × Value → H} {w : World} {r : Reach} {base b0 : Nat} {spare : Nat → Bool} {held : Bool} {v : Value} {d : DataW H} {p : List MemPlace}
    (hv : Value.okWide Tryd.prog w r b0 25 v) (h : DataW.Trod enc Tryd.prog w base spare held 25 v d p) : ∃ len ty fl off : Int, v = .agg #[.int .u32 len, .int .u8 ty, .int .u8 fl, .int .u16 off] ∧ (0 ≤ len ∧ len < 4294967296) ∧ (0 ≤ ty ∧ ty < 256) ∧ (0 ≤ fl ∧ fl < 256) := by
  obtain ⟨l, n, rfl, hl, hf⟩ := open_struct Tryd.underlying25 hv h
  rw [show Tryd.prog.cellsOf 25 = 4 from by kernel_rfl] at hl
  match l, hl with
  | [c0, c1, c2, c3], _ =>
    obtain ⟨y0, h0⟩ := hf 0 22 0 rfl
    obtain ⟨y1, h1⟩ := hf 1 5 1 rfl
    obtain ⟨y2, h2⟩ := hf 2 5 2 rfl
    obtain ⟨y3, h3⟩ := hf 3 23 3 rfl
    obtain ⟨m0, e0, _, w0⟩ := DataW.trod_int Tryd.underlying22 h0
    obtain ⟨m1, e1, _, w1⟩ := DataW.trod_int Tryd.underlying5 h1
    obtain ⟨m2, e2, _, w2⟩ := DataW.trod_int Tryd.underlying5 h2
    obtain ⟨m3, e3, _, w3⟩ := DataW.trod_int Tryd.underlying23 h3
    simp only [cells_u16, cells_u8, cells_u32, List.drop_succ_cons, List.drop_zero, List.take_succ_cons, List.take_zero, List.cons.injEq, and_true] at e0 e1 e2 e3
    subst e0 e1 e2 e3
    exact ⟨m0, m1, m2, m3, rfl, u32_of_wf w0, byte_of_wf w1, byte_of_wf w2⟩
end Go.Proofs.YtacmnibhdmeidaaDoor
