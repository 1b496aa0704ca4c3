/-
  A struct by value, opened field by field.
-/
import Derived.Test.YtaohgebiedkdaaaDoorKit
import Derived.ProofKit
import Derived.ChangeArms
namespace Go.Proofs.YtaohgebiedkdaaaDoor
open Go Go.RowKit Go.ChangeShapes Go.WideShapes

theorem byte_of_wf {x : Int} (h : (Lit.int .u8 x).wf = true) : 0 ≤ x ∧ x < 256 := by
  have h1 : IntKind.u8.min = 0 := rfl
  have h2 : IntKind.u8.max = 255 := rfl
  simp [Lit.wf, h1, h2] at h
  omega
theorem u16_of_wf {x : Int} (h : (Lit.int .u16 x).wf = true) : 0 ≤ x ∧ x < 65536 := by
  have h1 : IntKind.u16.min = 0 := rfl
  have h2 : IntKind.u16.max = 65535 := rfl
  simp [Lit.wf, h1, h2] at h
  omega
theorem u32_of_wf {x : Int} (h : (Lit.int .u32 x).wf = true) : 0 ≤ x ∧ x < 4294967296 := by
  have h1 : IntKind.u32.min = 0 := rfl
  have h2 : IntKind.u32.max = 4294967295 := rfl
  simp [Lit.wf, h1, h2] at h
  omega

section
variable {H : Type} {enc : TypeId × Value → H} {P : Program} {w : World} {base : Nat} {spare : Nat → Bool} {held : Bool}
/-- A struct by value, whatever its fields: its cells, and each field's own reading. -/
theorem open_struct {r : Reach} {b0 : Nat} {t : TypeId} {fs : Array Field} {v : Value} {d : DataW H} {p : List MemPlace} (hs : P.underlying t = some (.struct fs))
    (hv : Value.okWide P w r b0 t v) (h : DataW.Trod enc P w base spare held t v d p) :
    ∃ (l : List Value) (n : Nat), v = .agg l.toArray ∧ l.length = P.cellsOf t ∧ ∀ (j ty off : Nat), fs[j]?.map (fun f => (f.type, f.offset)) = some (ty, off) → ∃ y, DataW.trod enc P w base spare held n ty ((l.drop off).take (P.cellsOf ty)) = some y := by
  obtain ⟨cs, rfl, hsz⟩ := okWide_struct hs hv
  obtain ⟨fuel, hf⟩ := h
  have hf' : DataW.trod enc P w base spare held fuel t cs.toList = some (d, p) := by simpa [Value.cells] using hf
  obtain ⟨ys, n, _, _, _, hyl, hj⟩ := DataW.trod_struct hs hf'
  refine ⟨cs.toList, n, by simp, by simpa using hsz, fun j ty off hm => ?_⟩
  obtain ⟨f, hjf, hm⟩ := Option.map_eq_some_iff.1 hm
  simp only [Prod.mk.injEq] at hm
  obtain ⟨rfl, rfl⟩ := hm
  have hlt : j < ys.length := by rw [hyl]; exact (Array.getElem?_eq_some_iff.1 hjf).1
  exact ⟨_, (hj j f hjf).trans (List.getElem?_eq_getElem hlt)⟩
end
end Go.Proofs.YtaohgebiedkdaaaDoor
