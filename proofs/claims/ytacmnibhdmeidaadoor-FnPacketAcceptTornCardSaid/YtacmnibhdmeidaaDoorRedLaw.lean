/-
  FnPacketRedirect: the law returns true for every list of bytes.
-/
import Derived.Test.YtacmnibhdmeidaaDoorRedirect
import Derived.Test.YtacmnibhdmeidaaDoorSpecGet
import Derived.Test.YtacmnibhdmeidaaDoorData
namespace Go.Proofs.YtacmnibhdmeidaaDoor
open Go Go.RowKit

set_option maxRecDepth 100000 in
set_option maxHeartbeats 1000000 in
theorem packetHead_any (b : Nat) (off len ty fl : Int) (w : World) (c0 : w.cell? ⟨b, 0, none⟩ = some (.int .u16 off)) (c1 : w.cell? ⟨b, 1, none⟩ = some (.int .u32 len)) (c2 : w.cell? ⟨b, 2, none⟩ = some (.int .u8 ty)) (c3 : w.cell? ⟨b, 3, none⟩ = some (.int .u8 fl)) :
    Calls Tryd.prog 39 #[.pointer (some ⟨b, 0, none⟩)] w fun e w' => e = .returned (.tuple #[.int .u32 len, .int .u8 ty, .int .u8 fl, .int .u16 off]) ∧ ∃ n, w' = w.drewN n := by
  go_enter Tryd.func39, Tryd.ntmps39
  go_wp2
  go_quiet (fail)
  go_wp2
  exact bodyPost_ret (v := .tuple #[.int .u32 len, .int .u8 ty, .int .u8 fl, .int .u16 off]) (by simp [results, Tryd.results39, go_sem]) rfl ⟨rfl, nq, rfl⟩

/-- A head, as a value. -/
def headV (len ty fl off : Int) : Value := .agg #[.int .u32 len, .int .u8 ty, .int .u8 fl, .int .u16 off]

set_option maxRecDepth 100000 in
set_option maxHeartbeats 1000000 in
theorem headOf_any (b : Nat) (off len ty fl : Int) (w : World) (c0 : w.cell? ⟨b, 0, none⟩ = some (.int .u16 off)) (c1 : w.cell? ⟨b, 1, none⟩ = some (.int .u32 len)) (c2 : w.cell? ⟨b, 2, none⟩ = some (.int .u8 ty)) (c3 : w.cell? ⟨b, 3, none⟩ = some (.int .u8 fl)) :
    Calls Tryd.prog 23 #[.pointer (some ⟨b, 0, none⟩)] w fun e w' => e = .returned (headV len ty fl off) ∧ Below w.heap.size w w' := by
  have hb : b < w.heap.size := heap_lt_of_cell c0
  have C := Lib.hid (fun O => packetHead_any b off len ty fl (w.alloc O) (by rw [World.cell?_alloc_lt _ _ _ hb]; exact c0) (by rw [World.cell?_alloc_lt _ _ _ hb]; exact c1) (by rw [World.cell?_alloc_lt _ _ _ hb]; exact c2) (by rw [World.cell?_alloc_lt _ _ _ hb]; exact c3))
  clear c0 c1 c2 c3
  go_enter Tryd.func23, Tryd.ntmps23
  go_wp2_with fail
  refine (C.out _).mono ?_
  rintro e w1 ⟨rfl, n, rfl⟩
  clear C
  go_wp2_with fail
  have hb1 : Below w.heap.size w ((w.alloc (.cells #[.int .u32 0, .int .u8 0, .int .u8 0, .int .u16 0] 25)).drewN n) := below_drewN ((Below.refl _ _).alloc (Nat.le_refl _) _) n
  exact bodyPost_ret (v := .agg #[.int .u32 len, .int .u8 ty, .int .u8 fl, .int .u16 off]) (by simp [results, Tryd.results23, go_sem]) rfl ⟨rfl, (((hb1.setCell (Nat.le_refl _) _).setCell (Nat.le_refl _) _).setCell (Nat.le_refl _) _).setCell (Nat.le_refl _) _⟩

/-- The cells of a result that is a head, where nothing has been stored yet. -/
theorem zero_head {w : World} {g : Nat} {t : TypeId} (h : Blk w g t #[.int .u32 0, .int .u8 0, .int .u8 0, .int .u16 0]) :
    w.cell? ⟨g, 0, none⟩ = some (.int .u32 0) ∧ w.cell? ⟨g, 1, none⟩ = some (.int .u8 0) ∧ w.cell? ⟨g, 2, none⟩ = some (.int .u8 0) ∧ w.cell? ⟨g, 3, none⟩ = some (.int .u16 0) ∧
    w.frozen? ⟨g, 0, none⟩ = false ∧ w.frozen? ⟨g, 1, none⟩ = false ∧ w.frozen? ⟨g, 2, none⟩ = false ∧ w.frozen? ⟨g, 3, none⟩ = false :=
  ⟨h.cell 0, h.cell 1, h.cell 2, h.cell 3, h.frozen 0, h.frozen 1, h.frozen 2, h.frozen 3⟩

end Go.Proofs.YtacmnibhdmeidaaDoor
