/-
  A session reads numbers: GetInt64, GetInt.
-/
import Derived.Test.YtacmnibhdmeidaaDoorSes1
import Derived.Laws.CopyRow
namespace Go.Proofs.YtacmnibhdmeidaaDoor
open Go Go.RowKit

theorem and128i_hi (v : Int) (h0 : 128 ≤ v) (h1 : v < 256) : bits .and .i64 v 128 = 128 := by
  obtain ⟨n, rfl⟩ := Int.eq_ofNat_of_zero_le (show 0 ≤ v by omega)
  have key : ∀ i : Fin 256, 128 ≤ i.val → bits .and .i64 (i.val : Int) 128 = 128 := by decide +kernel
  exact key ⟨n, by omega⟩ (show 128 ≤ n by omega)
theorem and128i_lo (v : Int) (h0 : 0 ≤ v) (h1 : v < 128) : bits .and .i64 v 128 = 0 := by
  obtain ⟨n, rfl⟩ := Int.eq_ofNat_of_zero_le h0
  have key : ∀ i : Fin 256, i.val < 128 → bits .and .i64 (i.val : Int) 128 = 0 := by decide +kernel
  exact key ⟨n, by omega⟩ (show n < 128 by omega)
theorem and127i_hi (v : Int) (h0 : 128 ≤ v) (h1 : v < 256) : bits .and .i64 v 127 = v - 128 := by
  obtain ⟨n, rfl⟩ := Int.eq_ofNat_of_zero_le (show 0 ≤ v by omega)
  have key : ∀ i : Fin 256, 128 ≤ i.val → bits .and .i64 (i.val : Int) 127 = (i.val : Int) - 128 := by decide +kernel
  exact key ⟨n, by omega⟩ (show 128 ≤ n by omega)

def rowA (l : List Int) : Array Value := (l.map (Value.int .u8)).toArray
/-- Eight zeros (a name, so that the walk leaves them). -/
def z8 : List Int := List.replicate 8 0
theorem z8_length : z8.length = 8 := rfl
theorem made8 (w : World) : (Instr.makeSlice 26 (.int .i64 8) (.int .i64 8)).run Tryd.prog w = .ok (.slice (some ⟨w.heap.size, 0, none⟩) 8 8) (w.alloc (.cells (rowA z8) 5)) := by
  have := run_make_bytes .i64 .i64 8 8 (by omega) (by omega) w
  exact this
theorem info1 : (Tryd.prog.info? 5).map (·.size) = some 1 := by kernel_rfl
/-- copy into a row that is known whole. -/
theorem copy_row (w : World) (g o dl dc : Nat) (q : Addr) (k m : Nat) (cur ys : List Int) (hB : w.heap[g]? = some (.cells (rowA cur) 5 (0, 0))) (hk : k ≤ dl) (hfit : o + k ≤ cur.length) (hy : ys.length = k) (hin : Lib.BytesIn w (some q) k ys) :
    (Builtin.copy_ #[26, 26] 3 #[.slice (some ⟨g, o, none⟩) dl dc, .slice (some q) k m]).run Tryd.prog w = .ok (.int .i64 k) (w.setRow g (rowA (cur.take o ++ ys ++ cur.drop (o + k)))) := by
  have h := run_copy_row (P := Tryd.prog) w 26 26 3 5 g o dl dc q k m (rowA cur) 5 (ys.map (Value.int .u8)) Tryd.underlying26 info1 hB (by rw [List.length_map, hy]; exact (Nat.min_eq_left hk).symm)
    (fun j v hj => by
      have hj' : j < ys.length := by have := (List.getElem?_eq_some_iff.1 hj).1; simpa using this
      obtain ⟨b, o', he, hc⟩ := hin (by omega)
      injection he with he
      subst he
      rw [Go.WideShapes.add_plain, hc j (by omega)]
      simpa [List.getD, List.getElem?_eq_getElem hj'] using hj) (by simp [rowA, hy]; exact hfit) (fun v hv => by obtain ⟨x, _, rfl⟩ := List.mem_map.1 hv; rfl)
  rw [h]
  simp [rowA, goInt, hy]

theorem below_setRow {B : Nat} {a w : World} (h : Below B a w) {g : Nat} (hg : B ≤ g) (cs : Array Value) : Below B a (w.setRow g cs) :=
  ⟨h.os, h.tape, h.output, by simpa using h.size, fun i hi => (setRow_other w g i cs (by omega)).trans (h.block i hi)⟩
theorem copy_new (w : World) (o : Nat) (q : Addr) (k m : Nat) (ys : List Int) (dl dc : Nat) (hd : k ≤ dl) (hk : o + k ≤ 8) (hy : ys.length = k) (hin : Lib.BytesIn w (some q) k ys) :
    ∃ w', (Builtin.copy_ #[26, 26] 3 #[.slice (some ⟨w.heap.size, o, none⟩) dl dc, .slice (some q) k m]).run Tryd.prog (w.alloc (.cells (rowA z8) 5)) = .ok (.int .i64 k) w' ∧
      Blk w' w.heap.size 5 (rowA (z8.take o ++ ys ++ z8.drop (o + k))) ∧ Below w.heap.size w w' := by
  have HB := Blk.new w 5 (rowA z8)
  exact ⟨_, copy_row (w.alloc (.cells (rowA z8) 5)) w.heap.size o dl dc q k m z8 ys HB hd (by rw [z8_length]; exact hk) hy (bin_alloc hin _), setRow_heap _ _ _ _ _ _ HB, below_setRow ((Below.refl _ w).alloc (Nat.le_refl _) _) (Nat.le_refl _) _⟩
theorem z8_byte {o k : Nat} {ys : List Int} (h : ∀ x ∈ ys, 0 ≤ x ∧ x < 256) : ∀ x ∈ z8.take o ++ ys ++ z8.drop (o + k), 0 ≤ x ∧ x < 256 := fun x hx => by
  have hz : ∀ y ∈ z8, 0 ≤ y ∧ y < 256 := by decide
  rcases List.mem_append.1 hx with hx | hx
  · rcases List.mem_append.1 hx with hx | hx
    · exact hz x (List.mem_of_mem_take hx)
    · exact h x hx
  · exact hz x (List.mem_of_mem_drop hx)
theorem z8_len {o k : Nat} {ys : List Int} (hy : ys.length = k) (h : o + k ≤ 8) : (z8.take o ++ ys ++ z8.drop (o + k)).length = 8 := by
  simp [z8_length, hy]; omega
theorem z8_be {k : Nat} (ys : List Int) (h : k ≤ 8) : Lib.beZ (z8.take (8 - k) ++ ys ++ z8.drop (8 - k + k)) = Lib.beZ ys := by
  rw [List.drop_eq_nil_of_le (by rw [z8_length]; omega), List.append_nil, show z8.take (8 - k) = List.replicate (8 - k) 0 from by unfold z8; rw [List.take_replicate]; congr 1; omega, beZ_zero]
theorem z8_le {k : Nat} (ys : List Int) (h : k ≤ 8) : Lib.leZ (z8.take 0 ++ ys ++ z8.drop (0 + k)) = Lib.leZ ys := by
  rw [List.take_zero, List.nil_append, show z8.drop (0 + k) = List.replicate (8 - k) 0 from by unfold z8; rw [List.drop_replicate]; congr 1; omega, leZ_append_zero]

theorem wf_u8 {x : Int} (h : 0 ≤ x ∧ x < 256) : (Lit.int .u8 x).wf = true := by
  have h1 : IntKind.u8.min = 0 := rfl
  have h2 : IntKind.u8.max = 255 := rfl
  simp [Lit.wf, h1, h2]
  omega
theorem row_cells {w : World} {g : Nat} {l : List Int} {t : TypeId} (h : Blk w g t (rowA l)) : ∀ i, i < l.length → w.cell? ((⟨g, 0, none⟩ : Addr).add i) = some (.int .u8 (l.getD i 0)) := fun i hi => by
  rw [Go.WideShapes.add_plain, Nat.zero_add, h.cell i]
  simp [rowA, List.getD, List.getElem?_eq_getElem hi]
theorem beU64 (g : Nat) (zs : List Int) (w : World) (hl : zs.length = 8) (hz : ∀ x ∈ zs, 0 ≤ x ∧ x < 256) (h : Blk w g 5 (rowA zs)) :
    Calls Tryd.prog 76 #[.agg #[], .slice (some ⟨g, 0, none⟩) 8 8] w fun e w' => e = .returned (.int .u64 (Lib.beZ zs)) ∧ Below w.heap.size w w' := by
  have := Tryd.binary_BE_Uint64_z ⟨g, 0, none⟩ 8 8 zs w (by omega) (by omega) (row_cells h) (fun z hz' => wf_u8 (hz z hz'))
  rwa [List.take_of_length_le (by omega)] at this
theorem leU64 (g : Nat) (zs : List Int) (w : World) (hl : zs.length = 8) (hz : ∀ x ∈ zs, 0 ≤ x ∧ x < 256) (h : Blk w g 5 (rowA zs)) :
    Calls Tryd.prog 77 #[.agg #[], .slice (some ⟨g, 0, none⟩) 8 8] w fun e w' => e = .returned (.int .u64 (Lib.leZ zs)) ∧ Below w.heap.size w w' := by
  have := Tryd.binary_LE_Uint64_z ⟨g, 0, none⟩ 8 8 zs w (by omega) (by omega) (row_cells h) (fun z hz' => wf_u8 (hz z hz'))
  rwa [List.take_of_length_le (by omega)] at this

set_option maxRecDepth 100000 in
set_option maxHeartbeats 2000000 in
theorem getInt64_pos (g : Nat) (p : Option Addr) (n c : Nat) (xs : List Int) (big be0 : Bool) (i : Nat) (sz b : Int) (t : List Int) (s : Nat) (w : World) (h : RS w g p n c xs big i) (hx : xs.drop i = b :: t) (hb : b = s) (h0 : 0 < s) (h8 : s ≤ 8) (hs : s ≤ t.length) :
    Calls Tryd.prog 54 #[.pointer (some ⟨g, 0, none⟩), .int .i64 sz, .bool true, .bool be0] w (GotN g p n c xs big .i64 (t.drop s) (w64 (Lib.beZ (t.take s))) w) := by
  subst hb
  have hl : i + 1 + s ≤ n := by
    have := congrArg List.length hx
    simp at this
    have := h.len
    omega
  have hr : xs.drop (i + 1) = t := by rw [← List.drop_drop, hx]; rfl
  have hb1 : (xs.drop i).take 1 = [(s : Int)] := by rw [hx]; rfl
  have C0 := read_any g p n c xs big i 1 w h (by omega)
  rw [hr, hb1] at C0
  have C := Lib.hid C0
  have D := Lib.hid (fun (i' : Nat) (w1 : World) (h1 : RS w1 g p n c xs big i') (ht : t = xs.drop i') => show Calls Tryd.prog 75 #[.pointer (some ⟨g, 0, none⟩), .int .i64 (s : Int)] w1 (GotR g p n c xs big (t.drop s) (t.take s) w1) from by
    have hlt : i' + s ≤ n := by
      have := congrArg List.length ht
      simp at this
      have := h1.len
      omega
    have := read_any g p n c xs big i' s w1 h1 hlt
    rw [← List.drop_drop, ← ht] at this
    exact this)
  have x1 := and128i_lo (s : Int) (by omega) (by omega)
  have i0 : (0 : Int) < (s : Int) := by omega
  have i1 : (s : Int) ≤ 8 := by omega
  have e0 : ((s : Int) == 0) = false := by simp; omega
  have e1 : (8 - (s : Int)).toNat = 8 - s := by omega
  have e2 : 8 - (8 - s) = s := by omega
  have e3 : (8 = 8 - s) = False := by simp; omega
  have MK := made8
  have HT := Lib.hid (show ∀ x ∈ t.take s, 0 ≤ x ∧ x < 256 from fun x hx' => h.byt x (List.mem_of_mem_drop (i := i + 1) (by rw [hr]; exact List.mem_of_mem_take hx')))
  have HS := Lib.hid hs
  have H8 := Lib.hid h8
  have H0 := Lib.hid h0
  clear C0 h hl hr hb1 hx hs h8 h0
  go_enter Tryd.func54, Tryd.ntmps54
  go_wp2_with fail
  refine C.out.mono ?_
  rintro e w1 ⟨q, k', m, i', rfl, hk', hin, hmm, hm2, hqq, hR, hri, hg1⟩
  obtain rfl : k' = 1 := hk'.symm
  obtain ⟨g1, o1, rfl, hc⟩ := hin (by simp)
  have c0 : w1.cell? ⟨g1, o1, none⟩ = some (.int .u8 (s : Int)) := hc 0 (by simp)
  have HR1 := Lib.hid hR
  have HRI := Lib.hid hri
  have HG1 := Lib.hid hg1
  clear hk' hc hin hmm hm2 hqq hR hri hg1 C
  go_wp2_with fail
  refine (D.out i' _ HR1.out HRI.out).mono ?_
  rintro e w2 ⟨q, k', m, i2, rfl, hk', hin, hmm, hm2, hqq, hR, hri, hg2⟩
  rw [List.length_take, Nat.min_eq_left HS.out] at hk'
  subst hk'
  obtain ⟨g2, o2, rfl, hc⟩ := hin H0.out
  have HIN := Lib.hid hin
  have HR2 := Lib.hid hR
  have HRI2 := Lib.hid hri
  have HG2 := Lib.hid hg2
  obtain ⟨w3, CP, hb3, hk3⟩ := copy_new w2 (8 - s) ⟨g2, o2, none⟩ s m (t.take s) s s (Nat.le_refl _) (by have := H8.out; omega) (by rw [List.length_take, Nat.min_eq_left HS.out]) HIN.out
  have HB3 := Lib.hid hb3
  have HK3 := Lib.hid hk3
  clear hin hc hmm hm2 hqq hR hri hg2 c0 hb3 hk3
  go_wp2_with fail
  refine (beU64 w2.heap.size _ _ (z8_len (o := 8 - s) (k := s) (by rw [List.length_take, Nat.min_eq_left HS.out]) (by have := H8.out; omega)) (z8_byte (o := 8 - s) (k := s) HT.out) (by exact HB3.out)).mono ?_
  rintro e w4 ⟨rfl, hb4⟩
  have HK4 := Lib.hid hb4
  rw [z8_be _ H8.out]
  clear hb4
  go_wp2_with fail
  go_ret2
  have hk : Kp w2 w4 := (Kp.trans (w := w2) HK3.out (show Kp w3 w4 from HK4.out))
  exact ⟨i2, rfl, HR2.out.kp hk, HRI2.out, grown_trans (grown_trans HG1.out HG2.out) (grown_below hk _)⟩

set_option maxRecDepth 100000 in
set_option maxHeartbeats 2000000 in
theorem getInt64_neg (g : Nat) (p : Option Addr) (n c : Nat) (xs : List Int) (big be0 : Bool) (i : Nat) (sz b : Int) (t : List Int) (s : Nat) (w : World) (h : RS w g p n c xs big i) (hx : xs.drop i = b :: t) (hb : b = (s : Int) + 128) (h0 : 0 < s) (h8 : s ≤ 8) (hs : s ≤ t.length) :
    Calls Tryd.prog 54 #[.pointer (some ⟨g, 0, none⟩), .int .i64 sz, .bool true, .bool be0] w (GotN g p n c xs big .i64 (t.drop s) (w64 (-(w64 (Lib.beZ (t.take s))))) w) := by
  subst hb
  have hl : i + 1 + s ≤ n := by
    have := congrArg List.length hx
    simp at this
    have := h.len
    omega
  have hr : xs.drop (i + 1) = t := by rw [← List.drop_drop, hx]; rfl
  have hb1 : (xs.drop i).take 1 = [(s : Int) + 128] := by rw [hx]; rfl
  have C0 := read_any g p n c xs big i 1 w h (by omega)
  rw [hr, hb1] at C0
  have C := Lib.hid C0
  have D := Lib.hid (fun (i' : Nat) (w1 : World) (h1 : RS w1 g p n c xs big i') (ht : t = xs.drop i') => show Calls Tryd.prog 75 #[.pointer (some ⟨g, 0, none⟩), .int .i64 (s : Int)] w1 (GotR g p n c xs big (t.drop s) (t.take s) w1) from by
    have hlt : i' + s ≤ n := by
      have := congrArg List.length ht
      simp at this
      have := h1.len
      omega
    have := read_any g p n c xs big i' s w1 h1 hlt
    rw [← List.drop_drop, ← ht] at this
    exact this)
  have x1 := and128i_hi ((s : Int) + 128) (by omega) (by omega)
  have x2 := and127i_hi ((s : Int) + 128) (by omega) (by omega)
  have x3 : (s : Int) + 128 - 128 = (s : Int) := by omega
  have i0 : (0 : Int) < (s : Int) := by omega
  have i1 : (s : Int) ≤ 8 := by omega
  have e0 : ((s : Int) == 0) = false := by simp; omega
  have e1 : (8 - (s : Int)).toNat = 8 - s := by omega
  have e2 : 8 - (8 - s) = s := by omega
  have e3 : (8 = 8 - s) = False := by simp; omega
  have MK := made8
  have HT := Lib.hid (show ∀ x ∈ t.take s, 0 ≤ x ∧ x < 256 from fun x hx' => h.byt x (List.mem_of_mem_drop (i := i + 1) (by rw [hr]; exact List.mem_of_mem_take hx')))
  have HS := Lib.hid hs
  have H8 := Lib.hid h8
  have H0 := Lib.hid h0
  clear C0 h hl hr hb1 hx hs h8 h0
  go_enter Tryd.func54, Tryd.ntmps54
  go_wp2_with fail
  refine C.out.mono ?_
  rintro e w1 ⟨q, k', m, i', rfl, hk', hin, hmm, hm2, hqq, hR, hri, hg1⟩
  obtain rfl : k' = 1 := hk'.symm
  obtain ⟨g1, o1, rfl, hc⟩ := hin (by simp)
  have c0 : w1.cell? ⟨g1, o1, none⟩ = some (.int .u8 ((s : Int) + 128)) := hc 0 (by simp)
  have HR1 := Lib.hid hR
  have HRI := Lib.hid hri
  have HG1 := Lib.hid hg1
  clear hk' hc hin hmm hm2 hqq hR hri hg1 C
  go_wp2_with fail
  refine (D.out i' _ HR1.out HRI.out).mono ?_
  rintro e w2 ⟨q, k', m, i2, rfl, hk', hin, hmm, hm2, hqq, hR, hri, hg2⟩
  rw [List.length_take, Nat.min_eq_left HS.out] at hk'
  subst hk'
  obtain ⟨g2, o2, rfl, hc⟩ := hin H0.out
  have HIN := Lib.hid hin
  have HR2 := Lib.hid hR
  have HRI2 := Lib.hid hri
  have HG2 := Lib.hid hg2
  obtain ⟨w3, CP, hb3, hk3⟩ := copy_new w2 (8 - s) ⟨g2, o2, none⟩ s m (t.take s) s s (Nat.le_refl _) (by have := H8.out; omega) (by rw [List.length_take, Nat.min_eq_left HS.out]) HIN.out
  have HB3 := Lib.hid hb3
  have HK3 := Lib.hid hk3
  clear hin hc hmm hm2 hqq hR hri hg2 c0 hb3 hk3
  go_wp2_with fail
  refine (beU64 w2.heap.size _ _ (z8_len (o := 8 - s) (k := s) (by rw [List.length_take, Nat.min_eq_left HS.out]) (by have := H8.out; omega)) (z8_byte (o := 8 - s) (k := s) HT.out) (by exact HB3.out)).mono ?_
  rintro e w4 ⟨rfl, hb4⟩
  have HK4 := Lib.hid hb4
  rw [z8_be _ H8.out]
  clear hb4
  go_wp2_with fail
  go_ret2
  have hk : Kp w2 w4 := (Kp.trans (w := w2) HK3.out (show Kp w3 w4 from HK4.out))
  exact ⟨i2, rfl, HR2.out.kp hk, HRI2.out, grown_trans (grown_trans HG1.out HG2.out) (grown_below hk _)⟩

set_option maxRecDepth 100000 in
set_option maxHeartbeats 2000000 in
theorem getInt64_zero (g : Nat) (p : Option Addr) (n c : Nat) (xs : List Int) (big be0 : Bool) (i : Nat) (sz b : Int) (t : List Int) (w : World) (h : RS w g p n c xs big i) (hx : xs.drop i = b :: t) (hb : b = 0 ∨ b = 128) :
    Calls Tryd.prog 54 #[.pointer (some ⟨g, 0, none⟩), .int .i64 sz, .bool true, .bool be0] w (GotN g p n c xs big .i64 t 0 w) := by
  have hl : i + 1 ≤ n := by
    have := congrArg List.length hx
    simp at this
    have := h.len
    omega
  have hr : xs.drop (i + 1) = t := by rw [← List.drop_drop, hx]; rfl
  have hb1 : (xs.drop i).take 1 = [b] := by rw [hx]; rfl
  have C0 := read_any g p n c xs big i 1 w h (by omega)
  rw [hr, hb1] at C0
  have C := Lib.hid C0
  clear C0 h hl hr hb1 hx
  rcases hb with rfl | rfl
  all_goals
    have x1 := and128i_hi 128 (by decide) (by decide)
    have x2 := and127i_hi 128 (by decide) (by decide)
    have x3 := and128i_lo 0 (by decide) (by decide)
    go_enter Tryd.func54, Tryd.ntmps54
    go_wp2_with fail
    refine C.out.mono ?_
    rintro e w1 ⟨q, k', m, i', rfl, hk', hin, hmm, hm2, hqq, hR, hri, hg1⟩
    obtain rfl : k' = 1 := hk'.symm
    obtain ⟨g1, o1, rfl, hc⟩ := hin (by simp)
    have HC := Lib.hid (hc 0 (by simp))
    have HR1 := Lib.hid hR
    have HRI := Lib.hid hri
    have HG1 := Lib.hid hg1
    clear hk' hc hin hmm hm2 hqq hR hri hg1 C
  · have c0 : w1.cell? ⟨g1, o1, none⟩ = some (.int .u8 0) := HC.out
    go_wp2_with fail
    go_ret2
    exact ⟨i', rfl, HR1.out, HRI.out, HG1.out⟩
  · have c0 : w1.cell? ⟨g1, o1, none⟩ = some (.int .u8 128) := HC.out
    go_wp2_with fail
    go_ret2
    exact ⟨i', rfl, HR1.out, HRI.out, HG1.out⟩

set_option maxRecDepth 100000 in
set_option maxHeartbeats 2000000 in
theorem getInt64_be (g : Nat) (p : Option Addr) (n c : Nat) (xs : List Int) (big : Bool) (i : Nat) (t : List Int) (s : Nat) (w : World) (h : RS w g p n c xs big i) (hx : xs.drop i = t) (h0 : 0 < s) (h8 : s ≤ 8) (hs : s ≤ t.length) :
    Calls Tryd.prog 54 #[.pointer (some ⟨g, 0, none⟩), .int .i64 (s : Int), .bool false, .bool true] w (GotN g p n c xs big .i64 (t.drop s) (w64 (Lib.beZ (t.take s))) w) := by
  have D := Lib.hid (show Calls Tryd.prog 75 #[.pointer (some ⟨g, 0, none⟩), .int .i64 (s : Int)] w (GotR g p n c xs big (t.drop s) (t.take s) w) from by
    have hlt : i + s ≤ n := by
      have := congrArg List.length hx
      simp at this
      have := h.len
      omega
    have := read_any g p n c xs big i s w h hlt
    rw [← List.drop_drop, hx] at this
    exact this)
  have i0 : (0 : Int) < (s : Int) := by omega
  have i1 : (s : Int) ≤ 8 := by omega
  have e0 : ((s : Int) == 0) = false := by simp; omega
  have e1 : (8 - (s : Int)).toNat = 8 - s := by omega
  have e2 : 8 - (8 - s) = s := by omega
  have e3 : (8 = 8 - s) = False := by simp; omega
  have MK := made8
  have HT := Lib.hid (show ∀ x ∈ t.take s, 0 ≤ x ∧ x < 256 from fun x hx' => h.byt x (List.mem_of_mem_drop (i := i) (by rw [hx]; exact List.mem_of_mem_take hx')))
  have HS := Lib.hid hs
  have H8 := Lib.hid h8
  have H0 := Lib.hid h0
  clear h hx hs h8 h0
  go_enter Tryd.func54, Tryd.ntmps54
  go_wp2_with fail
  refine D.out.mono ?_
  rintro e w2 ⟨q, k', m, i2, rfl, hk', hin, hmm, hm2, hqq, hR, hri, hg2⟩
  rw [List.length_take, Nat.min_eq_left HS.out] at hk'
  subst hk'
  obtain ⟨g2, o2, rfl, hc⟩ := hin H0.out
  have HIN := Lib.hid hin
  have HR2 := Lib.hid hR
  have HRI2 := Lib.hid hri
  have HG2 := Lib.hid hg2
  obtain ⟨w3, CP, hb3, hk3⟩ := copy_new w2 (8 - s) ⟨g2, o2, none⟩ s m (t.take s) s s (Nat.le_refl _) (by have := H8.out; omega) (by rw [List.length_take, Nat.min_eq_left HS.out]) HIN.out
  have HB3 := Lib.hid hb3
  have HK3 := Lib.hid hk3
  clear hin hc hmm hm2 hqq hR hri hg2 hb3 hk3
  go_wp2_with fail
  refine (beU64 w2.heap.size _ _ (z8_len (o := 8 - s) (k := s) (by rw [List.length_take, Nat.min_eq_left HS.out]) (by have := H8.out; omega)) (z8_byte (o := 8 - s) (k := s) HT.out) (by exact HB3.out)).mono ?_
  rintro e w4 ⟨rfl, hb4⟩
  have HK4 := Lib.hid hb4
  rw [z8_be _ H8.out]
  clear hb4
  go_wp2_with fail
  go_ret2
  have hk : Kp w2 w4 := (Kp.trans (w := w2) HK3.out (show Kp w3 w4 from HK4.out))
  exact ⟨i2, rfl, HR2.out.kp hk, HRI2.out, grown_trans HG2.out (grown_below hk _)⟩

set_option maxRecDepth 100000 in
set_option maxHeartbeats 2000000 in
theorem getInt64_le (g : Nat) (p : Option Addr) (n c : Nat) (xs : List Int) (big : Bool) (i : Nat) (t : List Int) (s : Nat) (w : World) (h : RS w g p n c xs big i) (hx : xs.drop i = t) (h0 : 0 < s) (h8 : s ≤ 8) (hs : s ≤ t.length) :
    Calls Tryd.prog 54 #[.pointer (some ⟨g, 0, none⟩), .int .i64 (s : Int), .bool false, .bool false] w (GotN g p n c xs big .i64 (t.drop s) (w64 (Lib.leZ (t.take s))) w) := by
  have D := Lib.hid (show Calls Tryd.prog 75 #[.pointer (some ⟨g, 0, none⟩), .int .i64 (s : Int)] w (GotR g p n c xs big (t.drop s) (t.take s) w) from by
    have hlt : i + s ≤ n := by
      have := congrArg List.length hx
      simp at this
      have := h.len
      omega
    have := read_any g p n c xs big i s w h hlt
    rw [← List.drop_drop, hx] at this
    exact this)
  have i0 : (0 : Int) < (s : Int) := by omega
  have i1 : (s : Int) ≤ 8 := by omega
  have e0 : ((s : Int) == 0) = false := by simp; omega
  have e1 : (8 - (s : Int)).toNat = 8 - s := by omega
  have e2 : 8 - (8 - s) = s := by omega
  have e3 : (8 = 8 - s) = False := by simp; omega
  have MK := made8
  have HT := Lib.hid (show ∀ x ∈ t.take s, 0 ≤ x ∧ x < 256 from fun x hx' => h.byt x (List.mem_of_mem_drop (i := i) (by rw [hx]; exact List.mem_of_mem_take hx')))
  have HS := Lib.hid hs
  have H8 := Lib.hid h8
  have H0 := Lib.hid h0
  clear h hx hs h8 h0
  go_enter Tryd.func54, Tryd.ntmps54
  go_wp2_with fail
  refine D.out.mono ?_
  rintro e w2 ⟨q, k', m, i2, rfl, hk', hin, hmm, hm2, hqq, hR, hri, hg2⟩
  rw [List.length_take, Nat.min_eq_left HS.out] at hk'
  subst hk'
  obtain ⟨g2, o2, rfl, hc⟩ := hin H0.out
  have HIN := Lib.hid hin
  have HR2 := Lib.hid hR
  have HRI2 := Lib.hid hri
  have HG2 := Lib.hid hg2
  obtain ⟨w3, CP, hb3, hk3⟩ := copy_new w2 0 ⟨g2, o2, none⟩ s m (t.take s) s 8 (Nat.le_refl _) (by have := H8.out; omega) (by rw [List.length_take, Nat.min_eq_left HS.out]) HIN.out
  have HB3 := Lib.hid hb3
  have HK3 := Lib.hid hk3
  clear hin hc hmm hm2 hqq hR hri hg2 hb3 hk3
  go_wp2_with fail
  refine (leU64 w2.heap.size _ _ (z8_len (o := 0) (k := s) (by rw [List.length_take, Nat.min_eq_left HS.out]) (by have := H8.out; omega)) (z8_byte (o := 0) (k := s) HT.out) (by exact HB3.out)).mono ?_
  rintro e w4 ⟨rfl, hb4⟩
  have HK4 := Lib.hid hb4
  rw [z8_le _ H8.out]
  clear hb4
  go_wp2_with fail
  go_ret2
  have hk : Kp w2 w4 := (Kp.trans (w := w2) HK3.out (show Kp w3 w4 from HK4.out))
  exact ⟨i2, rfl, HR2.out.kp hk, HRI2.out, grown_trans HG2.out (grown_below hk _)⟩

/-- GetInt64, a compressed number. -/
theorem getInt64_packed (g : Nat) (p : Option Addr) (n c : Nat) (xs : List Int) (big be0 : Bool) (i : Nat) (sz x : Int) (r : List Int) (w : World) (h : RS w g p n c xs big i) (hx : RdPacked (xs.drop i) x r) :
    Calls Tryd.prog 54 #[.pointer (some ⟨g, 0, none⟩), .int .i64 sz, .bool true, .bool be0] w (GotN g p n c xs big .i64 r x w) := by
  obtain ⟨b, t, hbt, h8, hl, rfl, rfl⟩ := hx
  have hb := h.byt b (List.mem_of_mem_drop (i := i) (by rw [hbt]; simp))
  rcases Nat.eq_zero_or_pos (b % 128).toNat with h0 | h0
  · have := getInt64_zero g p n c xs big be0 i sz b t w h hbt (by omega)
    rw [h0]
    simp only [List.take_zero, List.drop_zero]
    have e : Lib.beZ [] = 0 := rfl
    have e1 : w64 0 = 0 := w64_in (by omega) (by omega)
    have e2 : -(0 : Int) = 0 := rfl
    simp only [e, e1, e2, ite_self]
    exact this
  · by_cases h128 : 128 ≤ b
    · rw [if_pos h128]
      exact getInt64_neg g p n c xs big be0 i sz b t (b % 128).toNat w h hbt (by omega) h0 h8 hl
    · rw [if_neg h128]
      exact getInt64_pos g p n c xs big be0 i sz b t (b % 128).toNat w h hbt (by omega) h0 h8 hl
/-- GetInt64, any number. -/
theorem getInt64_any (g : Nat) (p : Option Addr) (n c : Nat) (xs : List Int) (big comp be0 : Bool) (i s : Nat) (x : Int) (r : List Int) (w : World) (h : RS w g p n c xs big i) (hs : comp = false → 0 < s ∧ s ≤ 8) (hx : RdInt s comp be0 (xs.drop i) x r) :
    Calls Tryd.prog 54 #[.pointer (some ⟨g, 0, none⟩), .int .i64 (s : Int), .bool comp, .bool be0] w (GotN g p n c xs big .i64 r x w) := by
  unfold RdInt at hx
  cases comp
  · obtain ⟨h0, h8⟩ := hs rfl
    obtain ⟨hl, rfl, rfl⟩ := hx
    unfold valB
    cases be0
    · exact getInt64_le g p n c xs big i _ s w h rfl h0 h8 hl
    · exact getInt64_be g p n c xs big i _ s w h rfl h0 h8 hl
  · exact getInt64_packed g p n c xs big be0 i _ x r w h hx

theorem getInt_packed (g : Nat) (p : Option Addr) (n c : Nat) (xs : List Int) (big be0 : Bool) (i : Nat) (sz x : Int) (r : List Int) (w : World) (h : RS w g p n c xs big i) (hx : RdPacked (xs.drop i) x r) :
    Calls Tryd.prog 55 #[.pointer (some ⟨g, 0, none⟩), .int .i64 sz, .bool true, .bool be0] w (GotN g p n c xs big .i64 r x w) := by
  have C := Lib.hid (getInt64_packed g p n c xs big be0 i sz x r w h hx)
  clear h hx
  go_enter Tryd.func55, Tryd.ntmps55
  go_wp2_with fail
  refine C.out.mono ?_
  rintro e w1 ⟨i', rfl, H⟩
  have HH := Lib.hid H
  clear H
  go_wp2_with fail
  go_ret2
  exact ⟨i', rfl, HH.out⟩
theorem getInt_any (g : Nat) (p : Option Addr) (n c : Nat) (xs : List Int) (big comp be0 : Bool) (i s : Nat) (x : Int) (r : List Int) (w : World) (h : RS w g p n c xs big i) (hs : comp = false → 0 < s ∧ s ≤ 8) (hx : RdInt s comp be0 (xs.drop i) x r) :
    Calls Tryd.prog 55 #[.pointer (some ⟨g, 0, none⟩), .int .i64 (s : Int), .bool comp, .bool be0] w (GotN g p n c xs big .i64 r x w) := by
  have C := Lib.hid (getInt64_any g p n c xs big comp be0 i s x r w h hs hx)
  clear h hs hx
  go_enter Tryd.func55, Tryd.ntmps55
  go_wp2_with fail
  refine C.out.mono ?_
  rintro e w1 ⟨i', rfl, H⟩
  have HH := Lib.hid H
  clear H
  go_wp2_with fail
  go_ret2
  exact ⟨i', rfl, HH.out⟩
end Go.Proofs.YtacmnibhdmeidaaDoor
