/-
  The reference's PacketAccept: printed by mkacc2.py.
-/
import Derived.Test.YtacmnibhdmeidaaDoorAcc1
namespace Go.Proofs.YtacmnibhdmeidaaDoor
open Go Go.RowKit

/-- The argument. -/
structure Ac where
  len : Int
  ty : Int
  fl : Int
  off : Int
  ver : Int
  neg : Int
  hist : Int
  a0 : Int
  a1 : Int
  su : Int
  tu : Int
  adr : ByteArray
def Ac.cells (a : Ac) (d : Value) : Array Value := #[.int .u32 a.len, .int .u8 a.ty, .int .u8 a.fl, .int .u16 a.off, .int .u16 a.ver, .int .u16 a.neg, .int .u16 a.hist, .int .u8 a.a0, .int .u8 a.a1, .int .u32 a.su, .int .u32 a.tu, .string a.adr, d]
structure Ac.Ok (a : Ac) : Prop where
  ty : 0 ≤ a.ty ∧ a.ty < 256
  fl : 0 ≤ a.fl ∧ a.fl < 256
  a0 : 0 ≤ a.a0 ∧ a.a0 < 256
  a1 : 0 ≤ a.a1 ∧ a.a1 < 256
  len : 0 ≤ a.len ∧ a.len < 4294967296
  ver : 0 ≤ a.ver ∧ a.ver < 65536
  neg : 0 ≤ a.neg ∧ a.neg < 65536
  hist : 0 ≤ a.hist ∧ a.hist < 65536
  su : 0 ≤ a.su ∧ a.su < 4294967296
  tu : 0 ≤ a.tu ∧ a.tu < 4294967296
/-- The bytes that are filled in, first those ahead of version 315's. -/
def accA (a : Ac) (n : Nat) (u v : Int) : List Int := (((setAll (setAll (setAll (setAll (setAll (setAll (setAll (((setAll (List.replicate 41 0) 0 (be2 a.len)).set 4 a.ty).set 5 a.fl) 8 (be2 a.ver)) 10 (be2 a.neg)) 12 (be2 u)) 14 (be2 v)) 16 (be2 a.hist)) 18 (be2 (n : Int))) 20 (be2 41)).set 22 a.a0).set 23 a.a1)
def accB (a : Ac) (n : Nat) (u v : Int) : List Int := setAll (setAll (accA a n u v) 32 (be4 a.su)) 36 (be4 a.tu)
/-- What is known of the 41 bytes. -/
structure Lay (L : List Int) (fl : Int) (n : Nat) : Prop where
  len : L.length = 41
  byte : ∀ x ∈ L, 0 ≤ x ∧ x < 256
  f5 : L.getD 5 0 = fl
  n18 : L.getD 18 0 = (n : Int) / 256 % 256
  n19 : L.getD 19 0 = (n : Int) % 256
  h20 : L.getD 20 0 = 0
  h21 : L.getD 21 0 = 41
  z28 : L.getD 28 0 = 0
  z29 : L.getD 29 0 = 0
  z30 : L.getD 30 0 = 0
  z31 : L.getD 31 0 = 0
def AllB (L : List Int) : Prop := ∀ x ∈ L, 0 ≤ x ∧ x < 256
theorem AllB.all {l vs : List Int} (h : AllB l) (o : Nat) (hv : ∀ x ∈ vs, IsByte x) : AllB (setAll l o vs) := setAll_mem vs l o h hv
theorem AllB.set1 {l : List Int} (h : AllB l) (i : Nat) {v : Int} (hv : 0 ≤ v ∧ v < 256) : AllB (l.set i v) := fun x hx => by
  rcases List.mem_or_eq_of_mem_set hx with hx | rfl
  · exact h x hx
  · exact hv
theorem accA_byte (a : Ac) (n : Nat) (u v : Int) (ok : a.Ok) : AllB (accA a n u v) := by
  have h0 : AllB (List.replicate 41 0) := fun x h => by rw [(List.mem_replicate.1 h).2]; exact ⟨by decide, by decide⟩
  exact (((((((((((h0.all 0 (be2_byte _)).set1 4 ok.ty).set1 5 ok.fl).all 8 (be2_byte _)).all 10 (be2_byte _)).all 12 (be2_byte _)).all 14 (be2_byte _)).all 16 (be2_byte _)).all 18 (be2_byte _)).all 20 (be2_byte _)).set1 22 ok.a0).set1 23 ok.a1
theorem accA_lay (a : Ac) (n : Nat) (u v : Int) (ok : a.Ok) : Lay (accA a n u v) a.fl n := ⟨by kernel_rfl, accA_byte a n u v ok, by kernel_rfl, by kernel_rfl, by kernel_rfl, by kernel_rfl, by kernel_rfl, by kernel_rfl, by kernel_rfl, by kernel_rfl, by kernel_rfl⟩
theorem accB_lay (a : Ac) (n : Nat) (u v : Int) (ok : a.Ok) : Lay (accB a n u v) a.fl n := ⟨by kernel_rfl, ((accA_byte a n u v ok).all 32 (be4_byte _)).all 36 (be4_byte _), by kernel_rfl, by kernel_rfl, by kernel_rfl, by kernel_rfl, by kernel_rfl, by kernel_rfl, by kernel_rfl, by kernel_rfl, by kernel_rfl⟩
abbrev BRow0 (w : World) (base : Nat) (v : Value) (n : Nat) (xs : List Int) : Prop := w.ownsRow base 5 1 v n (xs.map (Value.int .u8))
def AccPost (fl : Int) (n : Nat) (xs : List Int) (w : World) (e : Ending) (w' : World) : Prop := ∃ v, e = .returned v ∧ (∃ L, Lay L fl n ∧ BRow0 w' w.heap.size v (41 + n) (L ++ xs)) ∧ Kp w w'
theorem and65535 (x : Int) (h0 : 0 ≤ x) (h1 : x < 4294967296) : 0 ≤ bits .and .u32 x 65535 ∧ bits .and .u32 x 65535 < 65536 := by
  obtain ⟨n, rfl⟩ := Int.eq_ofNat_of_zero_le h0
  have e : bits .and .u32 (n : Int) ((65535 : Nat) : Int) = ((n &&& 65535 : Nat) : Int) := u32_and_nat n 65535 (by omega) (by omega)
  have h := Nat.and_le_right (n := n) (m := 65535)
  have e2 : bits .and .u32 (n : Int) 65535 = ((n &&& 65535 : Nat) : Int) := e
  rw [e2]
  omega
set_option maxRecDepth 100000 in
set_option maxHeartbeats 4000000 in
theorem specAccept_any (a : Ac) (p : Option Addr) (n c : Nat) (ad : Bool) (w : World) (ok : a.Ok) (hn : n ≤ 2000) (xs : List Int) (hi : Lib.BytesIn w p n xs) (hx : xs.length = n) :
    Calls Tryd.prog 7 #[.agg (a.cells (.slice p n c)), .bool ad] w (AccPost a.fl n xs w) := by
  have HI := Lib.hid hi
  have HX := Lib.hid hx
  have HK0 := Lib.hid ok
  clear hi hx
  have o1 := ok.len
  have o2 := ok.ver
  have o3 := ok.neg
  have o4 := ok.hist
  have o5 := ok.su
  have o6 := ok.tu
  have n0 : (n : Int) ≤ 2000 := by omega
  obtain ⟨u, hu⟩ : ∃ u, bits .and .u32 a.su 65535 = u := ⟨_, rfl⟩
  obtain ⟨v, hv⟩ : ∃ v, bits .and .u32 a.tu 65535 = v := ⟨_, rfl⟩
  have bu : 0 ≤ u ∧ u < 65536 := hu ▸ and65535 a.su o5.1 o5.2
  have bv : 0 ≤ v ∧ v < 65536 := hv ▸ and65535 a.tu o6.1 o6.2
  have mk : ∀ w : World, (Instr.makeSlice 26 (.int .i64 41) (.int .i64 41)).run Tryd.prog w = .ok (.slice (some ⟨w.heap.size, 0, none⟩) 41 41) (w.alloc (.cells (zeroA 41) 5)) := run_make_any .i64 .i64 41 (by omega)
  have h0 : PAs w (a.cells (.slice p n c)) (List.replicate 41 0) ((w.alloc (.cells (a.cells (.slice p n c)) 28)).alloc (.cells (zeroA 41) 5)) := by
    have hz := own_zero (w.alloc (.cells (a.cells (.slice p n c)) 28)) 41 41 5 (Nat.le_refl _) (by simp [maxLen])
    rw [World.size_alloc] at hz
    exact ⟨(Blk.new w _ _).alloc _, hz, ((Kp.refl w).alloc _).alloc _⟩
  have H0 := Lib.hid h0
  clear h0
  unfold Ac.cells at *
  go_enter Tryd.func7, Tryd.ntmps7
  go_wp2_with fail
  refine (H0.out.put2 0 a.len (by omega) (by omega) (by omega)).mono ?_
  rintro e w1 ⟨rfl, h1⟩
  have q1 : w1.cell? ⟨w.heap.size, 1, none⟩ = some (.int .u8 a.ty) := h1.1.cell 1
  have q2 : w1.cell? ⟨w.heap.size, 2, none⟩ = some (.int .u8 a.fl) := h1.1.cell 2
  have s4 := own_cell h1.2.1 4 (by omega)
  have s5 := own_cell h1.2.1 5 (by omega)
  have z4 := h1.2.1.frozenAt 4
  have z5 := h1.2.1.frozenAt 5
  have H1 := Lib.hid h1
  clear h1 H0 mk
  go_wp2_with fail
  go_region
  have h2 := ((H1.out.set 4 a.ty).set 5 a.fl).drew
  generalize World.drew _ = w2 at h2 ⊢
  have q1 : w2.cell? ⟨w.heap.size, 4, none⟩ = some (.int .u16 a.ver) := h2.1.cell 4
  have H2 := Lib.hid h2
  clear h2 H1 s4 s5 z4 z5 q2
  go_wp2_with fail
  refine (H2.out.put2 8 a.ver (by omega) (by omega) (by omega)).mono ?_
  rintro e w3 ⟨rfl, h3⟩
  have q1 : w3.cell? ⟨w.heap.size, 5, none⟩ = some (.int .u16 a.neg) := h3.1.cell 5
  have H3 := Lib.hid h3
  clear h3 H2
  go_wp2_with fail
  refine (H3.out.put2 10 a.neg (by omega) (by omega) (by omega)).mono ?_
  rintro e w4 ⟨rfl, h4⟩
  have q1 : w4.cell? ⟨w.heap.size, 9, none⟩ = some (.int .u32 a.su) := h4.1.cell 9
  have H4 := Lib.hid h4
  clear h4 H3
  go_wp2_with fail
  refine (H4.out.put2 12 u (by omega) (by omega) (by omega)).mono ?_
  rintro e w5 ⟨rfl, h5⟩
  have q1 : w5.cell? ⟨w.heap.size, 10, none⟩ = some (.int .u32 a.tu) := h5.1.cell 10
  have H5 := Lib.hid h5
  clear h5 H4
  go_wp2_with fail
  refine (H5.out.put2 14 v (by omega) (by omega) (by omega)).mono ?_
  rintro e w6 ⟨rfl, h6⟩
  have q1 : w6.cell? ⟨w.heap.size, 6, none⟩ = some (.int .u16 a.hist) := h6.1.cell 6
  have H6 := Lib.hid h6
  clear h6 H5
  go_wp2_with fail
  refine (H6.out.put2 16 a.hist (by omega) (by omega) (by omega)).mono ?_
  rintro e w7 ⟨rfl, h7⟩
  have q1 : w7.cell? ⟨w.heap.size, 12, none⟩ = some (.slice p n c) := h7.1.cell 12
  have H7 := Lib.hid h7
  clear h7 H6
  go_wp2_with fail
  refine (H7.out.put2 18 (n : Int) (by omega) (by omega) (by omega)).mono ?_
  rintro e w8 ⟨rfl, h8⟩
  have H8 := Lib.hid h8
  clear h8 H7
  go_wp2_with fail
  refine (H8.out.put2 20 41 (by omega) (by omega) (by omega)).mono ?_
  rintro e w9 ⟨rfl, h9⟩
  have q1 : w9.cell? ⟨w.heap.size, 7, none⟩ = some (.int .u8 a.a0) := h9.1.cell 7
  have q2 : w9.cell? ⟨w.heap.size, 8, none⟩ = some (.int .u8 a.a1) := h9.1.cell 8
  have s4 := own_cell h9.2.1 22 (by omega)
  have s5 := own_cell h9.2.1 23 (by omega)
  have z4 := h9.2.1.frozenAt 22
  have z5 := h9.2.1.frozenAt 23
  have H9 := Lib.hid h9
  clear h9 H8
  go_wp2_with fail
  go_region
  have h10 := ((H9.out.set 22 a.a0).set 23 a.a1).drew
  generalize World.drew _ = w10 at h10 ⊢
  have q1 : w10.cell? ⟨w.heap.size, 4, none⟩ = some (.int .u16 a.ver) := h10.1.cell 4
  have q2 : w10.cell? ⟨w.heap.size, 9, none⟩ = some (.int .u32 a.su) := h10.1.cell 9
  have H10 := Lib.hid h10
  clear h10 H9 s4 s5 z4 z5
  by_cases hv3 : 315 ≤ a.ver
  · go_wp2_with fail
    refine (H10.out.put4 32 a.su (by omega) (by omega) (by omega)).mono ?_
    rintro e w11 ⟨rfl, h11⟩
    have q1 : w11.cell? ⟨w.heap.size, 10, none⟩ = some (.int .u32 a.tu) := h11.1.cell 10
    have H11 := Lib.hid h11
    clear h11 H10 q2
    go_wp2_with fail
    refine (H11.out.put4 36 a.tu (by omega) (by omega) (by omega)).mono ?_
    rintro e w12 ⟨rfl, h12⟩
    have q1 : w12.cell? ⟨w.heap.size, 12, none⟩ = some (.slice p n c) := h12.1.cell 12
    have H12 := Lib.hid h12
    clear h12 H11
    obtain ⟨v1, wz, hrun, hov, hgr, _⟩ := run_append_bytes w12 (w.heap.size + 1) _ 41 _ H12.out.2.1 p n c xs (bin_kp HI.out H12.out.2.2) HX.out (by omega) (by have := (own_lt H12.out.2.1).2; omega)
    have HR := Lib.hid hrun
    have HO := Lib.hid (show ∃ L, Lay L a.fl n ∧ BRow0 wz w.heap.size v1 (41 + n) (L ++ xs) from ⟨accB a n u v, accB_lay a n u v HK0.out, own_base hov (by omega)⟩)
    have HK := Lib.hid (H12.out.2.2.grown hgr (fun k' hk' => by have := own_ge H12.out.2.1 k' hk'; omega))
    clear hrun hov hgr H12
    go_wp2_with (at_builtin; refine Lib.wpList_append_run _ rfl _ _ _ _ rfl _ _ rfl rfl _ _ HR.out ?_)
    go_ret
    exact ⟨v1, rfl, HO.out, HK.out⟩
  · have q3 : w10.cell? ⟨w.heap.size, 12, none⟩ = some (.slice p n c) := H10.out.1.cell 12
    obtain ⟨v1, wz, hrun, hov, hgr, _⟩ := run_append_bytes w10 (w.heap.size + 1) _ 41 _ H10.out.2.1 p n c xs (bin_kp HI.out H10.out.2.2) HX.out (by omega) (by have := (own_lt H10.out.2.1).2; omega)
    have HR := Lib.hid hrun
    have HO := Lib.hid (show ∃ L, Lay L a.fl n ∧ BRow0 wz w.heap.size v1 (41 + n) (L ++ xs) from ⟨accA a n u v, accA_lay a n u v HK0.out, own_base hov (by omega)⟩)
    have HK := Lib.hid (H10.out.2.2.grown hgr (fun k' hk' => by have := own_ge H10.out.2.1 k' hk'; omega))
    clear hrun hov hgr H10
    go_wp2_with (at_builtin; refine Lib.wpList_append_run _ rfl _ _ _ _ rfl _ _ rfl rfl _ _ HR.out ?_)
    go_ret
    exact ⟨v1, rfl, HO.out, HK.out⟩
end Go.Proofs.YtacmnibhdmeidaaDoor
