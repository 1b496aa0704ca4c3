/-
  Numbers that a session writes in bytes of a size: PutInt, PutUint, WriteUint; bytes: PutBytes.
-/
import Derived.Test.YtacmnibhdmeidaaDoorSes3
namespace Go.Proofs.YtacmnibhdmeidaaDoor
open Go Go.RowKit

/-- So many zeros (a name, so that the walk leaves them). -/
def zz (k : Nat) : List Int := List.replicate k 0
theorem zz_length (k : Nat) : (zz k).length = k := by simp [zz]
theorem plain1 (big : Bool) (v : Nat) (h : v < 256) : plain 1 big v = [(v : Int)] := by
  have e : ((v % 256 : Nat) : Int) = v := by omega
  cases big <;> simp [plain, be, le] <;> omega
theorem made_u8_2 (w : World) : (Instr.makeSlice 26 (.int .u8 2) (.int .u8 2)).run Tryd.prog w = .ok (.slice (some ⟨w.heap.size, 0, none⟩) 2 2) (w.alloc (.cells (rowA (zz 2)) 5)) := run_make_bytes .u8 .u8 2 2 (by omega) (by omega) w
theorem made_u8_4 (w : World) : (Instr.makeSlice 26 (.int .u8 4) (.int .u8 4)).run Tryd.prog w = .ok (.slice (some ⟨w.heap.size, 0, none⟩) 4 4) (w.alloc (.cells (rowA (zz 4)) 5)) := run_make_bytes .u8 .u8 4 4 (by omega) (by omega) w
theorem made_u8_8 (w : World) : (Instr.makeSlice 26 (.int .u8 8) (.int .u8 8)).run Tryd.prog w = .ok (.slice (some ⟨w.heap.size, 0, none⟩) 8 8) (w.alloc (.cells (rowA (zz 8)) 5)) := run_make_bytes .u8 .u8 8 8 (by omega) (by omega) w
set_option maxRecDepth 100000 in
set_option maxHeartbeats 4000000 in
theorem putint_one (R : Nat → Option Value) (g : Nat) (bg  : Bool) (v : Nat) (out : List Int) (row : Option Nat) (w : World) (h : BufP w 94 R g 1 out row) (hv : v < 256) (hlim : out.length ≤ 1000000000000) :
    Calls Tryd.prog 42 #[.pointer (some ⟨g, 0, none⟩), .iface 2 (.int .i64 (v : Int)), .int .u8 1, .bool bg, .bool false] w (Wrote 94 R g 1 (out ++ plain 1 bg v) row (.tuple #[]) w) := by
  rw [plain1 bg v hv]
  have A0 := as_int64_int64
  have i0 : (0 : Int) ≤ (v : Int) := by omega
  have i1 : (v : Int) < 256 := by omega
  have HW := Lib.hid (byte_any 94 R g 1 out (v : Int) row w h (by omega))
  clear h hlim hv
  go_enter Tryd.func42, Tryd.ntmps42
  go_wp2_with fail
  refine HW.out.mono ?_
  rintro e w4 ⟨row', rfl, hb⟩
  have HB := Lib.hid hb
  clear hb
  go_wp2_with fail
  go_end0
  exact ⟨row', rfl, HB.out⟩

set_option maxRecDepth 100000 in
set_option maxHeartbeats 4000000 in
theorem putuint_one (R : Nat → Option Value) (g : Nat) (bg cb : Bool) (v : Nat) (out : List Int) (row : Option Nat) (w : World) (h : BufP w 94 R g 1 out row) (hv : v < 256) (hlim : out.length ≤ 1000000000000) :
    Calls Tryd.prog 43 #[.pointer (some ⟨g, 0, none⟩), .iface 60 (.int .u64 (v : Int)), .int .u8 1, .bool bg, .bool cb] w (Wrote 94 R g 1 (out ++ plain 1 bg v) row (.tuple #[]) w) := by
  rw [plain1 bg v hv]
  have A0 := as_uint64_int64
  have A1 := as_uint64_int32
  have A2 := as_uint64_int16
  have A3 := as_uint64_int8
  have A4 := as_uint64_uint64
  have i0 : (0 : Int) ≤ (v : Int) := by omega
  have i1 : (v : Int) < 256 := by omega
  have HW := Lib.hid (byte_any 94 R g 1 out (v : Int) row w h (by omega))
  clear h hlim hv
  go_enter Tryd.func43, Tryd.ntmps43
  go_wp2_with fail
  refine HW.out.mono ?_
  rintro e w4 ⟨row', rfl, hb⟩
  have HB := Lib.hid hb
  clear hb
  go_wp2_with fail
  refine bodyPost_ret (results_none rfl _ _ _) rfl ?_
  exact ⟨row', rfl, HB.out⟩

set_option maxRecDepth 100000 in
set_option maxHeartbeats 4000000 in
theorem putint_be2 (R : Nat → Option Value) (g : Nat) (v : Nat) (out : List Int) (row : Option Nat) (w : World) (h : BufP w 94 R g 1 out row) (hv : v < 65536) (hlim : out.length ≤ 1000000000000) :
    Calls Tryd.prog 42 #[.pointer (some ⟨g, 0, none⟩), .iface 2 (.int .i64 (v : Int)), .int .u8 2, .bool true, .bool false] w (Wrote 94 R g 1 (out ++ be 2 v) row (.tuple #[]) w) := by
  have A0 := as_int64_int64
  have MK := made_u8_2
  have hg := h.lt
  have H := Lib.hid h
  have HLIM := Lib.hid hlim
  have HV := Lib.hid hv
  have i0 : (0 : Int) ≤ (v : Int) := by omega
  have i1 : (v : Int) ≤ 65535 := by omega
  clear h hlim hv
  go_enter Tryd.func42, Tryd.ntmps42
  go_wp2_with fail
  refine (put_be2 w.heap.size v (zz 2) _ (by have := HV.out; omega) (Blk.new _ _ _) (zz_length 2)).mono ?_
  rintro e w2 ⟨rfl, hb2, hg2⟩
  have hk2 : Kp w w2 := Below.grown ((Kp.refl w).alloc _) hg2 (by simp) (fun k hk => by injection hk; omega)
  have HB2 := Lib.hid hb2
  have HK2 := Lib.hid hk2
  clear hb2 hg2 hk2
  go_wp2_with fail
  have hne : w.heap.size ≠ g := by omega
  refine (write_any 94 R g 1 out (be 2 v) row _ _ _ w2 (H.out.kp HK2.out) (be_length 2 v) (by have := HLIM.out; omega) (fun _ => ⟨w.heap.size, 0, rfl, fun i hi => row_at HB2.out i (by rw [be_length]; exact hi)⟩) (fun a ha => by injection ha with ha; subst ha; exact hne)).mono ?_
  rintro e w5 ⟨row2, rfl, hb, hst⟩
  have HB5 := Lib.hid hb
  have HST5 := Lib.hid hst
  clear hb hst
  go_wp2_with fail
  go_end0
  exact ⟨row2, rfl, HB5.out, (Stp.of_kp HK2.out).trans HST5.out⟩

set_option maxRecDepth 100000 in
set_option maxHeartbeats 4000000 in
theorem putuint_be2 (R : Nat → Option Value) (g : Nat) (v : Nat) (out : List Int) (row : Option Nat) (w : World) (h : BufP w 94 R g 1 out row) (hv : v < 65536) (hlim : out.length ≤ 1000000000000) :
    Calls Tryd.prog 43 #[.pointer (some ⟨g, 0, none⟩), .iface 60 (.int .u64 (v : Int)), .int .u8 2, .bool true, .bool false] w (Wrote 94 R g 1 (out ++ be 2 v) row (.tuple #[]) w) := by
  have A0 := as_uint64_int64
  have A1 := as_uint64_int32
  have A2 := as_uint64_int16
  have A3 := as_uint64_int8
  have A4 := as_uint64_uint64
  have MK := made_u8_2
  have hg := h.lt
  have H := Lib.hid h
  have HLIM := Lib.hid hlim
  have HV := Lib.hid hv
  have i0 : (0 : Int) ≤ (v : Int) := by omega
  have i1 : (v : Int) ≤ 65535 := by omega
  clear h hlim hv
  go_enter Tryd.func43, Tryd.ntmps43
  go_wp2_with fail
  refine (put_be2 w.heap.size v (zz 2) _ (by have := HV.out; omega) (Blk.new _ _ _) (zz_length 2)).mono ?_
  rintro e w2 ⟨rfl, hb2, hg2⟩
  have hk2 : Kp w w2 := Below.grown ((Kp.refl w).alloc _) hg2 (by simp) (fun k hk => by injection hk; omega)
  have HB2 := Lib.hid hb2
  have HK2 := Lib.hid hk2
  clear hb2 hg2 hk2
  go_wp2_with fail
  have hne : w.heap.size ≠ g := by omega
  refine (write_any 94 R g 1 out (be 2 v) row _ _ _ w2 (H.out.kp HK2.out) (be_length 2 v) (by have := HLIM.out; omega) (fun _ => ⟨w.heap.size, 0, rfl, fun i hi => row_at HB2.out i (by rw [be_length]; exact hi)⟩) (fun a ha => by injection ha with ha; subst ha; exact hne)).mono ?_
  rintro e w5 ⟨row2, rfl, hb, hst⟩
  have HB5 := Lib.hid hb
  have HST5 := Lib.hid hst
  clear hb hst
  go_wp2_with fail
  go_end0
  exact ⟨row2, rfl, HB5.out, (Stp.of_kp HK2.out).trans HST5.out⟩

set_option maxRecDepth 100000 in
set_option maxHeartbeats 4000000 in
theorem putint_le2 (R : Nat → Option Value) (g : Nat) (v : Nat) (out : List Int) (row : Option Nat) (w : World) (h : BufP w 94 R g 1 out row) (hv : v < 65536) (hlim : out.length ≤ 1000000000000) :
    Calls Tryd.prog 42 #[.pointer (some ⟨g, 0, none⟩), .iface 2 (.int .i64 (v : Int)), .int .u8 2, .bool false, .bool false] w (Wrote 94 R g 1 (out ++ le 2 v) row (.tuple #[]) w) := by
  have A0 := as_int64_int64
  have MK := made_u8_2
  have hg := h.lt
  have H := Lib.hid h
  have HLIM := Lib.hid hlim
  have HV := Lib.hid hv
  have i0 : (0 : Int) ≤ (v : Int) := by omega
  have i1 : (v : Int) ≤ 65535 := by omega
  clear h hlim hv
  go_enter Tryd.func42, Tryd.ntmps42
  go_wp2_with fail
  refine (put_le2 w.heap.size v (zz 2) _ (by have := HV.out; omega) (Blk.new _ _ _) (zz_length 2)).mono ?_
  rintro e w2 ⟨rfl, hb2, hg2⟩
  have hk2 : Kp w w2 := Below.grown ((Kp.refl w).alloc _) hg2 (by simp) (fun k hk => by injection hk; omega)
  have HB2 := Lib.hid hb2
  have HK2 := Lib.hid hk2
  clear hb2 hg2 hk2
  go_wp2_with fail
  have hne : w.heap.size ≠ g := by omega
  refine (write_any 94 R g 1 out (le 2 v) row _ _ _ w2 (H.out.kp HK2.out) (le_length 2 v) (by have := HLIM.out; omega) (fun _ => ⟨w.heap.size, 0, rfl, fun i hi => row_at HB2.out i (by rw [le_length]; exact hi)⟩) (fun a ha => by injection ha with ha; subst ha; exact hne)).mono ?_
  rintro e w5 ⟨row2, rfl, hb, hst⟩
  have HB5 := Lib.hid hb
  have HST5 := Lib.hid hst
  clear hb hst
  go_wp2_with fail
  go_end0
  exact ⟨row2, rfl, HB5.out, (Stp.of_kp HK2.out).trans HST5.out⟩

set_option maxRecDepth 100000 in
set_option maxHeartbeats 4000000 in
theorem putuint_le2 (R : Nat → Option Value) (g : Nat) (v : Nat) (out : List Int) (row : Option Nat) (w : World) (h : BufP w 94 R g 1 out row) (hv : v < 65536) (hlim : out.length ≤ 1000000000000) :
    Calls Tryd.prog 43 #[.pointer (some ⟨g, 0, none⟩), .iface 60 (.int .u64 (v : Int)), .int .u8 2, .bool false, .bool false] w (Wrote 94 R g 1 (out ++ le 2 v) row (.tuple #[]) w) := by
  have A0 := as_uint64_int64
  have A1 := as_uint64_int32
  have A2 := as_uint64_int16
  have A3 := as_uint64_int8
  have A4 := as_uint64_uint64
  have MK := made_u8_2
  have hg := h.lt
  have H := Lib.hid h
  have HLIM := Lib.hid hlim
  have HV := Lib.hid hv
  have i0 : (0 : Int) ≤ (v : Int) := by omega
  have i1 : (v : Int) ≤ 65535 := by omega
  clear h hlim hv
  go_enter Tryd.func43, Tryd.ntmps43
  go_wp2_with fail
  refine (put_le2 w.heap.size v (zz 2) _ (by have := HV.out; omega) (Blk.new _ _ _) (zz_length 2)).mono ?_
  rintro e w2 ⟨rfl, hb2, hg2⟩
  have hk2 : Kp w w2 := Below.grown ((Kp.refl w).alloc _) hg2 (by simp) (fun k hk => by injection hk; omega)
  have HB2 := Lib.hid hb2
  have HK2 := Lib.hid hk2
  clear hb2 hg2 hk2
  go_wp2_with fail
  have hne : w.heap.size ≠ g := by omega
  refine (write_any 94 R g 1 out (le 2 v) row _ _ _ w2 (H.out.kp HK2.out) (le_length 2 v) (by have := HLIM.out; omega) (fun _ => ⟨w.heap.size, 0, rfl, fun i hi => row_at HB2.out i (by rw [le_length]; exact hi)⟩) (fun a ha => by injection ha with ha; subst ha; exact hne)).mono ?_
  rintro e w5 ⟨row2, rfl, hb, hst⟩
  have HB5 := Lib.hid hb
  have HST5 := Lib.hid hst
  clear hb hst
  go_wp2_with fail
  go_end0
  exact ⟨row2, rfl, HB5.out, (Stp.of_kp HK2.out).trans HST5.out⟩

set_option maxRecDepth 100000 in
set_option maxHeartbeats 4000000 in
theorem putint_be4 (R : Nat → Option Value) (g : Nat) (v : Nat) (out : List Int) (row : Option Nat) (w : World) (h : BufP w 94 R g 1 out row) (hv : v < 4294967296) (hlim : out.length ≤ 1000000000000) :
    Calls Tryd.prog 42 #[.pointer (some ⟨g, 0, none⟩), .iface 2 (.int .i64 (v : Int)), .int .u8 4, .bool true, .bool false] w (Wrote 94 R g 1 (out ++ be 4 v) row (.tuple #[]) w) := by
  have A0 := as_int64_int64
  have MK := made_u8_4
  have hg := h.lt
  have H := Lib.hid h
  have HLIM := Lib.hid hlim
  have HV := Lib.hid hv
  have i0 : (0 : Int) ≤ (v : Int) := by omega
  have i1 : (v : Int) ≤ 4294967295 := by omega
  clear h hlim hv
  go_enter Tryd.func42, Tryd.ntmps42
  go_wp2_with fail
  refine (put_be4 w.heap.size v (zz 4) _ (by have := HV.out; omega) (Blk.new _ _ _) (zz_length 4)).mono ?_
  rintro e w2 ⟨rfl, hb2, hg2⟩
  have hk2 : Kp w w2 := Below.grown ((Kp.refl w).alloc _) hg2 (by simp) (fun k hk => by injection hk; omega)
  have HB2 := Lib.hid hb2
  have HK2 := Lib.hid hk2
  clear hb2 hg2 hk2
  go_wp2_with fail
  have hne : w.heap.size ≠ g := by omega
  refine (write_any 94 R g 1 out (be 4 v) row _ _ _ w2 (H.out.kp HK2.out) (be_length 4 v) (by have := HLIM.out; omega) (fun _ => ⟨w.heap.size, 0, rfl, fun i hi => row_at HB2.out i (by rw [be_length]; exact hi)⟩) (fun a ha => by injection ha with ha; subst ha; exact hne)).mono ?_
  rintro e w5 ⟨row2, rfl, hb, hst⟩
  have HB5 := Lib.hid hb
  have HST5 := Lib.hid hst
  clear hb hst
  go_wp2_with fail
  go_end0
  exact ⟨row2, rfl, HB5.out, (Stp.of_kp HK2.out).trans HST5.out⟩

set_option maxRecDepth 100000 in
set_option maxHeartbeats 4000000 in
theorem putuint_be4 (R : Nat → Option Value) (g : Nat) (v : Nat) (out : List Int) (row : Option Nat) (w : World) (h : BufP w 94 R g 1 out row) (hv : v < 4294967296) (hlim : out.length ≤ 1000000000000) :
    Calls Tryd.prog 43 #[.pointer (some ⟨g, 0, none⟩), .iface 60 (.int .u64 (v : Int)), .int .u8 4, .bool true, .bool false] w (Wrote 94 R g 1 (out ++ be 4 v) row (.tuple #[]) w) := by
  have A0 := as_uint64_int64
  have A1 := as_uint64_int32
  have A2 := as_uint64_int16
  have A3 := as_uint64_int8
  have A4 := as_uint64_uint64
  have MK := made_u8_4
  have hg := h.lt
  have H := Lib.hid h
  have HLIM := Lib.hid hlim
  have HV := Lib.hid hv
  have i0 : (0 : Int) ≤ (v : Int) := by omega
  have i1 : (v : Int) ≤ 4294967295 := by omega
  clear h hlim hv
  go_enter Tryd.func43, Tryd.ntmps43
  go_wp2_with fail
  refine (put_be4 w.heap.size v (zz 4) _ (by have := HV.out; omega) (Blk.new _ _ _) (zz_length 4)).mono ?_
  rintro e w2 ⟨rfl, hb2, hg2⟩
  have hk2 : Kp w w2 := Below.grown ((Kp.refl w).alloc _) hg2 (by simp) (fun k hk => by injection hk; omega)
  have HB2 := Lib.hid hb2
  have HK2 := Lib.hid hk2
  clear hb2 hg2 hk2
  go_wp2_with fail
  have hne : w.heap.size ≠ g := by omega
  refine (write_any 94 R g 1 out (be 4 v) row _ _ _ w2 (H.out.kp HK2.out) (be_length 4 v) (by have := HLIM.out; omega) (fun _ => ⟨w.heap.size, 0, rfl, fun i hi => row_at HB2.out i (by rw [be_length]; exact hi)⟩) (fun a ha => by injection ha with ha; subst ha; exact hne)).mono ?_
  rintro e w5 ⟨row2, rfl, hb, hst⟩
  have HB5 := Lib.hid hb
  have HST5 := Lib.hid hst
  clear hb hst
  go_wp2_with fail
  go_end0
  exact ⟨row2, rfl, HB5.out, (Stp.of_kp HK2.out).trans HST5.out⟩

set_option maxRecDepth 100000 in
set_option maxHeartbeats 4000000 in
theorem putint_le4 (R : Nat → Option Value) (g : Nat) (v : Nat) (out : List Int) (row : Option Nat) (w : World) (h : BufP w 94 R g 1 out row) (hv : v < 4294967296) (hlim : out.length ≤ 1000000000000) :
    Calls Tryd.prog 42 #[.pointer (some ⟨g, 0, none⟩), .iface 2 (.int .i64 (v : Int)), .int .u8 4, .bool false, .bool false] w (Wrote 94 R g 1 (out ++ le 4 v) row (.tuple #[]) w) := by
  have A0 := as_int64_int64
  have MK := made_u8_4
  have hg := h.lt
  have H := Lib.hid h
  have HLIM := Lib.hid hlim
  have HV := Lib.hid hv
  have i0 : (0 : Int) ≤ (v : Int) := by omega
  have i1 : (v : Int) ≤ 4294967295 := by omega
  clear h hlim hv
  go_enter Tryd.func42, Tryd.ntmps42
  go_wp2_with fail
  refine (put_le4 w.heap.size v (zz 4) _ (by have := HV.out; omega) (Blk.new _ _ _) (zz_length 4)).mono ?_
  rintro e w2 ⟨rfl, hb2, hg2⟩
  have hk2 : Kp w w2 := Below.grown ((Kp.refl w).alloc _) hg2 (by simp) (fun k hk => by injection hk; omega)
  have HB2 := Lib.hid hb2
  have HK2 := Lib.hid hk2
  clear hb2 hg2 hk2
  go_wp2_with fail
  have hne : w.heap.size ≠ g := by omega
  refine (write_any 94 R g 1 out (le 4 v) row _ _ _ w2 (H.out.kp HK2.out) (le_length 4 v) (by have := HLIM.out; omega) (fun _ => ⟨w.heap.size, 0, rfl, fun i hi => row_at HB2.out i (by rw [le_length]; exact hi)⟩) (fun a ha => by injection ha with ha; subst ha; exact hne)).mono ?_
  rintro e w5 ⟨row2, rfl, hb, hst⟩
  have HB5 := Lib.hid hb
  have HST5 := Lib.hid hst
  clear hb hst
  go_wp2_with fail
  go_end0
  exact ⟨row2, rfl, HB5.out, (Stp.of_kp HK2.out).trans HST5.out⟩

set_option maxRecDepth 100000 in
set_option maxHeartbeats 4000000 in
theorem putuint_le4 (R : Nat → Option Value) (g : Nat) (v : Nat) (out : List Int) (row : Option Nat) (w : World) (h : BufP w 94 R g 1 out row) (hv : v < 4294967296) (hlim : out.length ≤ 1000000000000) :
    Calls Tryd.prog 43 #[.pointer (some ⟨g, 0, none⟩), .iface 60 (.int .u64 (v : Int)), .int .u8 4, .bool false, .bool false] w (Wrote 94 R g 1 (out ++ le 4 v) row (.tuple #[]) w) := by
  have A0 := as_uint64_int64
  have A1 := as_uint64_int32
  have A2 := as_uint64_int16
  have A3 := as_uint64_int8
  have A4 := as_uint64_uint64
  have MK := made_u8_4
  have hg := h.lt
  have H := Lib.hid h
  have HLIM := Lib.hid hlim
  have HV := Lib.hid hv
  have i0 : (0 : Int) ≤ (v : Int) := by omega
  have i1 : (v : Int) ≤ 4294967295 := by omega
  clear h hlim hv
  go_enter Tryd.func43, Tryd.ntmps43
  go_wp2_with fail
  refine (put_le4 w.heap.size v (zz 4) _ (by have := HV.out; omega) (Blk.new _ _ _) (zz_length 4)).mono ?_
  rintro e w2 ⟨rfl, hb2, hg2⟩
  have hk2 : Kp w w2 := Below.grown ((Kp.refl w).alloc _) hg2 (by simp) (fun k hk => by injection hk; omega)
  have HB2 := Lib.hid hb2
  have HK2 := Lib.hid hk2
  clear hb2 hg2 hk2
  go_wp2_with fail
  have hne : w.heap.size ≠ g := by omega
  refine (write_any 94 R g 1 out (le 4 v) row _ _ _ w2 (H.out.kp HK2.out) (le_length 4 v) (by have := HLIM.out; omega) (fun _ => ⟨w.heap.size, 0, rfl, fun i hi => row_at HB2.out i (by rw [le_length]; exact hi)⟩) (fun a ha => by injection ha with ha; subst ha; exact hne)).mono ?_
  rintro e w5 ⟨row2, rfl, hb, hst⟩
  have HB5 := Lib.hid hb
  have HST5 := Lib.hid hst
  clear hb hst
  go_wp2_with fail
  go_end0
  exact ⟨row2, rfl, HB5.out, (Stp.of_kp HK2.out).trans HST5.out⟩

set_option maxRecDepth 100000 in
set_option maxHeartbeats 4000000 in
theorem putint_be8 (R : Nat → Option Value) (g : Nat) (v : Nat) (out : List Int) (row : Option Nat) (w : World) (h : BufP w 94 R g 1 out row) (hv : v < 9223372036854775808) (hlim : out.length ≤ 1000000000000) :
    Calls Tryd.prog 42 #[.pointer (some ⟨g, 0, none⟩), .iface 2 (.int .i64 (v : Int)), .int .u8 8, .bool true, .bool false] w (Wrote 94 R g 1 (out ++ be 8 v) row (.tuple #[]) w) := by
  have A0 := as_int64_int64
  have MK := made_u8_8
  have hg := h.lt
  have H := Lib.hid h
  have HLIM := Lib.hid hlim
  have HV := Lib.hid hv
  have i0 : (0 : Int) ≤ (v : Int) := by omega
  have i1 : (v : Int) ≤ 9223372036854775807 := by omega
  clear h hlim hv
  go_enter Tryd.func42, Tryd.ntmps42
  go_wp2_with fail
  refine (put_be8 w.heap.size v (zz 8) _ (by have := HV.out; omega) (Blk.new _ _ _) (zz_length 8)).mono ?_
  rintro e w2 ⟨rfl, hb2, hg2⟩
  have hk2 : Kp w w2 := Below.grown ((Kp.refl w).alloc _) hg2 (by simp) (fun k hk => by injection hk; omega)
  have HB2 := Lib.hid hb2
  have HK2 := Lib.hid hk2
  clear hb2 hg2 hk2
  go_wp2_with fail
  have hne : w.heap.size ≠ g := by omega
  refine (write_any 94 R g 1 out (be 8 v) row _ _ _ w2 (H.out.kp HK2.out) (be_length 8 v) (by have := HLIM.out; omega) (fun _ => ⟨w.heap.size, 0, rfl, fun i hi => row_at HB2.out i (by rw [be_length]; exact hi)⟩) (fun a ha => by injection ha with ha; subst ha; exact hne)).mono ?_
  rintro e w5 ⟨row2, rfl, hb, hst⟩
  have HB5 := Lib.hid hb
  have HST5 := Lib.hid hst
  clear hb hst
  go_wp2_with fail
  go_end0
  exact ⟨row2, rfl, HB5.out, (Stp.of_kp HK2.out).trans HST5.out⟩

set_option maxRecDepth 100000 in
set_option maxHeartbeats 4000000 in
theorem putuint_be8 (R : Nat → Option Value) (g : Nat) (v : Nat) (out : List Int) (row : Option Nat) (w : World) (h : BufP w 94 R g 1 out row) (hv : v < 18446744073709551616) (hlim : out.length ≤ 1000000000000) :
    Calls Tryd.prog 43 #[.pointer (some ⟨g, 0, none⟩), .iface 60 (.int .u64 (v : Int)), .int .u8 8, .bool true, .bool false] w (Wrote 94 R g 1 (out ++ be 8 v) row (.tuple #[]) w) := by
  have A0 := as_uint64_int64
  have A1 := as_uint64_int32
  have A2 := as_uint64_int16
  have A3 := as_uint64_int8
  have A4 := as_uint64_uint64
  have MK := made_u8_8
  have hg := h.lt
  have H := Lib.hid h
  have HLIM := Lib.hid hlim
  have HV := Lib.hid hv
  have i0 : (0 : Int) ≤ (v : Int) := by omega
  have i1 : (v : Int) ≤ 18446744073709551615 := by omega
  clear h hlim hv
  go_enter Tryd.func43, Tryd.ntmps43
  go_wp2_with fail
  refine (put_be8 w.heap.size v (zz 8) _ (by have := HV.out; omega) (Blk.new _ _ _) (zz_length 8)).mono ?_
  rintro e w2 ⟨rfl, hb2, hg2⟩
  have hk2 : Kp w w2 := Below.grown ((Kp.refl w).alloc _) hg2 (by simp) (fun k hk => by injection hk; omega)
  have HB2 := Lib.hid hb2
  have HK2 := Lib.hid hk2
  clear hb2 hg2 hk2
  go_wp2_with fail
  have hne : w.heap.size ≠ g := by omega
  refine (write_any 94 R g 1 out (be 8 v) row _ _ _ w2 (H.out.kp HK2.out) (be_length 8 v) (by have := HLIM.out; omega) (fun _ => ⟨w.heap.size, 0, rfl, fun i hi => row_at HB2.out i (by rw [be_length]; exact hi)⟩) (fun a ha => by injection ha with ha; subst ha; exact hne)).mono ?_
  rintro e w5 ⟨row2, rfl, hb, hst⟩
  have HB5 := Lib.hid hb
  have HST5 := Lib.hid hst
  clear hb hst
  go_wp2_with fail
  go_end0
  exact ⟨row2, rfl, HB5.out, (Stp.of_kp HK2.out).trans HST5.out⟩

set_option maxRecDepth 100000 in
set_option maxHeartbeats 4000000 in
theorem putint_le8 (R : Nat → Option Value) (g : Nat) (v : Nat) (out : List Int) (row : Option Nat) (w : World) (h : BufP w 94 R g 1 out row) (hv : v < 9223372036854775808) (hlim : out.length ≤ 1000000000000) :
    Calls Tryd.prog 42 #[.pointer (some ⟨g, 0, none⟩), .iface 2 (.int .i64 (v : Int)), .int .u8 8, .bool false, .bool false] w (Wrote 94 R g 1 (out ++ le 8 v) row (.tuple #[]) w) := by
  have A0 := as_int64_int64
  have MK := made_u8_8
  have hg := h.lt
  have H := Lib.hid h
  have HLIM := Lib.hid hlim
  have HV := Lib.hid hv
  have i0 : (0 : Int) ≤ (v : Int) := by omega
  have i1 : (v : Int) ≤ 9223372036854775807 := by omega
  clear h hlim hv
  go_enter Tryd.func42, Tryd.ntmps42
  go_wp2_with fail
  refine (put_le8 w.heap.size v (zz 8) _ (by have := HV.out; omega) (Blk.new _ _ _) (zz_length 8)).mono ?_
  rintro e w2 ⟨rfl, hb2, hg2⟩
  have hk2 : Kp w w2 := Below.grown ((Kp.refl w).alloc _) hg2 (by simp) (fun k hk => by injection hk; omega)
  have HB2 := Lib.hid hb2
  have HK2 := Lib.hid hk2
  clear hb2 hg2 hk2
  go_wp2_with fail
  have hne : w.heap.size ≠ g := by omega
  refine (write_any 94 R g 1 out (le 8 v) row _ _ _ w2 (H.out.kp HK2.out) (le_length 8 v) (by have := HLIM.out; omega) (fun _ => ⟨w.heap.size, 0, rfl, fun i hi => row_at HB2.out i (by rw [le_length]; exact hi)⟩) (fun a ha => by injection ha with ha; subst ha; exact hne)).mono ?_
  rintro e w5 ⟨row2, rfl, hb, hst⟩
  have HB5 := Lib.hid hb
  have HST5 := Lib.hid hst
  clear hb hst
  go_wp2_with fail
  go_end0
  exact ⟨row2, rfl, HB5.out, (Stp.of_kp HK2.out).trans HST5.out⟩

set_option maxRecDepth 100000 in
set_option maxHeartbeats 4000000 in
theorem putuint_le8 (R : Nat → Option Value) (g : Nat) (v : Nat) (out : List Int) (row : Option Nat) (w : World) (h : BufP w 94 R g 1 out row) (hv : v < 18446744073709551616) (hlim : out.length ≤ 1000000000000) :
    Calls Tryd.prog 43 #[.pointer (some ⟨g, 0, none⟩), .iface 60 (.int .u64 (v : Int)), .int .u8 8, .bool false, .bool false] w (Wrote 94 R g 1 (out ++ le 8 v) row (.tuple #[]) w) := by
  have A0 := as_uint64_int64
  have A1 := as_uint64_int32
  have A2 := as_uint64_int16
  have A3 := as_uint64_int8
  have A4 := as_uint64_uint64
  have MK := made_u8_8
  have hg := h.lt
  have H := Lib.hid h
  have HLIM := Lib.hid hlim
  have HV := Lib.hid hv
  have i0 : (0 : Int) ≤ (v : Int) := by omega
  have i1 : (v : Int) ≤ 18446744073709551615 := by omega
  clear h hlim hv
  go_enter Tryd.func43, Tryd.ntmps43
  go_wp2_with fail
  refine (put_le8 w.heap.size v (zz 8) _ (by have := HV.out; omega) (Blk.new _ _ _) (zz_length 8)).mono ?_
  rintro e w2 ⟨rfl, hb2, hg2⟩
  have hk2 : Kp w w2 := Below.grown ((Kp.refl w).alloc _) hg2 (by simp) (fun k hk => by injection hk; omega)
  have HB2 := Lib.hid hb2
  have HK2 := Lib.hid hk2
  clear hb2 hg2 hk2
  go_wp2_with fail
  have hne : w.heap.size ≠ g := by omega
  refine (write_any 94 R g 1 out (le 8 v) row _ _ _ w2 (H.out.kp HK2.out) (le_length 8 v) (by have := HLIM.out; omega) (fun _ => ⟨w.heap.size, 0, rfl, fun i hi => row_at HB2.out i (by rw [le_length]; exact hi)⟩) (fun a ha => by injection ha with ha; subst ha; exact hne)).mono ?_
  rintro e w5 ⟨row2, rfl, hb, hst⟩
  have HB5 := Lib.hid hb
  have HST5 := Lib.hid hst
  clear hb hst
  go_wp2_with fail
  go_end0
  exact ⟨row2, rfl, HB5.out, (Stp.of_kp HK2.out).trans HST5.out⟩

set_option maxRecDepth 100000 in
set_option maxHeartbeats 4000000 in
theorem writeuint_be4 (T : TypeId) (b : Nat) (R : Nat → Option Value) (g : Nat) (v : Nat) (out : List Int) (row : Option Nat) (w : World) (h : BufP w T R b 0 out row) (hv : v < 4294967296) (hlim : out.length ≤ 1000000000000) :
    Calls Tryd.prog 74 #[.pointer (some ⟨g, 0, none⟩), .pointer (some ⟨b, 0, none⟩), .iface 3 (.int .i64 (v : Int)), .int .u8 4, .bool true, .bool false] w (Wrote T R b 0 (out ++ be 4 v) row (.tuple #[]) w) := by
  have A0 := as_int_int64
  have A1 := as_int_int32
  have A2 := as_int_int16
  have A3 := as_int_int8
  have A4 := as_int_uint64
  have A5 := as_int_uint32
  have A6 := as_int_uint16
  have A7 := as_int_uint8
  have A8 := as_int_uint
  have A9 := as_int_int
  have MK := made_u8_4
  have hg := h.lt
  have H := Lib.hid h
  have HLIM := Lib.hid hlim
  have HV := Lib.hid hv
  have i0 : (0 : Int) ≤ (v : Int) := by omega
  have i1 : (v : Int) ≤ 4294967295 := by omega
  clear h hlim hv
  go_enter Tryd.func74, Tryd.ntmps74
  go_wp2_with fail
  refine (put_be4 w.heap.size v (zz 4) _ (by have := HV.out; omega) (Blk.new _ _ _) (zz_length 4)).mono ?_
  rintro e w2 ⟨rfl, hb2, hg2⟩
  have hk2 : Kp w w2 := Below.grown ((Kp.refl w).alloc _) hg2 (by simp) (fun k hk => by injection hk; omega)
  have HB2 := Lib.hid hb2
  have HK2 := Lib.hid hk2
  clear hb2 hg2 hk2
  go_wp2_with fail
  have hne : w.heap.size ≠ b := by omega
  refine (write_any T R b 0 out (be 4 v) row _ _ _ w2 (H.out.kp HK2.out) (be_length 4 v) (by have := HLIM.out; omega) (fun _ => ⟨w.heap.size, 0, rfl, fun i hi => row_at HB2.out i (by rw [be_length]; exact hi)⟩) (fun a ha => by injection ha with ha; subst ha; exact hne)).mono ?_
  rintro e w5 ⟨row2, rfl, hb, hst⟩
  have HB5 := Lib.hid hb
  have HST5 := Lib.hid hst
  clear hb hst
  go_wp2_with fail
  go_end0
  exact ⟨row2, rfl, HB5.out, (Stp.of_kp HK2.out).trans HST5.out⟩

theorem putBytes_any (R : Nat → Option Value) (g : Nat) (out ys : List Int) (row : Option Nat) (q : Option Addr) (k m : Nat) (w : World) (h : BufP w 94 R g 1 out row) (hk : ys.length = k) (hlim : out.length + k ≤ 1099511627776) (hin : Lib.BytesIn w q k ys) (hq : ∀ a, q = some a → a.block ≠ g) :
    Calls Tryd.prog 40 #[.pointer (some ⟨g, 0, none⟩), .slice q k m] w (Wrote 94 R g 1 (out ++ ys) row (.tuple #[]) w) := by
  have HW := Lib.hid (write_any 94 R g 1 out ys row q k m w h hk hlim hin hq)
  clear h hk hlim hin hq
  go_enter Tryd.func40, Tryd.ntmps40
  go_wp2_with fail
  refine HW.out.mono ?_
  rintro e w4 ⟨row', rfl, hb⟩
  have HB := Lib.hid hb
  clear hb
  go_wp2_with fail
  go_end0
  exact ⟨row', rfl, HB.out⟩
end Go.Proofs.YtacmnibhdmeidaaDoor
