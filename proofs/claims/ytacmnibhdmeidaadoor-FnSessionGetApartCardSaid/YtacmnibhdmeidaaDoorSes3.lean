/-
  Numbers that a session writes: PutInt, PutUint, WriteUint.
-/
import Derived.Test.YtacmnibhdmeidaaDoorBuf2
import Derived.Test.YtacmnibhdmeidaaDoorSes2
namespace Go.Proofs.YtacmnibhdmeidaaDoor
open Go Go.RowKit

/-- The other cells of a session that writes. -/
def sesR (big : Bool) (chunk : Int) (i : Nat) : Option Value := (#[.slice none 0 0, .nilIface, .nilIface, .nilIface, .int .i64 0, .bool big, .int .i64 chunk] : Array Value)[i]?

theorem as_int64_int64 (v : Value) (w : World) : (Instr.typeAssert (.iface 2 v) 20 2 true).run Tryd.prog w = .ok (.tuple #[v, .bool true]) w := by kernel_rfl
theorem as_int_int64 (v : Value) (w : World) : (Instr.typeAssert (.iface 3 v) 20 2 true).run Tryd.prog w = .ok (.tuple #[.int .i64 0, .bool false]) w := by kernel_rfl
theorem as_int_int32 (v : Value) (w : World) : (Instr.typeAssert (.iface 3 v) 20 21 true).run Tryd.prog w = .ok (.tuple #[.int .i32 0, .bool false]) w := by kernel_rfl
theorem as_int_int16 (v : Value) (w : World) : (Instr.typeAssert (.iface 3 v) 20 136 true).run Tryd.prog w = .ok (.tuple #[.int .i16 0, .bool false]) w := by kernel_rfl
theorem as_int_int8 (v : Value) (w : World) : (Instr.typeAssert (.iface 3 v) 20 89 true).run Tryd.prog w = .ok (.tuple #[.int .i8 0, .bool false]) w := by kernel_rfl
theorem as_int_uint64 (v : Value) (w : World) : (Instr.typeAssert (.iface 3 v) 20 60 true).run Tryd.prog w = .ok (.tuple #[.int .u64 0, .bool false]) w := by kernel_rfl
theorem as_int_uint32 (v : Value) (w : World) : (Instr.typeAssert (.iface 3 v) 20 22 true).run Tryd.prog w = .ok (.tuple #[.int .u32 0, .bool false]) w := by kernel_rfl
theorem as_int_uint16 (v : Value) (w : World) : (Instr.typeAssert (.iface 3 v) 20 23 true).run Tryd.prog w = .ok (.tuple #[.int .u16 0, .bool false]) w := by kernel_rfl
theorem as_int_uint8 (v : Value) (w : World) : (Instr.typeAssert (.iface 3 v) 20 5 true).run Tryd.prog w = .ok (.tuple #[.int .u8 0, .bool false]) w := by kernel_rfl
theorem as_int_uint (v : Value) (w : World) : (Instr.typeAssert (.iface 3 v) 20 137 true).run Tryd.prog w = .ok (.tuple #[.int .u64 0, .bool false]) w := by kernel_rfl
theorem as_int_int (v : Value) (w : World) : (Instr.typeAssert (.iface 3 v) 20 3 true).run Tryd.prog w = .ok (.tuple #[v, .bool true]) w := by kernel_rfl
theorem as_uint8_int64 (v : Value) (w : World) : (Instr.typeAssert (.iface 5 v) 20 2 true).run Tryd.prog w = .ok (.tuple #[.int .i64 0, .bool false]) w := by kernel_rfl
theorem as_uint8_int32 (v : Value) (w : World) : (Instr.typeAssert (.iface 5 v) 20 21 true).run Tryd.prog w = .ok (.tuple #[.int .i32 0, .bool false]) w := by kernel_rfl
theorem as_uint8_int16 (v : Value) (w : World) : (Instr.typeAssert (.iface 5 v) 20 136 true).run Tryd.prog w = .ok (.tuple #[.int .i16 0, .bool false]) w := by kernel_rfl
theorem as_uint8_int8 (v : Value) (w : World) : (Instr.typeAssert (.iface 5 v) 20 89 true).run Tryd.prog w = .ok (.tuple #[.int .i8 0, .bool false]) w := by kernel_rfl
theorem as_uint8_uint64 (v : Value) (w : World) : (Instr.typeAssert (.iface 5 v) 20 60 true).run Tryd.prog w = .ok (.tuple #[.int .u64 0, .bool false]) w := by kernel_rfl
theorem as_uint8_uint32 (v : Value) (w : World) : (Instr.typeAssert (.iface 5 v) 20 22 true).run Tryd.prog w = .ok (.tuple #[.int .u32 0, .bool false]) w := by kernel_rfl
theorem as_uint8_uint16 (v : Value) (w : World) : (Instr.typeAssert (.iface 5 v) 20 23 true).run Tryd.prog w = .ok (.tuple #[.int .u16 0, .bool false]) w := by kernel_rfl
theorem as_uint8_uint8 (v : Value) (w : World) : (Instr.typeAssert (.iface 5 v) 20 5 true).run Tryd.prog w = .ok (.tuple #[v, .bool true]) w := by kernel_rfl
theorem as_uint64_int64 (v : Value) (w : World) : (Instr.typeAssert (.iface 60 v) 20 2 true).run Tryd.prog w = .ok (.tuple #[.int .i64 0, .bool false]) w := by kernel_rfl
theorem as_uint64_int32 (v : Value) (w : World) : (Instr.typeAssert (.iface 60 v) 20 21 true).run Tryd.prog w = .ok (.tuple #[.int .i32 0, .bool false]) w := by kernel_rfl
theorem as_uint64_int16 (v : Value) (w : World) : (Instr.typeAssert (.iface 60 v) 20 136 true).run Tryd.prog w = .ok (.tuple #[.int .i16 0, .bool false]) w := by kernel_rfl
theorem as_uint64_int8 (v : Value) (w : World) : (Instr.typeAssert (.iface 60 v) 20 89 true).run Tryd.prog w = .ok (.tuple #[.int .i8 0, .bool false]) w := by kernel_rfl
theorem as_uint64_uint64 (v : Value) (w : World) : (Instr.typeAssert (.iface 60 v) 20 60 true).run Tryd.prog w = .ok (.tuple #[v, .bool true]) w := by kernel_rfl

theorem blk_setCells {g : Nat} {t : TypeId} : ∀ (vs : List Value) (o : Nat) (w : World) (cs : Array Value), Blk w g t cs → o + vs.length ≤ cs.size → Blk (w.setCells g o vs) g t (cs.toList.take o ++ vs ++ cs.toList.drop (o + vs.length)).toArray
  | [], o, w, cs, h, _ => by
    have e : (cs.toList.take o ++ [] ++ cs.toList.drop (o + ([] : List Value).length)).toArray = cs := by simp
    rw [e]; exact h
  | v :: vs, o, w, cs, h, hl => by
    have hl' : o + 1 + vs.length ≤ cs.size := by simp at hl; omega
    have h2 := blk_setCells vs (o + 1) _ _ (h.set_ o v) (by simpa using hl')
    have e : ((cs.setIfInBounds o v).toList.take (o + 1) ++ vs ++ (cs.setIfInBounds o v).toList.drop (o + 1 + vs.length)) = cs.toList.take o ++ v :: vs ++ cs.toList.drop (o + (v :: vs).length) := by
      have hlt : o < cs.toList.length := by simp; omega
      rw [Array.toList_setIfInBounds, List.take_add_one, List.take_set_of_le (Nat.le_refl _), List.getElem?_set_self hlt, List.drop_set_of_lt (by omega)]
      simp [Nat.add_assoc, Nat.add_comm 1]
    rw [e] at h2
    exact h2
theorem grown_setCells {g : Nat} : ∀ (vs : List Value) (o : Nat) (w : World), w.grownBy (w.setCells g o vs) (some g)
  | [], _, w => World.grownBy.refl w _
  | v :: vs, o, w => grown_trans (Lib.grownBy_setCell w g o v) (grown_setCells vs (o + 1) _)
theorem put_row {w : World} {g : Nat} {zs ys : List Int} (o : Obj) (h : Blk w g 5 (rowA zs)) (hl : ys.length = zs.length) : Blk ((w.alloc o).setCells g 0 (ys.map (Value.int .u8))) g 5 (rowA ys) ∧ w.grownBy ((w.alloc o).setCells g 0 (ys.map (Value.int .u8))) (some g) := by
  refine ⟨?_, grown_trans (grown_alloc (World.grownBy.refl w _) _) (grown_setCells _ 0 _)⟩
  have h2 := blk_setCells (ys.map (Value.int .u8)) 0 _ _ (h.alloc o) (by simp [rowA, hl])
  have e : ((rowA zs).toList.take 0 ++ ys.map (Value.int .u8) ++ (rowA zs).toList.drop (0 + (ys.map (Value.int .u8)).length)).toArray = rowA ys := by
    rw [List.take_zero, List.nil_append, List.drop_eq_nil_of_le (by simp [rowA, hl])]
    simp [rowA]
  rw [e] at h2
  exact h2
theorem row_at {w : World} {g : Nat} {zs : List Int} {t : TypeId} (h : Blk w g t (rowA zs)) (i : Nat) (hi : i < zs.length) : w.cell? ⟨g, 0 + i, none⟩ = some (.int .u8 (zs.getD i 0)) := by
  have := row_cells h i hi
  rwa [Go.WideShapes.add_plain] at this

theorem put_be2 (g v : Nat) (zs : List Int) (w : World) (hv : v < 65536) (h : Blk w g 5 (rowA zs)) (hl : zs.length = 2) :
    Calls Tryd.prog 69 #[.agg #[], .slice (some ⟨g, 0, none⟩) 2 2, .int .u16 v] w fun e w' => e = .returned (.tuple #[]) ∧ Blk w' g 5 (rowA (be 2 v)) ∧ w.grownBy w' (some g) := by
  refine (Tryd.binary_BE_PutUint16 g 0 2 2 v hv _ _ w (by omega) (row_at h 0 (by omega)) (row_at h 1 (by omega)) (h.frozen _) (h.frozen _)).mono ?_
  rintro e w' ⟨rfl, rfl⟩
  rw [beCells]
  obtain ⟨h1, h2⟩ := put_row (.cells #[] 131) h (ys := be 2 v) (by rw [be_length, hl])
  exact ⟨rfl, h1, h2⟩
theorem put_be4 (g v : Nat) (zs : List Int) (w : World) (hv : v < 4294967296) (h : Blk w g 5 (rowA zs)) (hl : zs.length = 4) :
    Calls Tryd.prog 70 #[.agg #[], .slice (some ⟨g, 0, none⟩) 4 4, .int .u32 v] w fun e w' => e = .returned (.tuple #[]) ∧ Blk w' g 5 (rowA (be 4 v)) ∧ w.grownBy w' (some g) := by
  refine (Tryd.binary_BE_PutUint32 g 0 4 4 v hv _ _ _ _ w (by omega) (row_at h 0 (by omega)) (row_at h 1 (by omega)) (row_at h 2 (by omega)) (row_at h 3 (by omega)) (h.frozen _) (h.frozen _) (h.frozen _) (h.frozen _)).mono ?_
  rintro e w' ⟨rfl, rfl⟩
  rw [beCells]
  obtain ⟨h1, h2⟩ := put_row (.cells #[] 131) h (ys := be 4 v) (by rw [be_length, hl])
  exact ⟨rfl, h1, h2⟩
theorem put_be8 (g v : Nat) (zs : List Int) (w : World) (hv : v < 18446744073709551616) (h : Blk w g 5 (rowA zs)) (hl : zs.length = 8) :
    Calls Tryd.prog 67 #[.agg #[], .slice (some ⟨g, 0, none⟩) 8 8, .int .u64 v] w fun e w' => e = .returned (.tuple #[]) ∧ Blk w' g 5 (rowA (be 8 v)) ∧ w.grownBy w' (some g) := by
  refine (Tryd.binary_BE_PutUint64 g 0 8 8 v hv _ _ _ _ _ _ _ _ w (by omega) (row_at h 0 (by omega)) (row_at h 1 (by omega)) (row_at h 2 (by omega)) (row_at h 3 (by omega)) (row_at h 4 (by omega)) (row_at h 5 (by omega)) (row_at h 6 (by omega)) (row_at h 7 (by omega)) (h.frozen _) (h.frozen _) (h.frozen _) (h.frozen _) (h.frozen _) (h.frozen _) (h.frozen _) (h.frozen _)).mono ?_
  rintro e w' ⟨rfl, rfl⟩
  rw [beCells]
  obtain ⟨h1, h2⟩ := put_row (.cells #[] 131) h (ys := be 8 v) (by rw [be_length, hl])
  exact ⟨rfl, h1, h2⟩
theorem put_le2 (g v : Nat) (zs : List Int) (w : World) (hv : v < 65536) (h : Blk w g 5 (rowA zs)) (hl : zs.length = 2) :
    Calls Tryd.prog 71 #[.agg #[], .slice (some ⟨g, 0, none⟩) 2 2, .int .u16 v] w fun e w' => e = .returned (.tuple #[]) ∧ Blk w' g 5 (rowA (le 2 v)) ∧ w.grownBy w' (some g) := by
  refine (Tryd.binary_LE_PutUint16 g 0 2 2 v hv _ _ w (by omega) (row_at h 0 (by omega)) (row_at h 1 (by omega)) (h.frozen _) (h.frozen _)).mono ?_
  rintro e w' ⟨rfl, rfl⟩
  rw [leCells]
  obtain ⟨h1, h2⟩ := put_row (.cells #[] 141) h (ys := le 2 v) (by rw [le_length, hl])
  exact ⟨rfl, h1, h2⟩
theorem put_le4 (g v : Nat) (zs : List Int) (w : World) (hv : v < 4294967296) (h : Blk w g 5 (rowA zs)) (hl : zs.length = 4) :
    Calls Tryd.prog 72 #[.agg #[], .slice (some ⟨g, 0, none⟩) 4 4, .int .u32 v] w fun e w' => e = .returned (.tuple #[]) ∧ Blk w' g 5 (rowA (le 4 v)) ∧ w.grownBy w' (some g) := by
  refine (Tryd.binary_LE_PutUint32 g 0 4 4 v hv _ _ _ _ w (by omega) (row_at h 0 (by omega)) (row_at h 1 (by omega)) (row_at h 2 (by omega)) (row_at h 3 (by omega)) (h.frozen _) (h.frozen _) (h.frozen _) (h.frozen _)).mono ?_
  rintro e w' ⟨rfl, rfl⟩
  rw [leCells]
  obtain ⟨h1, h2⟩ := put_row (.cells #[] 141) h (ys := le 4 v) (by rw [le_length, hl])
  exact ⟨rfl, h1, h2⟩
theorem put_le8 (g v : Nat) (zs : List Int) (w : World) (hv : v < 18446744073709551616) (h : Blk w g 5 (rowA zs)) (hl : zs.length = 8) :
    Calls Tryd.prog 73 #[.agg #[], .slice (some ⟨g, 0, none⟩) 8 8, .int .u64 v] w fun e w' => e = .returned (.tuple #[]) ∧ Blk w' g 5 (rowA (le 8 v)) ∧ w.grownBy w' (some g) := by
  refine (Tryd.binary_LE_PutUint64 g 0 8 8 v hv _ _ _ _ _ _ _ _ w (by omega) (row_at h 0 (by omega)) (row_at h 1 (by omega)) (row_at h 2 (by omega)) (row_at h 3 (by omega)) (row_at h 4 (by omega)) (row_at h 5 (by omega)) (row_at h 6 (by omega)) (row_at h 7 (by omega)) (h.frozen _) (h.frozen _) (h.frozen _) (h.frozen _) (h.frozen _) (h.frozen _) (h.frozen _) (h.frozen _)).mono ?_
  rintro e w' ⟨rfl, rfl⟩
  rw [leCells]
  obtain ⟨h1, h2⟩ := put_row (.cells #[] 141) h (ys := le 8 v) (by rw [le_length, hl])
  exact ⟨rfl, h1, h2⟩

set_option maxRecDepth 100000 in
set_option maxHeartbeats 2000000 in
theorem trim_s (g v s : Nat) (w : World) (hs : (sig v).length = s) (hv : v < 18446744073709551616) (h : Blk w g 5 (rowA (be 8 v))) :
    Calls Tryd.prog 68 #[.slice (some ⟨g, 0, none⟩) 8 8] w fun e w' => ∃ o, e = .returned (.slice (some ⟨g, o, none⟩) s s) ∧ Lib.BytesIn w (some ⟨g, o, none⟩) s (sig v) ∧ w = w' := by
  have HC := Lib.hid (fun i hi => row_at h i (by rw [be_length]; exact hi))
  have hs8 : s ≤ 8 := hs ▸ sig_le v
  have HZ := Lib.hid (show ∀ i, i < 8 - s → (be 8 v).getD i 0 = 0 from fun i hi => be_zero_at v i (by rw [hs]; exact hi))
  have HN := Lib.hid (show 0 < s → (be 8 v).getD (8 - s) 0 ≠ 0 from fun h0 => by have := be_sig_at v hv (by rw [hs]; exact h0); rwa [hs] at this)
  have HV := Lib.hid (show Lib.BytesIn w (some ⟨g, 8 - s, none⟩) s (sig v) from by
    have := win_bin (w := w) (b := g) (o := 0) (n := 8) (i := 8 - s) (k := s) (xs := be 8 v) (fun _ => ⟨g, 0, rfl, fun i hi => HC.out i hi⟩) (be_length 8 v) (by omega)
    have hd := be_drop v
    rw [hs] at hd
    rw [Nat.zero_add, hd, List.take_of_length_le (by omega)] at this
    exact this)
  have HS := Lib.hid hs
  clear h hv hs
  go_enter Tryd.func68, Tryd.ntmps68
  go_wp2
  go_loopg [0] 8 (fun G b wr => ∃ j : Nat, j ≤ 8 - s ∧ G = 8 - j ∧ (j < 8 ∧ b = .slice (some ⟨g, j, none⟩) (8 - j) (8 - j) ∨ j = 8 ∧ ∃ o', b = .slice (some ⟨g, o', none⟩) 0 0) ∧ w = wr)
  case atStart => exact ⟨0, Nat.zero_le _, rfl, .inl ⟨by omega, rfl⟩, rfl⟩
  case round =>
    obtain ⟨j, hj, rfl, hb, rfl⟩ := hrel
    rcases hb with ⟨hj8, rfl⟩ | ⟨rfl, o', rfl⟩
    · have c0 : w.cell? ⟨g, j, none⟩ = some (.int .u8 ((be 8 v).getD j 0)) := by have := HC.out j hj8; rwa [Nat.zero_add] at this
      have i0 : (0 : Int) < ((8 - j : Nat) : Int) := by omega
      by_cases hlt : j < 8 - s
      · have hz := HZ.out j hlt
        rw [hz] at c0
        clear hz
        have HJ := Lib.hid hj
        by_cases h7 : j = 7
        · subst h7
          have HL := Lib.hid hlt
          clear hlt hj hj8 i0
          go_wp2
          go_roundg 0
          case measure => omega
          case rel => exact ⟨8, by have := HL.out; omega, rfl, .inr ⟨rfl, _, rfl⟩, rfl⟩
        · have e1 : (8 - j = 1) = False := by simp; omega
          have e2 : 8 - j - 1 = 8 - (j + 1) := by omega
          have i1 : (1 : Int) ≤ ((8 - j : Nat) : Int) := by omega
          go_wp2
          go_roundg (8 - (j + 1))
          case measure => omega
          case rel => exact ⟨j + 1, by omega, rfl, .inl ⟨by omega, by congr 1 <;> omega⟩, rfl⟩
      · obtain rfl : j = 8 - s := by omega
        have hz := HN.out (by omega)
        generalize (be 8 v).getD (8 - s) 0 = x at *
        have z0 : ((x : Int) == 0) = false := by simpa using hz
        have e3 : 8 - (8 - s) = s := by omega
        rw [e3] at i0
        clear hz
        go_wp2
        go_ret
        exact ⟨_, rfl, HV.out, rfl⟩
    · have hs0 : s = 0 := by omega
      subst hs0
      have hn : sig v = [] := List.eq_nil_of_length_eq_zero HS.out
      have HN := Lib.hid hn
      clear hn
      go_wp2
      go_ret
      exact ⟨_, rfl, by rw [HN.out]; exact Lib.BytesIn.nil _ _ _, rfl⟩

theorem u8w (x : Int) (h0 : 0 ≤ x) (h1 : x < 256) : IntKind.u8.wrap x = x := IntWalk.u8_in _ (by omega)

set_option maxRecDepth 100000 in
set_option maxHeartbeats 4000000 in
theorem putint_int64 (R : Nat → Option Value) (g : Nat) (sz : Nat) (bg : Bool) (v s : Nat) (out : List Int) (row : Option Nat) (w : World) (h : BufP w 94 R g 1 out row) (hs : (sig v).length = s) (hsz : 1 ≤ sz) (hsz2 : sz ≤ 8) (hss : s ≤ sz) (hv : v ≤ 9223372036854775807) (hlim : out.length ≤ 1000000000000) :
    Calls Tryd.prog 42 #[.pointer (some ⟨g, 0, none⟩), .iface 2 (.int .i64 (v : Int)), .int .u8 (sz : Int), .bool bg, .bool true] w (Wrote 94 R g 1 (out ++ packed v) row (.tuple #[]) w) := by
  have A0 := as_int64_int64
  have MK := made8
  have hg := h.lt
  have hs8 : s ≤ 8 := hs ▸ sig_le v
  have hv64 : v < 18446744073709551616 := by omega
  have HPK := Lib.hid (show packed v = (s : Int) :: sig v from by unfold packed; rw [hs])
  have HS := Lib.hid hs
  have H := Lib.hid h
  have HLIM := Lib.hid hlim
  have HV := Lib.hid hv64
  have i0 : (0 : Int) ≤ (v : Int) := by omega
  have i1 : (v : Int) ≤ 9223372036854775807 := by omega
  have i2 : (s : Int) ≤ 8 := by omega
  have i6 : ¬ (v : Int) < 0 := by omega
  have HSS := Lib.hid hss
  have i3 : (sz : Int) ≤ 8 := by omega
  have i4 : (1 : Int) ≤ (sz : Int) := by omega
  have i5 : (s : Int) ≤ (sz : Int) := by omega
  clear h hs hlim hv64 hv hss
  go_enter Tryd.func42, Tryd.ntmps42
  go_wp2_with fail
  refine (put_be8 w.heap.size v z8 _ HV.out (Blk.new _ _ _) z8_length).mono ?_
  rintro e w2 ⟨rfl, hb2, hg2⟩
  have hk2 : Kp w w2 := Below.grown ((Kp.refl w).alloc _) hg2 (by simp) (fun k hk => by injection hk; omega)
  have HB2 := Lib.hid hb2
  have HK2 := Lib.hid hk2
  clear hb2 hg2 hk2
  go_wp2_with fail
  refine (trim_s w.heap.size v s w2 HS.out HV.out HB2.out).mono ?_
  rintro e w3 ⟨o, rfl, hin, rfl⟩
  have HIN := Lib.hid hin
  have HW := Lib.hid (fun (x : Int) => byte_any 94 R g 1 out x row w2 (H.out.kp HK2.out) (by have := HLIM.out; omega))
  clear hin
  by_cases hs0 : s = 0
  · subst hs0
    have hn : sig v = [] := List.eq_nil_of_length_eq_zero HS.out
    have HN := Lib.hid hn
    clear hn
    have i9 : (0 : Int) < (sz : Int) := by omega
    go_wp2_with fail
    refine (HW.out 0).mono ?_
    rintro e w4 ⟨row', rfl, hb, hst⟩
    have HB := Lib.hid hb
    have HST := Lib.hid hst
    clear hb hst
    go_wp2_with fail
    go_end0
    exact ⟨row', rfl, by rw [HPK.out, HN.out]; exact HB.out, (Stp.of_kp HK2.out).trans HST.out⟩
  · have z0 : ((s : Int) == 0) = false := by simp; omega
    have i7 : (0 : Int) < (s : Int) := by omega
    by_cases hlt : s < sz
    all_goals
      first
        | (have i8 : (s : Int) < (sz : Int) := by omega)
        | (obtain rfl : s = sz := by have := HSS.out; omega)
      go_wp2_with fail
      refine (HW.out _).mono ?_
      rintro e w4 ⟨row', rfl, hb, hst⟩
      have HB := Lib.hid hb
      have HST := Lib.hid hst
      clear hb hst
      go_wp2_with fail
      have hne : w.heap.size ≠ g := by omega
      have hin4 := HST.out.bin HIN.out (fun a ha => by injection ha with ha; subst ha; exact ⟨hne, fun e => by have := (H.out.row_lt _ e.symm).1; dsimp only at this; omega⟩)
      refine (write_any 94 R g 1 _ (sig v) row' _ _ _ w4 HB.out HS.out (by rw [List.length_append]; have := HLIM.out; simp; omega) hin4 (fun a ha => by injection ha with ha; subst ha; exact hne)).mono ?_
      rintro e w5 ⟨row2, rfl, hb, hst⟩
      have HB5 := Lib.hid hb
      have HST5 := Lib.hid hst
      clear hb hst hin4
      go_wp2_with fail
      go_end0
      exact ⟨row2, rfl, by rw [HPK.out, List.append_cons]; exact HB5.out, ((Stp.of_kp HK2.out).trans HST.out).trans HST5.out⟩

set_option maxRecDepth 100000 in
set_option maxHeartbeats 4000000 in
theorem putint_int4 (R : Nat → Option Value) (g : Nat)  (bg : Bool) (v s : Nat) (out : List Int) (row : Option Nat) (w : World) (h : BufP w 94 R g 1 out row) (hs : (sig v).length = s) (hss : s ≤ 4) (hv : v ≤ 9223372036854775807) (hlim : out.length ≤ 1000000000000) :
    Calls Tryd.prog 42 #[.pointer (some ⟨g, 0, none⟩), .iface 3 (.int .i64 (v : Int)), .int .u8 4, .bool bg, .bool true] w (Wrote 94 R g 1 (out ++ packed v) row (.tuple #[]) w) := by
  have A0 := as_int_int64
  have A1 := as_int_int32
  have A2 := as_int_int16
  have A3 := as_int_int8
  have A4 := as_int_uint64
  have A5 := as_int_uint32
  have A6 := as_int_uint16
  have A7 := as_int_uint8
  have A8 := as_int_uint
  have A9 := as_int_int
  have MK := made8
  have hg := h.lt
  have hs8 : s ≤ 8 := hs ▸ sig_le v
  have hv64 : v < 18446744073709551616 := by omega
  have HPK := Lib.hid (show packed v = (s : Int) :: sig v from by unfold packed; rw [hs])
  have HS := Lib.hid hs
  have H := Lib.hid h
  have HLIM := Lib.hid hlim
  have HV := Lib.hid hv64
  have i0 : (0 : Int) ≤ (v : Int) := by omega
  have i1 : (v : Int) ≤ 9223372036854775807 := by omega
  have i2 : (s : Int) ≤ 8 := by omega
  have i6 : ¬ (v : Int) < 0 := by omega
  have HSS := Lib.hid hss
  have i5 : (s : Int) ≤ 4 := by omega
  clear h hs hlim hv64 hv hss
  go_enter Tryd.func42, Tryd.ntmps42
  go_wp2_with fail
  refine (put_be8 w.heap.size v z8 _ HV.out (Blk.new _ _ _) z8_length).mono ?_
  rintro e w2 ⟨rfl, hb2, hg2⟩
  have hk2 : Kp w w2 := Below.grown ((Kp.refl w).alloc _) hg2 (by simp) (fun k hk => by injection hk; omega)
  have HB2 := Lib.hid hb2
  have HK2 := Lib.hid hk2
  clear hb2 hg2 hk2
  go_wp2_with fail
  refine (trim_s w.heap.size v s w2 HS.out HV.out HB2.out).mono ?_
  rintro e w3 ⟨o, rfl, hin, rfl⟩
  have HIN := Lib.hid hin
  have HW := Lib.hid (fun (x : Int) => byte_any 94 R g 1 out x row w2 (H.out.kp HK2.out) (by have := HLIM.out; omega))
  clear hin
  by_cases hs0 : s = 0
  · subst hs0
    have hn : sig v = [] := List.eq_nil_of_length_eq_zero HS.out
    have HN := Lib.hid hn
    clear hn
    go_wp2_with fail
    refine (HW.out 0).mono ?_
    rintro e w4 ⟨row', rfl, hb, hst⟩
    have HB := Lib.hid hb
    have HST := Lib.hid hst
    clear hb hst
    go_wp2_with fail
    go_end0
    exact ⟨row', rfl, by rw [HPK.out, HN.out]; exact HB.out, (Stp.of_kp HK2.out).trans HST.out⟩
  · have z0 : ((s : Int) == 0) = false := by simp; omega
    have i7 : (0 : Int) < (s : Int) := by omega
    by_cases hlt : s < 4
    all_goals
      first
        | (have i8 : (s : Int) < 4 := by omega)
        | (obtain rfl : s = 4 := by have := HSS.out; omega)
      go_wp2_with fail
      refine (HW.out _).mono ?_
      rintro e w4 ⟨row', rfl, hb, hst⟩
      have HB := Lib.hid hb
      have HST := Lib.hid hst
      clear hb hst
      go_wp2_with fail
      have hne : w.heap.size ≠ g := by omega
      have hin4 := HST.out.bin HIN.out (fun a ha => by injection ha with ha; subst ha; exact ⟨hne, fun e => by have := (H.out.row_lt _ e.symm).1; dsimp only at this; omega⟩)
      refine (write_any 94 R g 1 _ (sig v) row' _ _ _ w4 HB.out HS.out (by rw [List.length_append]; have := HLIM.out; simp; omega) hin4 (fun a ha => by injection ha with ha; subst ha; exact hne)).mono ?_
      rintro e w5 ⟨row2, rfl, hb, hst⟩
      have HB5 := Lib.hid hb
      have HST5 := Lib.hid hst
      clear hb hst hin4
      go_wp2_with fail
      go_end0
      exact ⟨row2, rfl, by rw [HPK.out, List.append_cons]; exact HB5.out, ((Stp.of_kp HK2.out).trans HST.out).trans HST5.out⟩

set_option maxRecDepth 100000 in
set_option maxHeartbeats 4000000 in
theorem putint_uint84 (R : Nat → Option Value) (g : Nat)  (bg : Bool) (v s : Nat) (out : List Int) (row : Option Nat) (w : World) (h : BufP w 94 R g 1 out row) (hs : (sig v).length = s) (hss : s ≤ 4) (hv : v < 256) (hlim : out.length ≤ 1000000000000) :
    Calls Tryd.prog 42 #[.pointer (some ⟨g, 0, none⟩), .iface 5 (.int .u8 (v : Int)), .int .u8 4, .bool bg, .bool true] w (Wrote 94 R g 1 (out ++ packed v) row (.tuple #[]) w) := by
  have A0 := as_uint8_int64
  have A1 := as_uint8_int32
  have A2 := as_uint8_int16
  have A3 := as_uint8_int8
  have A4 := as_uint8_uint64
  have A5 := as_uint8_uint32
  have A6 := as_uint8_uint16
  have A7 := as_uint8_uint8
  have MK := made8
  have hg := h.lt
  have hs8 : s ≤ 8 := hs ▸ sig_le v
  have hv64 : v < 18446744073709551616 := by omega
  have HPK := Lib.hid (show packed v = (s : Int) :: sig v from by unfold packed; rw [hs])
  have HS := Lib.hid hs
  have H := Lib.hid h
  have HLIM := Lib.hid hlim
  have HV := Lib.hid hv64
  have i0 : (0 : Int) ≤ (v : Int) := by omega
  have i1 : (v : Int) < 256 := by omega
  have i2 : (s : Int) ≤ 8 := by omega
  have i6 : ¬ (v : Int) < 0 := by omega
  have HSS := Lib.hid hss
  have i5 : (s : Int) ≤ 4 := by omega
  clear h hs hlim hv64 hv hss
  go_enter Tryd.func42, Tryd.ntmps42
  go_wp2_with fail
  refine (put_be8 w.heap.size v z8 _ HV.out (Blk.new _ _ _) z8_length).mono ?_
  rintro e w2 ⟨rfl, hb2, hg2⟩
  have hk2 : Kp w w2 := Below.grown ((Kp.refl w).alloc _) hg2 (by simp) (fun k hk => by injection hk; omega)
  have HB2 := Lib.hid hb2
  have HK2 := Lib.hid hk2
  clear hb2 hg2 hk2
  go_wp2_with fail
  refine (trim_s w.heap.size v s w2 HS.out HV.out HB2.out).mono ?_
  rintro e w3 ⟨o, rfl, hin, rfl⟩
  have HIN := Lib.hid hin
  have HW := Lib.hid (fun (x : Int) => byte_any 94 R g 1 out x row w2 (H.out.kp HK2.out) (by have := HLIM.out; omega))
  clear hin
  by_cases hs0 : s = 0
  · subst hs0
    have hn : sig v = [] := List.eq_nil_of_length_eq_zero HS.out
    have HN := Lib.hid hn
    clear hn
    go_wp2_with fail
    refine (HW.out 0).mono ?_
    rintro e w4 ⟨row', rfl, hb, hst⟩
    have HB := Lib.hid hb
    have HST := Lib.hid hst
    clear hb hst
    go_wp2_with fail
    go_end0
    exact ⟨row', rfl, by rw [HPK.out, HN.out]; exact HB.out, (Stp.of_kp HK2.out).trans HST.out⟩
  · have z0 : ((s : Int) == 0) = false := by simp; omega
    have i7 : (0 : Int) < (s : Int) := by omega
    by_cases hlt : s < 4
    all_goals
      first
        | (have i8 : (s : Int) < 4 := by omega)
        | (obtain rfl : s = 4 := by have := HSS.out; omega)
      go_wp2_with fail
      refine (HW.out _).mono ?_
      rintro e w4 ⟨row', rfl, hb, hst⟩
      have HB := Lib.hid hb
      have HST := Lib.hid hst
      clear hb hst
      go_wp2_with fail
      have hne : w.heap.size ≠ g := by omega
      have hin4 := HST.out.bin HIN.out (fun a ha => by injection ha with ha; subst ha; exact ⟨hne, fun e => by have := (H.out.row_lt _ e.symm).1; dsimp only at this; omega⟩)
      refine (write_any 94 R g 1 _ (sig v) row' _ _ _ w4 HB.out HS.out (by rw [List.length_append]; have := HLIM.out; simp; omega) hin4 (fun a ha => by injection ha with ha; subst ha; exact hne)).mono ?_
      rintro e w5 ⟨row2, rfl, hb, hst⟩
      have HB5 := Lib.hid hb
      have HST5 := Lib.hid hst
      clear hb hst hin4
      go_wp2_with fail
      go_end0
      exact ⟨row2, rfl, by rw [HPK.out, List.append_cons]; exact HB5.out, ((Stp.of_kp HK2.out).trans HST.out).trans HST5.out⟩

set_option maxRecDepth 100000 in
set_option maxHeartbeats 4000000 in
theorem putuint_uint64 (R : Nat → Option Value) (g : Nat) (sz : Nat) (bg : Bool) (v s : Nat) (out : List Int) (row : Option Nat) (w : World) (h : BufP w 94 R g 1 out row) (hs : (sig v).length = s) (hsz : 1 < sz) (hsz2 : sz ≤ 8) (hss : s ≤ sz) (hv : v < 18446744073709551616) (hlim : out.length ≤ 1000000000000) :
    Calls Tryd.prog 43 #[.pointer (some ⟨g, 0, none⟩), .iface 60 (.int .u64 (v : Int)), .int .u8 (sz : Int), .bool bg, .bool true] w (Wrote 94 R g 1 (out ++ packed v) row (.tuple #[]) w) := by
  have A0 := as_uint64_int64
  have A1 := as_uint64_int32
  have A2 := as_uint64_int16
  have A3 := as_uint64_int8
  have A4 := as_uint64_uint64
  have MK := made8
  have hg := h.lt
  have hs8 : s ≤ 8 := hs ▸ sig_le v
  have hv64 : v < 18446744073709551616 := by omega
  have HPK := Lib.hid (show packed v = (s : Int) :: sig v from by unfold packed; rw [hs])
  have HS := Lib.hid hs
  have H := Lib.hid h
  have HLIM := Lib.hid hlim
  have HV := Lib.hid hv64
  have i0 : (0 : Int) ≤ (v : Int) := by omega
  have i1 : (v : Int) ≤ 18446744073709551615 := by omega
  have i2 : (s : Int) ≤ 8 := by omega
  have i6 : ¬ (v : Int) < 0 := by omega
  have HSS := Lib.hid hss
  have i3 : (sz : Int) ≤ 8 := by omega
  have i4 : (1 : Int) < (sz : Int) := by omega
  have i5 : (s : Int) ≤ (sz : Int) := by omega
  have z1 : ((sz : Int) == 1) = false := by simp; omega
  clear h hs hlim hv64 hv hss
  go_enter Tryd.func43, Tryd.ntmps43
  go_wp2_with fail
  refine (put_be8 w.heap.size v z8 _ HV.out (Blk.new _ _ _) z8_length).mono ?_
  rintro e w2 ⟨rfl, hb2, hg2⟩
  have hk2 : Kp w w2 := Below.grown ((Kp.refl w).alloc _) hg2 (by simp) (fun k hk => by injection hk; omega)
  have HB2 := Lib.hid hb2
  have HK2 := Lib.hid hk2
  clear hb2 hg2 hk2
  go_wp2_with fail
  refine (trim_s w.heap.size v s w2 HS.out HV.out HB2.out).mono ?_
  rintro e w3 ⟨o, rfl, hin, rfl⟩
  have HIN := Lib.hid hin
  have HW := Lib.hid (fun (x : Int) => byte_any 94 R g 1 out x row w2 (H.out.kp HK2.out) (by have := HLIM.out; omega))
  clear hin
  by_cases hs0 : s = 0
  · subst hs0
    have hn : sig v = [] := List.eq_nil_of_length_eq_zero HS.out
    have HN := Lib.hid hn
    clear hn
    have i9 : (0 : Int) < (sz : Int) := by omega
    go_wp2_with fail
    refine (HW.out 0).mono ?_
    rintro e w4 ⟨row', rfl, hb, hst⟩
    have HB := Lib.hid hb
    have HST := Lib.hid hst
    clear hb hst
    go_wp2_with fail
    go_end0
    exact ⟨row', rfl, by rw [HPK.out, HN.out]; exact HB.out, (Stp.of_kp HK2.out).trans HST.out⟩
  · have z0 : ((s : Int) == 0) = false := by simp; omega
    have i7 : (0 : Int) < (s : Int) := by omega
    by_cases hlt : s < sz
    all_goals
      first
        | (have i8 : (s : Int) < (sz : Int) := by omega)
        | (obtain rfl : s = sz := by have := HSS.out; omega)
      go_wp2_with fail
      refine (HW.out _).mono ?_
      rintro e w4 ⟨row', rfl, hb, hst⟩
      have HB := Lib.hid hb
      have HST := Lib.hid hst
      clear hb hst
      go_wp2_with fail
      have hne : w.heap.size ≠ g := by omega
      have hin4 := HST.out.bin HIN.out (fun a ha => by injection ha with ha; subst ha; exact ⟨hne, fun e => by have := (H.out.row_lt _ e.symm).1; dsimp only at this; omega⟩)
      refine (write_any 94 R g 1 _ (sig v) row' _ _ _ w4 HB.out HS.out (by rw [List.length_append]; have := HLIM.out; simp; omega) hin4 (fun a ha => by injection ha with ha; subst ha; exact hne)).mono ?_
      rintro e w5 ⟨row2, rfl, hb, hst⟩
      have HB5 := Lib.hid hb
      have HST5 := Lib.hid hst
      clear hb hst hin4
      go_wp2_with fail
      go_end0
      exact ⟨row2, rfl, by rw [HPK.out, List.append_cons]; exact HB5.out, ((Stp.of_kp HK2.out).trans HST.out).trans HST5.out⟩

set_option maxRecDepth 100000 in
set_option maxHeartbeats 4000000 in
theorem putuint_int4 (R : Nat → Option Value) (g : Nat)  (bg : Bool) (v s : Nat) (out : List Int) (row : Option Nat) (w : World) (h : BufP w 94 R g 1 out row) (hs : (sig v).length = s) (hss : s ≤ 4) (hv : v ≤ 9223372036854775807) (hlim : out.length ≤ 1000000000000) :
    Calls Tryd.prog 43 #[.pointer (some ⟨g, 0, none⟩), .iface 3 (.int .i64 (v : Int)), .int .u8 4, .bool bg, .bool true] w (Wrote 94 R g 1 (out ++ packed v) row (.tuple #[]) w) := by
  have A0 := as_int_int64
  have A1 := as_int_int32
  have A2 := as_int_int16
  have A3 := as_int_int8
  have A4 := as_int_uint64
  have A5 := as_int_uint32
  have A6 := as_int_uint16
  have A7 := as_int_uint8
  have A8 := as_int_uint
  have A9 := as_int_int
  have MK := made8
  have hg := h.lt
  have hs8 : s ≤ 8 := hs ▸ sig_le v
  have hv64 : v < 18446744073709551616 := by omega
  have HPK := Lib.hid (show packed v = (s : Int) :: sig v from by unfold packed; rw [hs])
  have HS := Lib.hid hs
  have H := Lib.hid h
  have HLIM := Lib.hid hlim
  have HV := Lib.hid hv64
  have i0 : (0 : Int) ≤ (v : Int) := by omega
  have i1 : (v : Int) ≤ 9223372036854775807 := by omega
  have i2 : (s : Int) ≤ 8 := by omega
  have i6 : ¬ (v : Int) < 0 := by omega
  have HSS := Lib.hid hss
  have i5 : (s : Int) ≤ 4 := by omega
  clear h hs hlim hv64 hv hss
  go_enter Tryd.func43, Tryd.ntmps43
  go_wp2_with fail
  refine (put_be8 w.heap.size v z8 _ HV.out (Blk.new _ _ _) z8_length).mono ?_
  rintro e w2 ⟨rfl, hb2, hg2⟩
  have hk2 : Kp w w2 := Below.grown ((Kp.refl w).alloc _) hg2 (by simp) (fun k hk => by injection hk; omega)
  have HB2 := Lib.hid hb2
  have HK2 := Lib.hid hk2
  clear hb2 hg2 hk2
  go_wp2_with fail
  refine (trim_s w.heap.size v s w2 HS.out HV.out HB2.out).mono ?_
  rintro e w3 ⟨o, rfl, hin, rfl⟩
  have HIN := Lib.hid hin
  have HW := Lib.hid (fun (x : Int) => byte_any 94 R g 1 out x row w2 (H.out.kp HK2.out) (by have := HLIM.out; omega))
  clear hin
  by_cases hs0 : s = 0
  · subst hs0
    have hn : sig v = [] := List.eq_nil_of_length_eq_zero HS.out
    have HN := Lib.hid hn
    clear hn
    go_wp2_with fail
    refine (HW.out 0).mono ?_
    rintro e w4 ⟨row', rfl, hb, hst⟩
    have HB := Lib.hid hb
    have HST := Lib.hid hst
    clear hb hst
    go_wp2_with fail
    go_end0
    exact ⟨row', rfl, by rw [HPK.out, HN.out]; exact HB.out, (Stp.of_kp HK2.out).trans HST.out⟩
  · have z0 : ((s : Int) == 0) = false := by simp; omega
    have i7 : (0 : Int) < (s : Int) := by omega
    by_cases hlt : s < 4
    all_goals
      first
        | (have i8 : (s : Int) < 4 := by omega)
        | (obtain rfl : s = 4 := by have := HSS.out; omega)
      go_wp2_with fail
      refine (HW.out _).mono ?_
      rintro e w4 ⟨row', rfl, hb, hst⟩
      have HB := Lib.hid hb
      have HST := Lib.hid hst
      clear hb hst
      go_wp2_with fail
      have hne : w.heap.size ≠ g := by omega
      have hin4 := HST.out.bin HIN.out (fun a ha => by injection ha with ha; subst ha; exact ⟨hne, fun e => by have := (H.out.row_lt _ e.symm).1; dsimp only at this; omega⟩)
      refine (write_any 94 R g 1 _ (sig v) row' _ _ _ w4 HB.out HS.out (by rw [List.length_append]; have := HLIM.out; simp; omega) hin4 (fun a ha => by injection ha with ha; subst ha; exact hne)).mono ?_
      rintro e w5 ⟨row2, rfl, hb, hst⟩
      have HB5 := Lib.hid hb
      have HST5 := Lib.hid hst
      clear hb hst hin4
      go_wp2_with fail
      go_end0
      exact ⟨row2, rfl, by rw [HPK.out, List.append_cons]; exact HB5.out, ((Stp.of_kp HK2.out).trans HST.out).trans HST5.out⟩

end Go.Proofs.YtacmnibhdmeidaaDoor
