/-
  GetNullTermString of a session that reads.
-/
import Derived.Test.YtacmnibhdmeidaaDoorIdx
import Derived.Test.YtacmnibhdmeidaaDoorSes11
namespace Go.Proofs.YtacmnibhdmeidaaDoor
open Go Go.RowKit

/-- What GetNullTermString gives: a text, and the session behind it. -/
def GotS (g : Nat) (p : Option Addr) (n c : Nat) (xs : List Int) (big : Bool) (r : List Int) (s : ByteArray) (w : World) (e : Ending) (w' : World) : Prop :=
  ∃ i, e = .returned (.tuple #[.string s, .nilIface]) ∧ RS w' g p n c xs big i ∧ r = xs.drop i ∧ w.grownBy w' (some g)
set_option maxRecDepth 100000 in
set_option maxHeartbeats 4000000 in
theorem getNull_any (g : Nat) (p : Option Addr) (n c : Nat) (xs : List Int) (big : Bool) (i sz : Nat) (ki : Int) (w : World) (h : RS w g p n c xs big i) (hk : i + sz ≤ n) (hs : sz ≤ 255) (hi : Idx0 ((xs.drop i).take sz) ki) (r : List Int) (s : ByteArray)
    (hr : ki = -1 ∧ s = textB ((xs.drop i).take sz) ∧ r = (xs.drop i).drop sz ∨ ∃ j : Nat, 0 < j ∧ ki = j ∧ s = textB (((xs.drop i).take sz).take j) ∧ r = (xs.drop i).drop (j + 1)) :
    Calls Tryd.prog 57 #[.pointer (some ⟨g, 0, none⟩), .int .i64 (sz : Int)] w (GotS g p n c xs big r s w) := by
  have C := Lib.hid (read_any g p n c xs big i sz w h hk)
  have c4 : w.cell? ⟨g, 4, none⟩ = some (.int .i64 i) := h.blk.cell 4
  have hil := drop_take_len h.len hk
  have HIL := Lib.hid hil
  have HB := Lib.hid (show ∀ x ∈ (xs.drop i).take sz, 0 ≤ x ∧ x < 256 from fun x hx => h.byt x (List.mem_of_mem_drop (List.mem_of_mem_take hx)))
  have HI := Lib.hid hi
  have hle := h.le
  have hnm := h.nm
  have HK := Lib.hid hk
  have HS := Lib.hid hs
  have i0 : (0 : Int) ≤ (i : Int) := by omega
  have i1 : (i : Int) ≤ 1099511627776 := by omega
  clear h hi hil hle hnm hk hs
  go_enter Tryd.func57, Tryd.ntmps57
  go_wp2_with fail
  refine C.out.mono ?_
  rintro e w1 ⟨q, k, m, i2, rfl, hk1, hin, hkm, hmm, hqb, hrs, hri, hg⟩
  obtain rfl : k = sz := by have := HIL.out; omega
  have HIN := Lib.hid hin
  have HRS := Lib.hid hrs
  have HG := Lib.hid hg
  have HRI := Lib.hid hri
  have hcv := conv_text w1 q k m _ HIN.out HIL.out HB.out
  have x4 : w1.cell? ⟨g, 4, none⟩ = some (.int .i64 i2) := hrs.blk.cell 4
  have f4 := hrs.blk.frozen 4
  have HKM := Lib.hid hkm
  clear hin hrs hg hri hk1 hmm hqb C c4 hkm
  go_wp2_with fail
  refine (zzIndex_any q k m _ w1 HIN.out HIL.out (by have := HS.out; omega)).mono ?_
  rintro e w2 ⟨kj, rfl, hidx, hw2⟩
  subst hw2
  have hkk : kj = ki := by
    rcases hidx with ⟨a, rfl, ha1, ha2, ha3⟩ | ⟨rfl, ha⟩ <;> rcases HI.out with ⟨b, rfl, hb1, hb2, hb3⟩ | ⟨rfl, hb⟩
    · rcases Nat.lt_trichotomy a b with h | h | h
      · exact absurd ha2 (hb3 a h)
      · rw [h]
      · exact absurd hb2 (ha3 b h)
    · exact absurd ha2 (hb a ha1)
    · exact absurd hb2 (ha b hb1)
    · rfl
  subst hkk
  rcases hr with ⟨rfl, rfl, hr⟩ | ⟨j, hj0, rfl, rfl, hr⟩
  · have HR := Lib.hid hr
    clear hidx hr
    go_wp2_with fail
    go_ret2
    exact ⟨i2, rfl, HRS.out, by rw [HR.out, List.drop_drop]; exact HRI.out, HG.out⟩
  · have hjk : j < k := by
      have := HIL.out
      rcases hidx with ⟨a, ha0, ha1, _⟩ | ⟨ha0, _⟩ <;> omega
    have HR := Lib.hid hr
    have HJK := Lib.hid hjk
    have hcv2 := conv_text w1 q j m (((xs.drop i).take k).take j) (bin_take HIN.out (by omega)) (by rw [List.length_take, HIL.out]; omega) (fun x hx => HB.out x (List.mem_of_mem_take hx))
    have j0 : (0 : Int) < (j : Int) := by omega
    have j1 : (j : Int) < (k : Int) := by omega
    have j2 : (k : Int) ≤ 255 := by have := HS.out; omega
    have j3 : (k : Int) ≤ (m : Int) := by have := HKM.out; omega
    have j4 : (j : Int) ≤ (m : Int) := by omega
    have e1 : IntKind.i64.wrap ((i : Int) + (j : Int)) = (i : Int) + (j : Int) := IntWalk.i64_in _ (by omega)
    have e2 : IntKind.i64.wrap ((i : Int) + (j : Int) + 1) = (i : Int) + (j : Int) + 1 := IntWalk.i64_in _ (by omega)
    obtain ⟨b1, o1, rfl, hcell⟩ := HIN.out (by omega)
    clear hidx hr hjk hcv hcell
    go_wp2_with fail
    go_ret2
    have hput := HRS.out.put (j := i + j + 1) (by have := HK.out; have := HJK.out; omega)
    have hgp := grown_trans HG.out (Lib.grownBy_setCell w1 g 4 (.int .i64 ((i + j + 1 : Nat) : Int)))
    refine ⟨i + j + 1, rfl, by simpa using hput, by rw [HR.out, List.drop_drop]; congr 1, by simpa using hgp⟩
end Go.Proofs.YtacmnibhdmeidaaDoor
