/-
  NumberToInt64, Number.Int64, impl.NumberInt64 of an integer's bytes.
-/
import Derived.Test.YtcdbnjhkjfimkaaDoorTx21
namespace Go.Proofs.YtcdbnjhkjfimkaaDoor
open Go Go.RowKit

theorem new_cells (w : World) (l : List Int) (t : TypeId) : ∀ k, k < l.length → (w.alloc (.cells ((l.map (Value.int .u8)).toArray) t)).cell? ⟨w.heap.size, k, none⟩ = some (.int .u8 (l.getD k 0)) := fun k hk => by
  have h := (Blk.new w t ((l.map (Value.int .u8)).toArray)).cell k
  rw [h]
  simp [hk, List.getD]
set_option maxRecDepth 100000 in
set_option maxHeartbeats 1000000 in
theorem to64_of (p : Value) (n : Int) (w : World)
    (h : ∀ w2 ga gb, Kp w w2 → (∀ k, k < 11 → w2.cell? ⟨ga, k, none⟩ = some (.int .u8 (maxB.getD k 0))) → (∀ k, k < 12 → w2.cell? ⟨gb, k, none⟩ = some (.int .u8 (minB.getD k 0))) →
      Calls Tryd.prog 131 #[p, .slice (some ⟨ga, 0, none⟩) 11 11, .slice (some ⟨gb, 0, none⟩) 12 12] w2 (I64At n w2)) :
    Calls Tryd.prog 91 #[p] w (I64At n w) := by
  have H := Lib.hid h
  clear h
  go_enter Tryd.func91, Tryd.ntmps91
  go_wp2_with fail
  refine (maxByte_any w).mono ?_
  rintro e w1 ⟨rfl, hw1⟩
  have H1 := Lib.hid (show ∀ k, k < 11 → w1.cell? ⟨w.heap.size, k, none⟩ = some (.int .u8 (maxB.getD k 0)) from fun k hk => by rw [hw1]; exact new_cells w maxB _ k hk)
  have HK1 := Lib.hid (show Kp w w1 from hw1 ▸ (Kp.refl w).alloc _)
  clear hw1
  go_wp2_with fail
  refine (minByte_any w1).mono ?_
  rintro e w2 ⟨rfl, hw2⟩
  have H2 := Lib.hid (show ∀ k, k < 12 → w2.cell? ⟨w1.heap.size, k, none⟩ = some (.int .u8 (minB.getD k 0)) from fun k hk => by rw [hw2]; exact new_cells w1 minB _ k hk)
  have hk12 : Kp w1 w2 := hw2 ▸ (Kp.refl w1).alloc _
  have CI := Lib.hid (H.out w2 w.heap.size w1.heap.size (HK1.out.trans hk12) (fun k hk => below_some hk12 (H1.out k hk)) H2.out)
  have HK2 := Lib.hid (HK1.out.trans hk12)
  clear hw2 hk12
  go_wp2_with fail
  refine CI.out.mono ?_
  rintro e w3 ⟨rfl, hk⟩
  have HK3 := Lib.hid (HK2.out.trans hk)
  clear hk CI
  go_wp2
  go_ret2
  exact ⟨rfl, HK3.out⟩
/-- Whatever bytes stand at a block are read as this number. -/
def I64Is (l : List Int) (n : Int) : Prop := ∀ (w : World) (g c : Nat), (∀ i, i < l.length → w.cell? ⟨g, i, none⟩ = some (.int .u8 (l.getD i 0))) → l.length ≤ c → Calls Tryd.prog 91 #[.slice (some ⟨g, 0, none⟩) l.length c] w (I64At n w)
theorem numB_bytes (neg : Bool) (P : Nat) (pv : List Int) (hp : Pairs pv) (hP : P ≤ 9) : ∀ x ∈ numB neg (P : Int) pv, 0 ≤ x ∧ x < 256 := by
  intro x hx
  unfold numB at hx
  rcases List.mem_cons.1 hx with rfl | hx
  · split <;> omega
  · rcases List.mem_append.1 hx with hx | hx
    · obtain ⟨y, hy, rfl⟩ := List.mem_map.1 hx
      have := hp.1 y hy
      unfold enc
      split <;> omega
    · split at hx
      · obtain rfl : x = 102 := by simpa using hx
        omega
      · cases hx
theorem wrapI_id (x : Int) (h0 : -9223372036854775808 ≤ x) (h1 : x ≤ 9223372036854775807) : IntKind.i64.wrap x = x := by
  rw [IntKind.wrap_i64]
  omega
theorem wrap_back (N : Nat) (h : N ≤ 9223372036854775808) : IntKind.i64.wrap (-(IntKind.i64.wrap (N : Int))) = -(N : Int) := by
  by_cases hN : N = 9223372036854775808
  · subst hN
    decide +kernel
  · have e : IntKind.i64.wrap (N : Int) = (N : Int) := wrapI_id _ (by omega) (by omega)
    rw [e]
    exact wrapI_id _ (by omega) (by omega)
set_option maxHeartbeats 2000000 in
/-- The bytes of an integer of 64 bits are read as it. -/
theorem i64_enc (n : Int) (l : List Int) (h0 : -9223372036854775808 ≤ n) (h1 : n ≤ 9223372036854775807) (h : EncL n l) : I64Is l n := by
  intro w g c hc hl
  by_cases hn : n = 0
  · subst hn
    have hl2 := tens_zero h
    subst hl2
    exact to64_of _ 0 w fun w2 ga gb hk _ _ => internal_zero g c _ _ w2 (below_some hk (hc 0 (by simp)))
  · obtain ⟨P, K, q, pv, rfl, hp, hK, hq, hP, hV⟩ := enc_pairs n l h0 h1 hn h
    have hK1 := hp.2.1
    have hlen : 2 ≤ (numB (decide (n < 0)) (P : Int) pv).length ∧ (numB (decide (n < 0)) (P : Int) pv).length ≤ 12 := by
      unfold numB
      rw [List.length_cons, List.length_append, List.length_map]
      constructor
      · omega
      · split <;> simp <;> omega
    refine to64_of _ n w fun w2 ga gb hk hma hmi => ?_
    have hc2 : ∀ i, i < (numB (decide (n < 0)) (P : Int) pv).length → w2.cell? ⟨g, i, none⟩ = some (.int .u8 ((numB (decide (n < 0)) (P : Int) pv).getD i 0)) := fun i hi => below_some hk (hc i hi)
    have hni : NumIs w2 g (numB (decide (n < 0)) (P : Int) pv).length (decide (n < 0)) (P : Int) pv := ⟨rfl, hc2⟩
    have hbd := enc_bounds (decide (n < 0)) P K q pv n.natAbs hp hK hq hP hV (by by_cases hneg : n < 0 <;> simp [hneg] <;> omega)
    have hcp := compare_any g ga _ 11 c 11 (numB (decide (n < 0)) (P : Int) pv) maxB w2 rfl rfl (by omega) hlen.2 (.inl rfl) hc2 hma (numB_bytes _ P pv hp hP) (by decide)
    have hcq := compare_any g gb _ 12 c 12 (numB (decide (n < 0)) (P : Int) pv) minB w2 rfl rfl (by omega) hlen.2 (.inr rfl) hc2 hmi (numB_bytes _ P pv hp hP) (by decide)
    have hd := hni.head
    refine internal_of g _ c _ _ _ _ _ n w2 hd ?_ ?_ hlen.1 hcp hcq hbd.1 hbd.2 ?_
    · split <;> omega
    · split <;> omega
    · by_cases hneg : n < 0
      · rw [decide_eq_true hneg] at hni hl ⊢
        refine toInt64_neg g _ c K P q pv n.natAbs w2 hni hp hK hq hP hV (by omega) hl _ n rfl ?_
        rw [wrap_back _ (by omega)]
        omega
      · rw [decide_eq_false hneg] at hni hl ⊢
        refine toInt64_pos g _ c K P q pv n.natAbs w2 hni hp hK hq hP hV (by omega) hl n ?_
        rw [wrapI_id _ (by omega) (by omega)]
        omega
set_option maxRecDepth 100000 in
set_option maxHeartbeats 1000000 in
theorem int64_of (B g n c : Nat) (v : Int) (w : World) (hb : w.cell? ⟨B, 0, none⟩ = some (.slice (some ⟨g, 0, none⟩) n c)) (h : Calls Tryd.prog 91 #[.slice (some ⟨g, 0, none⟩) n c] w (I64At v w)) :
    Calls Tryd.prog 61 #[.pointer (some ⟨B, 0, none⟩)] w (I64At v w) := by
  have C := Lib.hid h
  clear h
  go_enter Tryd.func61, Tryd.ntmps61
  go_wp2_with fail
  refine C.out.mono ?_
  rintro e w1 ⟨rfl, hk⟩
  have HK := Lib.hid hk
  clear C hk
  go_wp2
  go_ret2
  exact ⟨rfl, HK.out⟩
def Ni64Post (v : Int) (w : World) (e : Ending) (w' : World) : Prop := e = .returned (.tuple #[.int .i64 v, .bool true]) ∧ Kp w w'
set_option maxRecDepth 100000 in
set_option maxHeartbeats 1000000 in
theorem numberInt64_of (p : Option Addr) (n c : Nat) (l : List Int) (v : Int) (w : World) (h : Lib.BytesIn w p n l) (hl : l.length = n) (hn : 1 ≤ n) (hn2 : n ≤ 1000) (ht : I64Is l v) :
    Calls Tryd.prog 20 #[.slice p n c] w (Ni64Post v w) := by
  have C := Lib.hid (clone_any w p n c l h hl (by omega))
  have HT := Lib.hid ht
  have HL := Lib.hid (And.intro hl hn)
  clear h hl hn hn2 ht
  go_enter Tryd.func20, Tryd.ntmps20
  go_wp2_with fail
  refine C.out.mono ?_
  rintro e w1 ⟨q, d, rfl, hown, hk⟩
  obtain ⟨g, d2, hv, hd1, _, hin⟩ := own_pos hown HL.out.2
  injection hv with e1 e2 e3
  subst e1 e3
  have HK1 := Lib.hid (show Kp w w1 from hk)
  have HD := Lib.hid hd1
  have HC := Lib.hid (bin_cells hin)
  clear hown hk hin hd1 C
  go_wp2_with fail
  refine (newNumber_any g n d w1).mono ?_
  rintro e w2 ⟨rfl, hw2⟩
  have hb : w2.cell? ⟨w1.heap.size, 0, none⟩ = some (.slice (some ⟨g, 0, none⟩) n d) := by
    rw [hw2]; exact (Blk.new w1 _ _).cell 0
  have HK2 := Lib.hid (show Kp w1 w2 from hw2 ▸ (Kp.refl w1).alloc _)
  have CS := Lib.hid (int64_of w1.heap.size g n d v w2 hb (by
    have h := HT.out w2 g d (fun i hi => by
      have h := HC.out i (by rw [← HL.out.1]; exact hi)
      rw [Nat.zero_add] at h
      exact below_some HK2.out h) (by rw [HL.out.1]; exact HD.out)
    rw [HL.out.1] at h
    exact h))
  clear hw2 hb
  go_wp2_with fail
  refine CS.out.mono ?_
  rintro e w3 ⟨rfl, hk⟩
  have HK3 := Lib.hid ((HK1.out.trans HK2.out).trans hk)
  clear hk CS
  go_wp2_with fail
  go_quiet (fail)
  go_wp2_with fail
  go_ret2
  exact ⟨rfl, HK3.out.drewN _⟩
end Go.Proofs.YtcdbnjhkjfimkaaDoor
