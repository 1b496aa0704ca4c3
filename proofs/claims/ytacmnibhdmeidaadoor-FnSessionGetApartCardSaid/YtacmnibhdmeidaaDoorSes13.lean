/-
  sessionLive: it writes and reads two bytes, and returns true.
-/
import Derived.Test.YtacmnibhdmeidaaDoorSes12
namespace Go.Proofs.YtacmnibhdmeidaaDoor
open Go Go.RowKit

theorem puts_one {W : World} {b : Nat} {s : PStep} (h : Blk W b 77 s.cells.toArray) (h1 : Lib.BytesIn W s.q1 s.k1 s.ys) (h2 : Lib.BytesIn W s.q2 s.k2 s.zs) : PutsIn W (some ⟨b, 0, none⟩) 1 (fun _ => s) := fun r hr => by
  obtain rfl : r = 0 := by omega
  exact ⟨b, 0, rfl, fun j v hv => by rw [show 0 + 0 * 9 + j = j by omega, h.cell j]; simpa using hv, h1, h2⟩
theorem gets_one {W : World} {b : Nat} {s : GStep} (h : Blk W b 44 s.cells.toArray) : GetsIn W (some ⟨b, 0, none⟩) 1 (fun _ => s) := fun r hr => by
  obtain rfl : r = 0 := by omega
  exact ⟨b, 0, rfl, fun j v hv => by rw [show 0 + 0 * 4 + j = j by omega, h.cell j]; simpa using hv⟩
/-- A run of one step. -/
theorem run_one {big : Bool} {s : GStep} {l r : List Int} {v : GRec} (h : StepR big s.kind s.size s.big s.comp l v r) : RunR big 1 (fun _ => s) (fun j => if j = 0 then l else r) (fun _ => v) := fun j hj => by
  obtain rfl : j = 0 := by omega
  exact h
theorem own_form {w : World} {base n : Nat} {e : TypeId} {size : Nat} {v : Value} {xs : List Value} (h : w.ownsRow base e size v n xs) (hn : 0 < n) : ∃ g cap, v = .slice (some ⟨g, 0, none⟩) n cap ∧ n ≤ cap ∧ cap ≤ maxLen ∧ g < w.heap.size ∧ base ≤ g ∧ ∀ j u, xs[j]? = some u → w.cell? ⟨g, j, none⟩ = some u := by
  have hh := h
  rcases h.2 with ⟨rfl, h0⟩ | ⟨g, cap, cur, rfl, hb, hg, hle, hm, _⟩
  · omega
  · refine ⟨g, cap, rfl, hle, hm, ?_, hb, fun j u hj => ?_⟩
    · rcases Nat.lt_or_ge g w.heap.size with hlt | hge
      · exact hlt
      · rw [Array.getElem?_eq_none hge] at hg; cases hg
    · have hjl : j < xs.length := (List.getElem?_eq_some_iff.1 hj).1
      have := hh.cellAt j (by have := hh.1; omega)
      rw [this, ← hj, List.getElem?_eq_getElem hjl]

/-- What SessionPut returns. -/
def PutPost (ys : List Int) (W : World) (e : Ending) (w' : World) : Prop := ∃ q l d, e = .returned (.slice q l d) ∧ ys.length = l ∧ w'.ownsRow W.heap.size 5 1 (.slice q l d) l (ys.map (Value.int .u8)) ∧ Below W.heap.size W w'
theorem put1 (W : World) (b : Nat) (s : PStep) (big : Bool) (chunk : Nat) (h : Blk W b 77 s.cells.toArray) (h1 : Lib.BytesIn W s.q1 s.k1 s.ys) (h2 : Lib.BytesIn W s.q2 s.k2 s.zs) (hok : s.Ok) (hc : 0 < chunk) (hc2 : chunk ≤ 4096) (hcb : big = false → chunk < 256) :
    Calls Tryd.prog 24 #[.slice (some ⟨b, 0, none⟩) 1 1, .bool big, .int .i64 (chunk : Int)] W (PutPost (stepW big chunk s) W) := by
  refine (sessionPut_any (some ⟨b, 0, none⟩) 1 1 (fun _ => s) big chunk W (puts_one h h1 h2) (fun _ _ => hok) (by omega) hc hc2 hcb).mono ?_
  rintro e w' ⟨q, l, d, rfl, hl, hown, hb⟩
  exact ⟨q, l, d, rfl, hl, hown, hb⟩
/-- What SessionGet returns of one step. -/
def Get1 (v : GRec) (r : List Int) (W : World) (e : Ending) (w' : World) : Prop := ∃ g cap q1 k1 m1 q2 k2 m2 q l d, e = .returned (.tuple #[.slice (some ⟨g, 0, none⟩) 1 cap, .slice q l d]) ∧ 1 ≤ cap ∧ cap ≤ maxLen ∧ W.heap.size ≤ g ∧ g < w'.heap.size ∧
  w'.cell? ⟨g, 0, none⟩ = some (.bool true) ∧ w'.cell? ⟨g, 1, none⟩ = some (.slice q1 k1 m1) ∧ w'.cell? ⟨g, 2, none⟩ = some (.slice q2 k2 m2) ∧ w'.cell? ⟨g, 3, none⟩ = some (.int .i64 v.x) ∧ w'.cell? ⟨g, 4, none⟩ = some (.string v.tx) ∧
  v.d1.length = k1 ∧ Lib.BytesIn w' q1 k1 v.d1 ∧ v.d2.length = k2 ∧ Lib.BytesIn w' q2 k2 v.d2 ∧ r.length = l ∧ Lib.BytesIn w' q l r ∧ Below W.heap.size W w'
theorem get1 (W : World) (b : Nat) (s : GStep) (p : Option Addr) (m cp : Nat) (xs : List Int) (big : Bool) (v : GRec) (r : List Int) (h : Blk W b 44 s.cells.toArray) (hi : Lib.BytesIn W p m xs) (hx : xs.length = m) (hb : ∀ x ∈ xs, 0 ≤ x ∧ x < 256) (hm : m ≤ 1000000000)
    (hs : StepR big s.kind s.size s.big s.comp xs v r) :
    Calls Tryd.prog 14 #[.slice p m cp, .slice (some ⟨b, 0, none⟩) 1 1, .bool big] W (Get1 v r W) := by
  refine (sessionGet_any p m cp xs (some ⟨b, 0, none⟩) 1 1 (fun _ => s) (fun j => if j = 0 then xs else r) (fun _ => v) big W hi hx hb hm (gets_one h) (by omega) rfl (run_one hs)).mono ?_
  rintro e w' ⟨u, q, l, d, Q, rfl, hown, hg, hl, hin, hbel⟩
  obtain ⟨g, cap, rfl, h1, h2, h3, h4, hc⟩ := own_form hown (by omega)
  obtain ⟨a1, a2, a3, a4⟩ := hg 0 (by omega)
  exact ⟨g, cap, _, _, _, _, _, _, q, l, d, rfl, h1, h2, h4, h3, hc 0 _ rfl, hc 1 _ rfl, hc 2 _ rfl, hc 3 _ rfl, hc 4 _ rfl, a1, a2, a3, a4, hl, hin, hbel⟩

theorem ok_clr (q : Option Addr) (k c : Nat) (ys : List Int) (kd : Nat) (hkd : kd = 0 ∨ kd = 1 ∨ kd = 5) (hl : ys.length = k) (hk : k ≤ 1000000) : PStep.Ok ⟨kd, q, k, c, ys, none, 0, 0, [], 0, 0, 0, 0, false, false⟩ :=
  ⟨by dsimp only; omega, hl, rfl, hk, Nat.zero_le _, by dsimp only; omega, fun h => by dsimp only at h; omega, fun h => by dsimp only at h; omega⟩

set_option maxRecDepth 100000 in
set_option maxHeartbeats 1000000 in
theorem sessionLive_any (w : World) : Calls Tryd.prog 10 #[] w fun e w' => e = .returned (.bool true) ∧ Below w.heap.size w w' := by
  go_enter Tryd.func10, Tryd.ntmps10
  go_wp2_with fail
  generalize hW : (w.alloc (.cells #[.int .u8 7, .int .u8 8] 5)).alloc (.cells #[.int .i64 1, .slice (some ⟨w.heap.size, 0, none⟩) 2 2, .slice none 0 0, .int .i64 0, .int .u64 0, .int .u8 0, .int .u8 0, .bool false, .bool false] 77) = W0
  have hB : Blk W0 (w.heap.size + 1) 77 #[.int .i64 1, .slice (some ⟨w.heap.size, 0, none⟩) 2 2, .slice none 0 0, .int .i64 0, .int .u64 0, .int .u8 0, .int .u8 0, .bool false, .bool false] := hW ▸ Blk.new2 w _ _ _
  have hI : Lib.BytesIn W0 (some ⟨w.heap.size, 0, none⟩) 2 [7, 8] := hW ▸ bin_alloc (bin_new w [7, 8] 5) _
  have HK0 := Lib.hid (show Kp w W0 from hW ▸ ((Kp.refl w).alloc _).alloc _)
  have C1 := Lib.hid (put1 W0 (w.heap.size + 1) ⟨1, some ⟨w.heap.size, 0, none⟩, 2, 2, [7, 8], none, 0, 0, [], 0, 0, 0, 0, false, false⟩ false 64 hB hI (Lib.BytesIn.nil _ _ _) (ok_clr _ _ _ _ _ (by omega) rfl (by omega)) (by decide) (by decide) (fun _ => by decide))
  clear hW hB hI
  refine C1.out.mono ?_
  rintro e w1 ⟨q1, l1, d1, rfl, hl1, hown1, hb1⟩
  obtain rfl : l1 = 3 := hl1.symm
  have HIN1 := Lib.hid (show Lib.BytesIn w1 q1 3 [2, 7, 8] from bin_of_own hown1)
  have HK1 := Lib.hid (HK0.out.call hb1)
  clear hl1 hown1 hb1 C1
  go_wp2_with fail
  generalize hW : (w1.alloc (.cells #[.int .u8 2, .int .u8 7, .int .u8 8, .int .u8 9] 5)).alloc (.cells #[.int .i64 2, .int .i64 0, .bool false, .bool false] 44) = W1
  have hB : Blk W1 (w1.heap.size + 1) 44 #[.int .i64 2, .int .i64 0, .bool false, .bool false] := hW ▸ Blk.new2 w1 _ _ _
  have hI : Lib.BytesIn W1 (some ⟨w1.heap.size, 0, none⟩) 4 [2, 7, 8, 9] := hW ▸ bin_alloc (bin_new w1 [2, 7, 8, 9] 5) _
  have HKW := Lib.hid (show Kp w1 W1 from hW ▸ ((Kp.refl w1).alloc _).alloc _)
  have C2 := Lib.hid (get1 W1 (w1.heap.size + 1) ⟨2, 0, false, false⟩ (some ⟨w1.heap.size, 0, none⟩) 4 4 [2, 7, 8, 9] false ⟨[7, 8], [], 0, noText⟩ [9] hB hI rfl (by decide) (by decide)
    (.inr (.inr (.inl ⟨rfl, [7, 8], ⟨2, [7, 8, 9], rfl, .inr (.inr ⟨by decide, by decide, rfl, rfl⟩)⟩, rfl⟩))))
  clear hW hB hI
  refine C2.out.mono ?_
  rintro e w2 ⟨g, cap, qa, ka, ma, qb, kb, mb, q, l, d, rfl, hc1, hc2, hg1, hg2, c0, c1, c2, c3, c4, hka, hina, hkb, hinb, hl, hin, hb2⟩
  obtain rfl : ka = 2 := hka.symm
  obtain rfl : l = 1 := hl.symm
  have HA := Lib.hid hina
  have HR := Lib.hid hin
  have hk12 := HKW.out.call hb2
  have HK2 := Lib.hid (HK1.out.trans hk12)
  have HI2 := Lib.hid (bin_kp HIN1.out hk12)
  have i1 : (1 : Int) ≤ (cap : Int) := by omega
  clear hka hina hkb hinb hl hin hb2 hc1 hc2 hg1 c2 c3 c4 hk12 C2 HKW
  go_wp2_with fail
  refine (bytes_equal_same _ q1 (some ⟨w2.heap.size, 0, none⟩) 3 d1 3 [2, 7, 8] rfl (bin_alloc HI2.out _) (bin_new w2 [2, 7, 8] _)).mono ?_
  rintro e w3 ⟨rfl, rfl⟩
  have hg3 : g < w2.heap.size + 1 := by omega
  go_wp2_with fail
  have hn2 : Lib.BytesIn ((w2.alloc (.cells #[.int .u8 2, .int .u8 7, .int .u8 8] 5)).alloc (.cells #[.int .u8 7, .int .u8 8] 5)) (some ⟨w2.heap.size + 1, 0, none⟩) 2 [7, 8] := by
    have := bin_new (w2.alloc (.cells #[.int .u8 2, .int .u8 7, .int .u8 8] 5)) [7, 8] 5
    rwa [World.size_alloc] at this
  refine (bytes_equal_same _ qa (some ⟨w2.heap.size + 1, 0, none⟩) 2 ma 2 [7, 8] rfl (bin_alloc (bin_alloc HA.out _) _) hn2).mono ?_
  rintro e w3 ⟨rfl, rfl⟩
  clear hn2
  go_wp2_with fail
  have hn3 : Lib.BytesIn (((w2.alloc (.cells #[.int .u8 2, .int .u8 7, .int .u8 8] 5)).alloc (.cells #[.int .u8 7, .int .u8 8] 5)).alloc (.cells #[.int .u8 9] 5)) (some ⟨w2.heap.size + 1 + 1, 0, none⟩) 1 [9] := by
    have := bin_new ((w2.alloc (.cells #[.int .u8 2, .int .u8 7, .int .u8 8] 5)).alloc (.cells #[.int .u8 7, .int .u8 8] 5)) [9] 5
    rwa [World.size_alloc, World.size_alloc] at this
  refine (bytes_equal_same _ q (some ⟨w2.heap.size + 1 + 1, 0, none⟩) 1 d 1 [9] rfl (bin_alloc (bin_alloc (bin_alloc HR.out _) _) _) hn3).mono ?_
  rintro e w3 ⟨rfl, rfl⟩
  clear hn3
  go_wp2_with fail
  go_ret
  exact ⟨rfl, ((HK2.out.alloc _).alloc _).alloc _⟩
end Go.Proofs.YtacmnibhdmeidaaDoor
