/-
  sameGot and slices.EqualFunc: two readings that gave the same.
-/
import Derived.Test.YtacmnibhdmeidaaDoorSes24
namespace Go.Proofs.YtacmnibhdmeidaaDoor
open Go Go.RowKit

set_option maxHeartbeats 4000000 in
theorem sameGot_same (q1 q2 p1 p2 : Option Addr) (n c1 c2 m d1 d2 : Nat) (xs ys : List Int) (x : Int) (tx : ByteArray) (w : World) (h1 : Lib.BytesIn w q1 n xs) (h2 : Lib.BytesIn w q2 n xs) (hx : xs.length = n) (h3 : Lib.BytesIn w p1 m ys) (h4 : Lib.BytesIn w p2 m ys) (hy : ys.length = m) :
    Calls Tryd.prog 17 #[.agg #[.bool true, .slice q1 n c1, .slice p1 m d1, .int .i64 x, .string tx], .agg #[.bool true, .slice q2 n c2, .slice p2 m d2, .int .i64 x, .string tx]] w fun e w' => e = .returned (.bool true) ∧ Kp w w' := by
  have H1 := Lib.hid (fun w1 (hk : Kp w w1) => bytes_equal_same w1 q1 q2 n c1 c2 xs hx (bin_kp h1 hk) (bin_kp h2 hk))
  have H2 := Lib.hid (fun w1 (hk : Kp w w1) => bytes_equal_same w1 p1 p2 m d1 d2 ys hy (bin_kp h3 hk) (bin_kp h4 hk))
  clear h1 h2 hx h3 h4 hy
  go_enter Tryd.func17, Tryd.ntmps17
  go_wp2_with fail
  refine (H1.out _ (((Kp.refl w).alloc _).alloc _)).mono ?_
  rintro e w1 ⟨rfl, rfl⟩
  go_wp2_with fail
  refine (H2.out _ (((Kp.refl w).alloc _).alloc _)).mono ?_
  rintro e w1 ⟨rfl, rfl⟩
  go_wp2_with fail
  go_ret
  exact ⟨rfl, ((Kp.refl w).alloc _).alloc _⟩

/-- Readings as they lie in memory. -/
def GotAt (w : World) (a : Option Addr) (n : Nat) (Q : Nat → GPlace) (V : Nat → GRec) : Prop := ∀ r, r < n → ∃ b o, a = some ⟨b, o, none⟩ ∧ (∀ j u, (gotCells (Q r) (V r))[j]? = some u → w.cell? ⟨b, o + r * 5 + j, none⟩ = some u)
theorem GotAt.kp {w w' : World} {a : Option Addr} {n : Nat} {Q : Nat → GPlace} {V : Nat → GRec} (h : GotAt w a n Q V) (hk : Kp w w') : GotAt w' a n Q V := fun r hr => by
  obtain ⟨b, o, h1, h2⟩ := h r hr
  exact ⟨b, o, h1, fun j u hu => below_some hk (h2 j u hu)⟩
theorem GotsIn.kp {w w' : World} {n : Nat} {Q : Nat → GPlace} {V : Nat → GRec} (h : GotsIn w n Q V) (hk : Kp w w') : GotsIn w' n Q V := fun r hr => by
  obtain ⟨h1, h2, h3, h4⟩ := h r hr
  exact ⟨h1, bin_kp h2 hk, h3, bin_kp h4 hk⟩
theorem own_slice {w : World} {B : Nat} {e : TypeId} {size : Nat} {v : Value} {n : Nat} {xs : List Value} (h : w.ownsRow B e size v n xs) : ∃ a c, v = .slice a n c ∧ n ≤ c ∧ c ≤ maxLen := by
  rcases Nat.eq_zero_or_pos n with h0 | h0
  · rcases h.2 with ⟨rfl, _⟩ | ⟨_, cap, _, rfl, _, _, h1, h2, _⟩
    · exact ⟨none, 0, by rw [h0], by omega, by unfold maxLen; omega⟩
    · exact ⟨_, cap, rfl, h1, h2⟩
  · obtain ⟨g, cap, rfl, h1, h2, _⟩ := own_form h h0
    exact ⟨_, cap, rfl, h1, h2⟩
theorem gotAt_own {w : World} {B : Nat} {e : TypeId} {a : Option Addr} {n c : Nat} {Q : Nat → GPlace} {V : Nat → GRec} (h : w.ownsRow B e 5 (.slice a n c) n (gotRow Q V n)) : GotAt w a n Q V := fun r hr => by
  obtain ⟨g, cap, he, _, _, _, _, hc⟩ := own_form h (by omega)
  injection he with he
  exact ⟨g, 0, he, fun j u hu => by rw [Nat.zero_add]; exact hc _ u (got_at Q V n r j u hr hu)⟩

set_option maxRecDepth 100000 in
set_option maxHeartbeats 4000000 in
theorem eqGot_any (a1 a2 : Option Addr) (n c1 c2 : Nat) (Q1 Q2 : Nat → GPlace) (V : Nat → GRec) (w : World) (h1 : GotAt w a1 n Q1 V) (h2 : GotAt w a2 n Q2 V) (g1 : GotsIn w n Q1 V) (g2 : GotsIn w n Q2 V) (hn : n ≤ 1000) :
    Calls Tryd.prog 15 #[.slice a1 n c1, .slice a2 n c2, .func (.func 17) #[] #[]] w fun e w' => e = .returned (.bool true) ∧ Kp w w' := by
  have i0 : (0 : Int) ≤ (n : Int) := by omega
  have i1 : (n : Int) ≤ 1000 := by omega
  have H1 := Lib.hid h1
  have H2 := Lib.hid h2
  have HG1 := Lib.hid g1
  have HG2 := Lib.hid g2
  clear h1 h2 g1 g2 hn
  go_enter Tryd.func15, Tryd.ntmps15
  go_wp2_with fail
  go_loopg [17] n (fun G st wr => ∃ k : Nat, G = n - k ∧ k ≤ n ∧ st = .int .i64 (k : Int) ∧ Kp w wr)
  case atStart => exact ⟨0, rfl, Nat.zero_le _, rfl, Kp.refl w⟩
  case round =>
    obtain ⟨k, rfl, hk, rfl, hkp⟩ := hrel
    have HK := Lib.hid hkp
    have HKN := Lib.hid hk
    have j0 : (0 : Int) ≤ (k : Int) := by omega
    have j1 : (k : Int) ≤ (n : Int) := by omega
    clear hkp hk
    by_cases hlt : k < n
    · have j2 : (k : Int) < (n : Int) := by omega
      obtain ⟨b1, o1, rfl, hc1⟩ := H1.out k hlt
      obtain ⟨b2, o2, rfl, hc2⟩ := H2.out k hlt
      have HR1 := Lib.hid (HG1.out k hlt)
      have HR2 := Lib.hid (HG2.out k hlt)
      have HLT := Lib.hid hlt
      clear hlt
      generalize Q1 k = Q1 at hc1 HR1
      generalize Q2 k = Q2 at hc2 HR2
      generalize V k = u at hc1 hc2 HR1 HR2
      obtain ⟨q2, k2, m2, q2', k2', m2'⟩ := Q2
      obtain ⟨q1, k1, m1, q1', k1', m1'⟩ := Q1
      obtain rfl : k1 = k2 := by have h1 := HR1.out.1; have h2 := HR2.out.1; dsimp only at h1 h2; omega
      obtain rfl : k1' = k2' := by have h1 := HR1.out.2.2.1; have h2 := HR2.out.2.2.1; dsimp only at h1 h2; omega
      have x0 : wr.cell? ⟨b1, o1 + k * 5, none⟩ = some (.bool true) := below_some HK.out (hc1 0 _ rfl)
      have x1 : wr.cell? ⟨b1, o1 + k * 5 + 1, none⟩ = some (.slice q1 k1 m1) := below_some HK.out (hc1 1 _ rfl)
      have x2 : wr.cell? ⟨b1, o1 + k * 5 + 2, none⟩ = some (.slice q1' k1' m1') := below_some HK.out (hc1 2 _ rfl)
      have x3 : wr.cell? ⟨b1, o1 + k * 5 + 3, none⟩ = some (.int .i64 u.x) := below_some HK.out (hc1 3 _ rfl)
      have x4 : wr.cell? ⟨b1, o1 + k * 5 + 4, none⟩ = some (.string u.tx) := below_some HK.out (hc1 4 _ rfl)
      have y0 : wr.cell? ⟨b2, o2 + k * 5, none⟩ = some (.bool true) := below_some HK.out (hc2 0 _ rfl)
      have y1 : wr.cell? ⟨b2, o2 + k * 5 + 1, none⟩ = some (.slice q2 k1 m2) := below_some HK.out (hc2 1 _ rfl)
      have y2 : wr.cell? ⟨b2, o2 + k * 5 + 2, none⟩ = some (.slice q2' k1' m2') := below_some HK.out (hc2 2 _ rfl)
      have y3 : wr.cell? ⟨b2, o2 + k * 5 + 3, none⟩ = some (.int .i64 u.x) := below_some HK.out (hc2 3 _ rfl)
      have y4 : wr.cell? ⟨b2, o2 + k * 5 + 4, none⟩ = some (.string u.tx) := below_some HK.out (hc2 4 _ rfl)
      have lt2 : b2 < wr.heap.size := heap_lt_of_cell y0
      have HS := Lib.hid (fun w1 (hk1 : Kp wr w1) => sameGot_same q1 q2 q1' q2' k1 m1 m2 k1' m1' m2' u.d1 u.d2 u.x u.tx w1 (bin_kp HR1.out.2.1 (HK.out.trans hk1)) (bin_kp HR2.out.2.1 (HK.out.trans hk1)) HR1.out.1 (bin_kp HR1.out.2.2.2 (HK.out.trans hk1)) (bin_kp HR2.out.2.2.2 (HK.out.trans hk1)) HR1.out.2.2.1)
      clear hc1 hc2
      go_wp2_with fail
      refine (HS.out _ (((Kp.refl wr).alloc _).alloc _)).mono ?_
      rintro e w2 ⟨rfl, hb2⟩
      have HB2 := Lib.hid (show Kp wr w2 from (((Kp.refl wr).alloc _).alloc _).trans hb2)
      clear hb2 HS x0 x1 x2 x3 x4 y0 y1 y2 y3 y4
      go_wp2_with fail
      go_roundg (n - (k + 1))
      case measure => have := HLT.out; omega
      case rel => exact ⟨k + 1, rfl, HLT.out, by go_num, HK.out.trans HB2.out⟩
    · obtain rfl : k = n := by have := HKN.out; omega
      clear hlt
      go_wp2_with fail
      go_ret
      exact ⟨rfl, HK.out⟩
end Go.Proofs.YtacmnibhdmeidaaDoor
