/-
  A number that is torn: read, GetInt64 and GetInt at the end of the input.
-/
import Derived.Test.YtgjfejalinkohaaDoorSes12
namespace Go.Proofs.YtgjfejalinkohaaDoor
open Go Go.RowKit

/-- The error of the input's end stands in its variable. -/
def EndAt (w : World) (tp : TypeId) (a : Addr) : Prop := w.cell? ⟨2, 0, none⟩ = some (.iface tp (.pointer (some a)))
section
variable {w w' : World} {g n c i : Nat} {p : Option Addr} {xs : List Int} {big : Bool} {tp : TypeId} {a : Addr}
theorem EndAt.kp (h : EndAt w tp a) (hk : Kp w w') : EndAt w' tp a := below_some hk h
theorem EndAt.drewN (h : EndAt w tp a) (k : Nat) : EndAt (w.drewN k) tp a := h
theorem EndAt.ne (h : EndAt w tp a) (hR : RS w g p n c xs big i) : 2 ≠ g := fun e => by
  have h1 := hR.blk.cell 0
  unfold EndAt at h
  rw [← e, h] at h1
  simp [sesC] at h1
theorem EndAt.grown (h : EndAt w tp a) (hR : RS w g p n c xs big i) (hg : w.grownBy w' (some g)) : EndAt w' tp a := grown_cell hg h (h.ne hR)
end
/-- An error, and the session behind it. -/
def TornG (g : Nat) (p : Option Addr) (n c : Nat) (xs : List Int) (big : Bool) (v : Value) (tp : TypeId) (a : Addr) (w : World) (e : Ending) (w' : World) : Prop := ∃ j, e = .returned (.tuple #[v, .iface tp (.pointer (some a))]) ∧ RS w' g p n c xs big j ∧ w.grownBy w' (some g)

set_option maxHeartbeats 1000000 in
theorem read_torn (g : Nat) (p : Option Addr) (n c : Nat) (xs : List Int) (big : Bool) (i k : Nat) (w : World) (tp : TypeId) (a : Addr) (h : RS w g p n c xs big i) (he : EndAt w tp a) (hk : n < i + k) (h8 : k ≤ 1000) :
    Calls Tryd.prog 81 #[.pointer (some ⟨g, 0, none⟩), .int .i64 k] w (TornG g p n c xs big (.slice none 0 0) tp a w) := by
  have c0 : w.cell? ⟨g, 0, none⟩ = some (.slice p n c) := h.blk.cell 0
  have c4 : w.cell? ⟨g, 4, none⟩ = some (.int .i64 i) := h.blk.cell 4
  have x0 : w.cell? ⟨2, 0, none⟩ = some (.iface tp (.pointer (some a))) := he
  have hle := h.le
  have hnm := h.nm
  have H := Lib.hid h
  have i0 : (0 : Int) ≤ (i : Int) := by omega
  have i1 : (0 : Int) ≤ (k : Int) := by omega
  have i2 : ((i : Nat) : Int) ≤ (n : Int) := by omega
  have i3 : ((n : Nat) : Int) ≤ 1099511627776 := by omega
  have i4 : ((k : Nat) : Int) ≤ 1000 := by omega
  have e1 : IntKind.i64.wrap ((i : Int) + (k : Int)) = (i : Int) + (k : Int) := IntWalk.i64_in _ (by omega)
  have e5 : (n : Int) < (i : Int) + (k : Int) := by omega
  have e6 : decide ((n : Int) < (i : Int) + (k : Int)) = true := by simp; omega
  clear hk h8 hle hnm h he
  go_enter Tryd.func81, Tryd.ntmps81
  go_wp2
  go_quiet (fail)
  go_wp2
  go_quiet (fail)
  go_wp2
  go_ret2
  exact ⟨i, rfl, (H.out.drewN _).drewN _, grown_drewN (grown_drewN (World.grownBy.refl w _) _) _⟩

set_option maxHeartbeats 1000000 in
theorem getInt64_tornp (g : Nat) (p : Option Addr) (n c : Nat) (xs : List Int) (big : Bool) (be0 : Bool) (i s : Nat) (w : World) (tp : TypeId) (a : Addr) (h : RS w g p n c xs big i) (he : EndAt w tp a) (h0 : 0 < s) (h8 : s ≤ 8) (hk : n < i + s) :
    Calls Tryd.prog 63 #[.pointer (some ⟨g, 0, none⟩), .int .i64 (s : Int), .bool false, .bool be0] w (TornG g p n c xs big (.int .i64 0) tp a w) := by
  have C := Lib.hid (read_torn g p n c xs big i s w tp a h he hk (by omega))
  have i0 : (0 : Int) < (s : Int) := by omega
  have i1 : (s : Int) ≤ 8 := by omega
  have e0 : ((s : Int) == 0) = false := by simp; omega
  clear h he h0 h8 hk
  go_enter Tryd.func63, Tryd.ntmps63
  go_wp2_with fail
  refine C.out.mono ?_
  rintro e w2 ⟨j, rfl, hR⟩
  have HH := Lib.hid hR
  clear hR C
  go_wp2_with fail
  go_ret2
  exact ⟨j, rfl, HH.out⟩

set_option maxRecDepth 100000 in
set_option maxHeartbeats 2000000 in
theorem getInt64_tornl (g : Nat) (p : Option Addr) (n c : Nat) (xs : List Int) (big : Bool) (be0 : Bool) (i : Nat) (sz : Int) (t : List Int) (s : Nat) (w : World) (tp : TypeId) (a : Addr) (h : RS w g p n c xs big i) (he : EndAt w tp a) (hx : xs.drop i = ((s : Int)) :: t) (h0 : 0 < s) (h8 : s ≤ 8) (hs : t.length < s) :
    Calls Tryd.prog 63 #[.pointer (some ⟨g, 0, none⟩), .int .i64 sz, .bool true, .bool be0] w (TornG g p n c xs big (.int .i64 0) tp a w) := by
  have hl : i + 1 ≤ n := by
    have := congrArg List.length hx
    simp at this
    have := h.len
    omega
  have hr : xs.drop (i + 1) = t := by rw [← List.drop_drop, hx]; rfl
  have hb1 : (xs.drop i).take 1 = [(s : Int)] := by rw [hx]; rfl
  have C0 := read_any g p n c xs big i 1 w h hl
  rw [hr, hb1] at C0
  have C := Lib.hid C0
  have D := Lib.hid (fun (i' : Nat) (w1 : World) (h1 : RS w1 g p n c xs big i') (ht : t = xs.drop i') (he1 : EndAt w1 tp a) => read_torn g p n c xs big i' s w1 tp a h1 he1 (by
    have := congrArg List.length ht
    simp at this
    have := h1.len
    have := h1.le
    omega) (by omega))
  have x1 := and128i_lo (s : Int) (by omega) (by omega)
  have i0 : (0 : Int) < (s : Int) := by omega
  have i1 : (s : Int) ≤ 8 := by omega
  have e0 : ((s : Int) == 0) = false := by simp; omega
  have HH0 := Lib.hid h
  have HE := Lib.hid he
  clear C0 h hl hr hb1 hx hs h8 h0 he
  go_enter Tryd.func63, Tryd.ntmps63
  go_wp2_with fail
  refine C.out.mono ?_
  rintro e w1 ⟨q, k', m, i', rfl, hk', hin, hmm, hm2, hqq, hR, hri, hg1⟩
  obtain rfl : k' = 1 := hk'.symm
  obtain ⟨g1, o1, rfl, hc⟩ := hin (by simp)
  have c0 : w1.cell? ⟨g1, o1, none⟩ = some (.int .u8 ((s : Int))) := hc 0 (by simp)
  have DD := Lib.hid (D.out i' w1 hR hri (HE.out.grown HH0.out hg1))
  have HG1 := Lib.hid hg1
  clear hk' hin hc hmm hm2 hqq hR hri hg1 C D
  go_wp2_with fail
  refine DD.out.mono ?_
  rintro e w2 ⟨j, rfl, hR, hg2⟩
  have HH := Lib.hid (And.intro hR (grown_trans HG1.out hg2))
  clear hR hg2 DD
  go_wp2_with fail
  go_ret2
  exact ⟨j, rfl, HH.out⟩


set_option maxRecDepth 100000 in
set_option maxHeartbeats 2000000 in
theorem getInt64_tornh (g : Nat) (p : Option Addr) (n c : Nat) (xs : List Int) (big : Bool) (be0 : Bool) (i : Nat) (sz : Int) (t : List Int) (s : Nat) (w : World) (tp : TypeId) (a : Addr) (h : RS w g p n c xs big i) (he : EndAt w tp a) (hx : xs.drop i = ((s : Int) + 128) :: t) (h0 : 0 < s) (h8 : s ≤ 8) (hs : t.length < s) :
    Calls Tryd.prog 63 #[.pointer (some ⟨g, 0, none⟩), .int .i64 sz, .bool true, .bool be0] w (TornG g p n c xs big (.int .i64 0) tp a w) := by
  have hl : i + 1 ≤ n := by
    have := congrArg List.length hx
    simp at this
    have := h.len
    omega
  have hr : xs.drop (i + 1) = t := by rw [← List.drop_drop, hx]; rfl
  have hb1 : (xs.drop i).take 1 = [(s : Int) + 128] := by rw [hx]; rfl
  have C0 := read_any g p n c xs big i 1 w h hl
  rw [hr, hb1] at C0
  have C := Lib.hid C0
  have D := Lib.hid (fun (i' : Nat) (w1 : World) (h1 : RS w1 g p n c xs big i') (ht : t = xs.drop i') (he1 : EndAt w1 tp a) => read_torn g p n c xs big i' s w1 tp a h1 he1 (by
    have := congrArg List.length ht
    simp at this
    have := h1.len
    have := h1.le
    omega) (by omega))
  have x1 := and128i_hi ((s : Int) + 128) (by omega) (by omega)
  have x2 := and127i_hi ((s : Int) + 128) (by omega) (by omega)
  have x3 : (s : Int) + 128 - 128 = (s : Int) := by omega
  have i0 : (0 : Int) < (s : Int) := by omega
  have i1 : (s : Int) ≤ 8 := by omega
  have e0 : ((s : Int) == 0) = false := by simp; omega
  have HH0 := Lib.hid h
  have HE := Lib.hid he
  clear C0 h hl hr hb1 hx hs h8 h0 he
  go_enter Tryd.func63, Tryd.ntmps63
  go_wp2_with fail
  refine C.out.mono ?_
  rintro e w1 ⟨q, k', m, i', rfl, hk', hin, hmm, hm2, hqq, hR, hri, hg1⟩
  obtain rfl : k' = 1 := hk'.symm
  obtain ⟨g1, o1, rfl, hc⟩ := hin (by simp)
  have c0 : w1.cell? ⟨g1, o1, none⟩ = some (.int .u8 ((s : Int) + 128)) := hc 0 (by simp)
  have DD := Lib.hid (D.out i' w1 hR hri (HE.out.grown HH0.out hg1))
  have HG1 := Lib.hid hg1
  clear hk' hin hc hmm hm2 hqq hR hri hg1 C D
  go_wp2_with fail
  refine DD.out.mono ?_
  rintro e w2 ⟨j, rfl, hR, hg2⟩
  have HH := Lib.hid (And.intro hR (grown_trans HG1.out hg2))
  clear hR hg2 DD
  go_wp2_with fail
  go_ret2
  exact ⟨j, rfl, HH.out⟩


/-- A number that is torn. -/
def TornI (sz : Nat) (cm : Bool) (l : List Int) : Prop := if cm then ∃ b t, l = b :: t ∧ (b % 128).toNat ≤ 8 ∧ t.length < (b % 128).toNat else 0 < sz ∧ sz ≤ 8 ∧ l.length < sz
theorem getInt64_torn (g : Nat) (p : Option Addr) (n c : Nat) (xs : List Int) (big : Bool) (cm be0 : Bool) (i s : Nat) (w : World) (tp : TypeId) (a : Addr) (h : RS w g p n c xs big i) (he : EndAt w tp a) (ht : TornI s cm (xs.drop i)) :
    Calls Tryd.prog 63 #[.pointer (some ⟨g, 0, none⟩), .int .i64 (s : Int), .bool cm, .bool be0] w (TornG g p n c xs big (.int .i64 0) tp a w) := by
  unfold TornI at ht
  cases cm
  · obtain ⟨h0, h8, hl⟩ := ht
    refine getInt64_tornp g p n c xs big be0 i s w tp a h he h0 h8 ?_
    have := h.len
    have := h.le
    simp at hl
    omega
  · obtain ⟨b, t, hx, h8, hl⟩ := ht
    have hb := h.byt b (List.mem_of_mem_drop (i := i) (by rw [hx]; simp))
    by_cases h128 : 128 ≤ b
    · have e : b = (((b % 128).toNat : Nat) : Int) + 128 := by omega
      exact getInt64_tornh g p n c xs big be0 i s t (b % 128).toNat w tp a h he (by rw [← e]; exact hx) (by omega) h8 hl
    · have e : b = (((b % 128).toNat : Nat) : Int) := by omega
      exact getInt64_tornl g p n c xs big be0 i s t (b % 128).toNat w tp a h he (by rw [← e]; exact hx) (by omega) h8 hl
theorem getInt_torn (g : Nat) (p : Option Addr) (n c : Nat) (xs : List Int) (big : Bool) (cm be0 : Bool) (i s : Nat) (w : World) (tp : TypeId) (a : Addr) (h : RS w g p n c xs big i) (he : EndAt w tp a) (ht : TornI s cm (xs.drop i)) :
    Calls Tryd.prog 64 #[.pointer (some ⟨g, 0, none⟩), .int .i64 (s : Int), .bool cm, .bool be0] w (TornG g p n c xs big (.int .i64 0) tp a w) := by
  have C := Lib.hid (getInt64_torn g p n c xs big cm be0 i s w tp a h he ht)
  clear h he ht
  go_enter Tryd.func64, Tryd.ntmps64
  go_wp2_with fail
  refine C.out.mono ?_
  rintro e w2 ⟨j, rfl, hR⟩
  have HH := Lib.hid hR
  clear hR C
  go_wp2_with fail
  go_ret2
  exact ⟨j, rfl, HH.out⟩

end Go.Proofs.YtgjfejalinkohaaDoor
