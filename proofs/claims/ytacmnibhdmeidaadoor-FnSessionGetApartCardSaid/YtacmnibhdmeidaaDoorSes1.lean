/-
  A session that reads: its block, its input, and read, GetByte, GetBytes.
-/
import Derived.Test.YtacmnibhdmeidaaDoorGen
import Derived.Test.YtacmnibhdmeidaaDoorApp
import Derived.Test.YtacmnibhdmeidaaDoorSes0
namespace Go.Proofs.YtacmnibhdmeidaaDoor
open Go Go.RowKit

/-- The cells of a session that reads. -/
def sesC (p : Option Addr) (n c i : Nat) (big : Bool) : Array Value := #[.slice p n c, .slice none 0 0, .int .i64 0, .int .i8 0, .int .i64 i, .bool big, .int .i64 64]
/-- A session that reads: block g, the input xs at p, read up to i. -/
structure RS (w : World) (g : Nat) (p : Option Addr) (n c : Nat) (xs : List Int) (big : Bool) (i : Nat) : Prop where
  blk : Blk w g 94 (sesC p n c i big)
  inp : Lib.BytesIn w p n xs
  old : ∀ a, p = some a → ∃ b o, a = ⟨b, o, none⟩ ∧ b < g
  len : xs.length = n
  byt : ∀ x ∈ xs, 0 ≤ x ∧ x < 256
  le : i ≤ n
  nc : n ≤ c
  nm : n ≤ 1099511627776
  cm : c ≤ maxLen
  nl : p = none → c = 0
section
variable {w w' : World} {g n c i : Nat} {p : Option Addr} {xs : List Int} {big : Bool}
theorem bin_grown {m : Nat} {ys : List Int} {q : Option Addr} {w w' : World} (h : Lib.BytesIn w q m ys) (hg : w.grownBy w' (some g)) (hq : ∀ a, q = some a → a.block ≠ g) : Lib.BytesIn w' q m ys := fun hn => by
  obtain ⟨b, o, rfl, hc⟩ := h hn
  exact ⟨b, o, rfl, fun j hj => grown_cell hg (hc j hj) (hq ⟨b, o, none⟩ rfl)⟩
theorem RS.grown (h : RS w g p n c xs big i) {h' : Nat} (hg : w.grownBy w' (some h')) (hne : g < h') : RS w' g p n c xs big i :=
  { h with blk := h.blk.grown hg (fun e => by injection e; omega), inp := bin_grown h.inp hg (fun a ha => by obtain ⟨b, o, rfl, hb⟩ := h.old a ha; dsimp only; omega) }
theorem RS.kp (h : RS w g p n c xs big i) (hk : Kp w w') : RS w' g p n c xs big i :=
  { h with blk := h.blk.kp hk, inp := bin_kp h.inp hk }
theorem RS.drewN (h : RS w g p n c xs big i) (k : Nat) : RS (w.drewN k) g p n c xs big i :=
  { h with blk := h.blk.drewN k, inp := h.inp }
theorem RS.put (h : RS w g p n c xs big i) {j : Nat} (hj : j ≤ n) : RS (w.setCell ⟨g, 4, none⟩ (.int .i64 j)) g p n c xs big j :=
  { h with
    le := hj
    blk := by have := h.blk.set_ 4 (.int .i64 j); simpa [sesC] using this
    inp := fun hn => by
      obtain ⟨b, o, he, hc⟩ := h.inp hn
      obtain ⟨b', o', hh, hlt⟩ := h.old _ he
      injection hh with h1 h2
      exact ⟨b, o, he, fun k hk => by rw [World.cell?_setCell_other _ _ _ _ (fun e => by injection e with e; omega)]; exact hc k hk⟩ }
end
/-- Some bytes, in whatever memory, and the session behind them. -/
def GotB (g : Nat) (p : Option Addr) (n c : Nat) (xs : List Int) (big : Bool) (r d : List Int) (w : World) (e : Ending) (w' : World) : Prop :=
  ∃ q k m i, e = .returned (.tuple #[.slice q k m, .nilIface]) ∧ d.length = k ∧ Lib.BytesIn w' q k d ∧ k ≤ m ∧ m ≤ maxLen ∧ RS w' g p n c xs big i ∧ r = xs.drop i ∧ w.grownBy w' (some g)

/-- The same, within the input. -/
def GotR (g : Nat) (p : Option Addr) (n c : Nat) (xs : List Int) (big : Bool) (r d : List Int) (w : World) (e : Ending) (w' : World) : Prop :=
  ∃ q k m i, e = .returned (.tuple #[.slice q k m, .nilIface]) ∧ d.length = k ∧ Lib.BytesIn w' q k d ∧ k ≤ m ∧ m ≤ maxLen ∧ (0 < n → ∃ b o, q = some ⟨b, o, none⟩ ∧ b < g) ∧ RS w' g p n c xs big i ∧ r = xs.drop i ∧ w.grownBy w' (some g)

theorem drop_take_len {xs : List Int} {n i k : Nat} (hl : xs.length = n) (h : i + k ≤ n) : ((xs.drop i).take k).length = k := by simp; omega
theorem win_bin {w : World} {b o n i k : Nat} {xs : List Int} (h : Lib.BytesIn w (some ⟨b, o, none⟩) n xs) (hl : xs.length = n) (hk : i + k ≤ n) : Lib.BytesIn w (some ⟨b, o + i, none⟩) k ((xs.drop i).take k) := fun hn => by
  obtain ⟨b', o', he, hc⟩ := h (by omega)
  injection he with he
  injection he with h1 h2
  subst h1 h2
  exact ⟨b, o + i, rfl, fun j hj => by
    rw [Nat.add_assoc, hc (i + j) (by omega)]
    simp [List.getD_eq_getElem?_getD, hj]⟩

set_option maxHeartbeats 1000000 in
theorem read_some (g b o n c : Nat) (xs : List Int) (big : Bool) (i k : Nat) (w : World) (h : RS w g (some ⟨b, o, none⟩) n c xs big i) (hk : i + k ≤ n) (hne : i ≠ c) :
    Calls Tryd.prog 75 #[.pointer (some ⟨g, 0, none⟩), .int .i64 k] w fun e w' => e = .returned (.tuple #[.slice (some ⟨b, o + i, none⟩) k (c - i), .nilIface]) ∧ ∃ nq, w' = (w.drewN nq).setCell ⟨g, 4, none⟩ (.int .i64 ((i + k : Nat) : Int)) := by
  have c0 : w.cell? ⟨g, 0, none⟩ = some (.slice (some ⟨b, o, none⟩) n c) := h.blk.cell 0
  have c4 : w.cell? ⟨g, 4, none⟩ = some (.int .i64 i) := h.blk.cell 4
  have f4 : w.frozen? ⟨g, 4, none⟩ = false := h.blk.frozen 4
  have hnc := h.nc
  have hnm := h.nm
  have hcm := h.cm
  unfold maxLen at hcm
  have i0 : (0 : Int) ≤ (i : Int) := by omega
  have i1 : (0 : Int) ≤ (k : Int) := by omega
  have i2 : ((i : Nat) : Int) ≤ (n : Int) := by omega
  have i3 : ((n : Nat) : Int) ≤ (c : Int) := by omega
  have i4 : ((c : Nat) : Int) ≤ 9223372036854775807 := by omega
  have i6 : ((n : Nat) : Int) ≤ 1099511627776 := by omega
  have i5 : (i : Int) + (k : Int) ≤ (n : Int) := by omega
  have e1 : IntKind.i64.wrap ((i : Int) + (k : Int)) = (i : Int) + (k : Int) := IntWalk.i64_in _ (by omega)
  have e2 : ((i : Int) + (k : Int)).toNat = i + k := by omega
  have e3 : i + k - i = k := by omega
  have e4 : (c = i) = False := by simp; omega
  have e5 : decide ((n : Int) < (i : Int) + (k : Int)) = false := by simp; omega
  have HE := Lib.hid (show (((i + k : Nat) : Int)) = (i : Int) + (k : Int) by omega)
  clear hk hne hnc hcm hnm h
  go_enter Tryd.func75, Tryd.ntmps75
  go_wp2
  go_quiet (fail)
  go_wp2
  go_quiet (fail)
  go_wp2
  go_ret2
  exact ⟨rfl, _, by rw [HE.out]⟩

theorem RS.stored {w : World} {g n c i : Nat} {p : Option Addr} {xs : List Int} {big : Bool} (h : RS w g p n c xs big i) {j : Nat} (hj : j ≤ n) (nq : Nat) : RS ((w.drewN nq).setCell ⟨g, 4, none⟩ (.int .i64 ((j : Nat) : Int))) g p n c xs big j ∧ w.grownBy ((w.drewN nq).setCell ⟨g, 4, none⟩ (.int .i64 ((j : Nat) : Int))) (some g) :=
  ⟨(h.drewN nq).put hj, grown_trans (grown_drewN (World.grownBy.refl w _) nq) (Lib.grownBy_setCell _ g 4 _)⟩

set_option maxHeartbeats 1000000 in
theorem read_end (g : Nat) (p : Option Addr) (n : Nat) (xs : List Int) (big : Bool) (w : World) (h : RS w g p n n xs big n) :
    Calls Tryd.prog 75 #[.pointer (some ⟨g, 0, none⟩), .int .i64 0] w fun e w' => e = .returned (.tuple #[.slice p 0 0, .nilIface]) ∧ ∃ nq, w' = (w.drewN nq).setCell ⟨g, 4, none⟩ (.int .i64 (n : Int)) := by
  have c0 : w.cell? ⟨g, 0, none⟩ = some (.slice p n n) := h.blk.cell 0
  have c4 : w.cell? ⟨g, 4, none⟩ = some (.int .i64 n) := h.blk.cell 4
  have f4 : w.frozen? ⟨g, 4, none⟩ = false := h.blk.frozen 4
  have hcm := h.nm
  have i0 : (0 : Int) ≤ (n : Int) := by omega
  have i4 : ((n : Nat) : Int) ≤ 1099511627776 := by omega
  clear hcm h
  go_enter Tryd.func75, Tryd.ntmps75
  go_wp2
  go_quiet (fail)
  go_wp2
  go_quiet (fail)
  go_wp2
  go_ret2
  exact ⟨rfl, _, rfl⟩

/-- read: some bytes that are there. -/
theorem read_any (g : Nat) (p : Option Addr) (n c : Nat) (xs : List Int) (big : Bool) (i k : Nat) (w : World) (h : RS w g p n c xs big i) (hk : i + k ≤ n) :
    Calls Tryd.prog 75 #[.pointer (some ⟨g, 0, none⟩), .int .i64 k] w (GotR g p n c xs big (xs.drop (i + k)) ((xs.drop i).take k) w) := by
  have hl := drop_take_len h.len hk
  by_cases hc : i = c
  · have h1 := h.nc
    have hn : n = c := by omega
    have hk0 : k = 0 := by omega
    subst hk0 hn hc
    refine (read_end g p i xs big w h).mono ?_
    rintro e w' ⟨rfl, nq, rfl⟩
    obtain ⟨a, b⟩ := h.stored (j := i) (Nat.le_refl _) nq
    exact ⟨p, 0, 0, i, rfl, by simp, Lib.BytesIn.nil _ _ _, by simp, by decide, fun h0 => by
      cases hp : p with
      | none => have := h.nl hp; omega
      | some a => obtain ⟨b, o, rfl, hb⟩ := h.old a hp; exact ⟨b, o, rfl, hb⟩, a, rfl, b⟩
  · have h1 := h.nc
    have h2 := h.le
    cases p with
    | none => have := h.nl rfl; omega
    | some a =>
      obtain ⟨b, o, rfl, hbg⟩ := h.old a rfl
      refine (read_some g b o n c xs big i k w h hk hc).mono ?_
      rintro e w' ⟨rfl, nq, rfl⟩
      obtain ⟨a1, a2⟩ := h.stored (j := i + k) hk nq
      exact ⟨_, k, c - i, i + k, rfl, hl, win_bin a1.inp h.len hk, by omega, by have := h.cm; omega, fun _ => ⟨b, o + i, rfl, hbg⟩, a1, rfl, a2⟩

theorem getBytes_any (g : Nat) (p : Option Addr) (n c : Nat) (xs : List Int) (big : Bool) (i k : Nat) (w : World) (h : RS w g p n c xs big i) (hk : i + k ≤ n) :
    Calls Tryd.prog 50 #[.pointer (some ⟨g, 0, none⟩), .int .i64 k] w (GotR g p n c xs big (xs.drop (i + k)) ((xs.drop i).take k) w) := by
  have C := Lib.hid (read_any g p n c xs big i k w h hk)
  clear h hk
  go_enter Tryd.func50, Tryd.ntmps50
  go_wp2_with fail
  refine C.out.mono ?_
  rintro e w' ⟨q, k', m, i', rfl, H⟩
  have HH := Lib.hid H
  clear H
  go_wp2
  go_ret2
  exact ⟨q, k', m, i', rfl, HH.out⟩

/-- A number, in whatever memory, and the session behind it. -/
def GotN (g : Nat) (p : Option Addr) (n c : Nat) (xs : List Int) (big : Bool) (k : IntKind) (r : List Int) (x : Int) (w : World) (e : Ending) (w' : World) : Prop :=
  ∃ i, e = .returned (.tuple #[.int k x, .nilIface]) ∧ RS w' g p n c xs big i ∧ r = xs.drop i ∧ w.grownBy w' (some g)

theorem getByte_any (g : Nat) (p : Option Addr) (n c : Nat) (xs : List Int) (big : Bool) (i : Nat) (b : Int) (r : List Int) (w : World) (h : RS w g p n c xs big i) (hx : xs.drop i = b :: r) :
    Calls Tryd.prog 49 #[.pointer (some ⟨g, 0, none⟩)] w (GotN g p n c xs big .u8 r b w) := by
  have hl : i + 1 ≤ n := by
    have := congrArg List.length hx
    simp at this
    have := h.len
    omega
  have hr : xs.drop (i + 1) = r := by rw [← List.drop_drop, hx]; rfl
  have hb : (xs.drop i).take 1 = [b] := by rw [hx]; rfl
  have C0 := read_any g p n c xs big i 1 w h hl
  rw [hr, hb] at C0
  have C := Lib.hid C0
  clear C0 h hl hr hb hx
  go_enter Tryd.func49, Tryd.ntmps49
  go_wp2_with fail
  refine C.out.mono ?_
  rintro e w' ⟨q, k', m, i', rfl, hk', hin, H⟩
  obtain rfl : k' = 1 := hk'.symm
  obtain ⟨g1, o1, rfl, hc⟩ := hin (by simp)
  have c0 : w'.cell? ⟨g1, o1, none⟩ = some (.int .u8 b) := hc 0 (by simp)
  clear hk'
  have HH := Lib.hid H
  clear H hc hin
  go_wp2
  go_ret2
  exact ⟨i', rfl, HH.out.2.2.2.1, HH.out.2.2.2.2.1, HH.out.2.2.2.2.2⟩
end Go.Proofs.YtacmnibhdmeidaaDoor
