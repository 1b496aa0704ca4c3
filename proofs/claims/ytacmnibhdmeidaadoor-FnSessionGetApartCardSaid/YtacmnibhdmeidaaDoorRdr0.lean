/-
  The reference's reader of a session: its block, take.
-/
import Derived.Test.YtacmnibhdmeidaaDoorGen
import Derived.Test.YtacmnibhdmeidaaDoorApp
import Derived.Test.YtacmnibhdmeidaaDoorSes0
namespace Go.Proofs.YtacmnibhdmeidaaDoor
open Go Go.RowKit

/-- A reader of the reference: block R, the bytes l at p, torn t, open o. -/
structure Rd (w : World) (R : Nat) (p : Option Addr) (n c : Nat) (l : List Int) (t o : Bool) : Prop where
  blk : Blk w R 39 #[.slice p n c, .bool t, .bool o]
  inp : Lib.BytesIn w p n l
  old : ∀ a, p = some a → ∃ b o, a = ⟨b, o, none⟩ ∧ b < w.heap.size ∧ b ≠ R
  len : l.length = n
  byt : ∀ x ∈ l, 0 ≤ x ∧ x < 256
  nc : n ≤ c
  nm : n ≤ 1000000
  cm : c ≤ maxLen
  nl : p = none → c = 0
section
variable {w w' : World} {R n c : Nat} {p : Option Addr} {l : List Int} {t o : Bool}
theorem Rd.kp (h : Rd w R p n c l t o) (hk : Kp w w') : Rd w' R p n c l t o :=
  { h with blk := h.blk.kp hk, inp := bin_kp h.inp hk, old := fun a ha => by obtain ⟨b, o, e, h1, h2⟩ := h.old a ha; exact ⟨b, o, e, Nat.lt_of_lt_of_le h1 hk.size, h2⟩ }
theorem Rd.grown (h : Rd w R p n c l t o) {r : Option Nat} (hg : w.grownBy w' r) (hr : ∀ k, r = some k → w.heap.size ≤ k ∨ (k ≠ R ∧ ∀ a, p = some a → a.block ≠ k)) : Rd w' R p n c l t o :=
  { h with
    blk := h.blk.grown hg (fun e => by rcases hr R e.symm with h1 | ⟨h1, _⟩
                                       · have := h.blk.lt; omega
                                       · exact h1 rfl)
    inp := fun hn => by
      obtain ⟨b, o, he, hc⟩ := h.inp hn
      refine ⟨b, o, he, fun i hi => (World.cell?_of_block (hg.block b (heap_lt_of_cell (hc i hi)) (fun e => ?_))).trans (hc i hi)⟩
      rcases hr b e.symm with h1 | ⟨_, h1⟩
      · have := heap_lt_of_cell (hc i hi); dsimp only at this; omega
      · exact h1 _ he rfl
    old := fun a ha => by obtain ⟨b, o, e, h1, h2⟩ := h.old a ha; exact ⟨b, o, e, Nat.lt_of_lt_of_le h1 hg.size, h2⟩ }
theorem Rd.torn (h : Rd w R p n c l t o) : Rd (w.setCell ⟨R, 1, none⟩ (.bool true)) R p n c l true o ∧ w.grownBy (w.setCell ⟨R, 1, none⟩ (.bool true)) (some R) := by
  have hg := Lib.grownBy_setCell w R 1 (.bool true)
  refine ⟨{ h with blk := by have := h.blk.set_ 1 (.bool true); simpa using this, inp := fun hn => ?_, old := fun a ha => by obtain ⟨b, o, e, h1, h2⟩ := h.old a ha; exact ⟨b, o, e, by simpa [World.setCell] using h1, h2⟩ }, hg⟩
  obtain ⟨b, o', he, hc⟩ := h.inp hn
  obtain ⟨b2, o2, he2, _, hne⟩ := h.old _ he
  injection he2 with h1
  subst h1
  exact ⟨b, o', he, fun i hi => grown_cell hg (hc i hi) hne⟩
theorem Rd.opened (h : Rd w R p n c l t o) : Rd (w.setCell ⟨R, 2, none⟩ (.bool true)) R p n c l t true ∧ w.grownBy (w.setCell ⟨R, 2, none⟩ (.bool true)) (some R) := by
  have hg := Lib.grownBy_setCell w R 2 (.bool true)
  refine ⟨{ h with blk := by have := h.blk.set_ 2 (.bool true); simpa using this, inp := fun hn => ?_, old := fun a ha => by obtain ⟨b, o, e, h1, h2⟩ := h.old a ha; exact ⟨b, o, e, by simpa [World.setCell] using h1, h2⟩ }, hg⟩
  obtain ⟨b, o', he, hc⟩ := h.inp hn
  obtain ⟨b2, o2, he2, _, hne⟩ := h.old _ he
  injection he2 with h1
  subst h1
  exact ⟨b, o', he, fun i hi => grown_cell hg (hc i hi) hne⟩
/-- The reader's rest, set anew. -/
theorem Rd.left (h : Rd w R p n c l t o) {p' : Option Addr} {n' c' : Nat} {l' : List Int} (hin : Lib.BytesIn w p' n' l') (hold : ∀ a, p' = some a → ∃ b o, a = ⟨b, o, none⟩ ∧ b < w.heap.size ∧ b ≠ R) (hl : l'.length = n') (hb : ∀ x ∈ l', 0 ≤ x ∧ x < 256) (h1 : n' ≤ c') (h2 : n' ≤ 1000000) (h3 : c' ≤ maxLen) (h4 : p' = none → c' = 0) :
    Rd (w.setCell ⟨R, 0, none⟩ (.slice p' n' c')) R p' n' c' l' t o ∧ w.grownBy (w.setCell ⟨R, 0, none⟩ (.slice p' n' c')) (some R) := by
  have hg := Lib.grownBy_setCell w R 0 (.slice p' n' c')
  refine ⟨⟨by have := h.blk.set_ 0 (.slice p' n' c'); simpa using this, fun hn => ?_, fun a ha => by obtain ⟨b, o, e, h1, h2⟩ := hold a ha; exact ⟨b, o, e, by simpa [World.setCell] using h1, h2⟩, hl, hb, h1, h2, h3, h4⟩, hg⟩
  obtain ⟨b, o', he, hc⟩ := hin hn
  obtain ⟨b2, o2, he2, _, hne⟩ := hold _ he
  injection he2 with h1
  subst h1
  exact ⟨b, o', he, fun i hi => grown_cell hg (hc i hi) hne⟩
end
/-- The same block. -/
def Sub (p p' : Option Addr) : Prop := ∀ a', p' = some a' → ∃ a, p = some a ∧ a'.block = a.block
theorem Sub.refl (p : Option Addr) : Sub p p := fun a h => ⟨a, h, rfl⟩
theorem Sub.trans {p q r : Option Addr} (h : Sub p q) (k : Sub q r) : Sub p r := fun a ha => by
  obtain ⟨b, hb, e⟩ := k a ha
  obtain ⟨c, hc, e2⟩ := h b hb
  exact ⟨c, hc, e.trans e2⟩
theorem Sub.lt {p q : Option Addr} (h : Sub p q) {B : Nat} (hp : ∀ a, p = some a → a.block < B) : ∀ a, q = some a → a.block < B := fun a ha => by
  obtain ⟨b, hb, e⟩ := h a ha
  rw [e]; exact hp b hb
/-- What take gives: nothing and a torn reader, or so many bytes of one that was whole. -/
def TakeP (R : Nat) (p : Option Addr) (l : List Int) (t o : Bool) (k : Int) (w : World) (e : Ending) (w' : World) : Prop :=
  ∃ q m d p' n' c' l' t' ys, e = .returned (.slice q m d) ∧ Rd w' R p' n' c' l' t' o ∧ w.grownBy w' (some R) ∧ Lib.BytesIn w' q m ys ∧ ys.length = m ∧ m ≤ d ∧ d ≤ maxLen ∧ (∀ a, q = some a → a.block < w.heap.size ∧ a.block ≠ R) ∧ (q = none → m = 0 ∧ d = 0) ∧
    (∀ x ∈ ys, 0 ≤ x ∧ x < 256) ∧ l'.length ≤ l.length ∧ w'.heap.size = w.heap.size ∧ Sub p p' ∧
    (t' = true ∧ ys = [] ∧ l' = l ∨ t' = false ∧ t = false ∧ o = false ∧ ∃ kn : Nat, k = kn ∧ kn ≤ l.length ∧ ys = l.take kn ∧ l' = l.drop kn)

theorem takeP_bad {R : Nat} {l : List Int} {t o : Bool} {k : Int} {w : World} {p : Option Addr} {n c : Nat} (h : Rd w R p n c l t o) : TakeP R p l t o k w (.returned (.slice none 0 0)) (w.setCell ⟨R, 1, none⟩ (.bool true)) := by
  obtain ⟨h1, h2⟩ := h.torn
  exact ⟨none, 0, 0, p, n, c, l, true, [], rfl, h1, h2, Lib.BytesIn.nil _ _ _, rfl, Nat.le_refl _, Nat.zero_le _, (fun a ha => by cases ha), (fun _ => ⟨rfl, rfl⟩), (fun _ hx => by cases hx), Nat.le_refl _, by simp [World.setCell], Sub.refl p, .inl ⟨rfl, rfl, rfl⟩⟩

theorem bin_drop {w : World} {b o n m : Nat} {l : List Int} (h : Lib.BytesIn w (some ⟨b, o, none⟩) n l) (hl : l.length = n) : Lib.BytesIn w (some ⟨b, o + m, none⟩) (n - m) (l.drop m) := fun hn => by
  obtain ⟨b', o', he, hc⟩ := h (by omega)
  injection he with he
  injection he with h1 h2
  subst h1 h2
  exact ⟨b, o + m, rfl, fun j hj => by
    rw [Nat.add_assoc, hc (m + j) (by omega)]
    simp [List.getD_eq_getElem?_getD]⟩
theorem takeP_good {R : Nat} {l : List Int} {w : World} {p p' : Option Addr} {n c c' m : Nat} (h : Rd w R p n c l false false) (hm : m ≤ n) (hin : Lib.BytesIn w p' (n - m) (l.drop m)) (hold : ∀ a, p' = some a → ∃ b o, a = ⟨b, o, none⟩ ∧ b < w.heap.size ∧ b ≠ R) (h1 : n - m ≤ c') (h3 : c' ≤ maxLen) (h4 : p' = none → c' = 0) (hsub : Sub p p') :
    TakeP R p l false false (m : Int) w (.returned (.slice p m c)) (w.setCell ⟨R, 0, none⟩ (.slice p' (n - m) c')) := by
  have hlen := h.len
  obtain ⟨a1, a2⟩ := h.left (l' := l.drop m) hin hold (by rw [List.length_drop]; omega) (fun x hx => h.byt x (List.mem_of_mem_drop hx)) h1 (by have := h.nm; omega) h3 h4
  have ht : Lib.BytesIn (w.setCell ⟨R, 0, none⟩ (.slice p' (n - m) c')) p m (l.take m) := fun hn => by
    obtain ⟨b, o, he, hc⟩ := bin_take h.inp hm hn
    obtain ⟨b2, o2, he2, _, hne⟩ := h.old _ he
    injection he2 with e1
    subst e1
    exact ⟨b, o, he, fun i hi => grown_cell a2 (hc i hi) hne⟩
  exact ⟨p, m, c, p', n - m, c', l.drop m, false, l.take m, rfl, a1, a2, ht, by rw [List.length_take]; omega, by have := h.nc; omega, h.cm, (fun a ha => by obtain ⟨b, o, e, g1, g2⟩ := h.old a ha; subst e; exact ⟨g1, g2⟩),
    (fun e => by have := h.nl e; have := h.nc; exact ⟨by omega, by omega⟩), (fun x hx => h.byt x (List.mem_of_mem_take hx)), by rw [List.length_drop]; omega, by simp [World.setCell], hsub, .inr ⟨rfl, rfl, rfl, m, rfl, by omega, rfl, rfl⟩⟩

set_option maxRecDepth 100000 in
set_option maxHeartbeats 2000000 in
theorem take_any (R : Nat) (p : Option Addr) (n c : Nat) (l : List Int) (t o : Bool) (k : Int) (w : World) (h : Rd w R p n c l t o) :
    Calls Tryd.prog 25 #[.pointer (some ⟨R, 0, none⟩), .int .i64 k] w (TakeP R p l t o k w) := by
  have c0 : w.cell? ⟨R, 0, none⟩ = some (.slice p n c) := h.blk.cell 0
  have c1 : w.cell? ⟨R, 1, none⟩ = some (.bool t) := h.blk.cell 1
  have c2 : w.cell? ⟨R, 2, none⟩ = some (.bool o) := h.blk.cell 2
  have f0 := h.blk.frozen 0
  have f1 := h.blk.frozen 1
  have H := Lib.hid h
  clear h
  cases t
  case true =>
    go_enter Tryd.func25, Tryd.ntmps25
    go_wp2_with fail
    go_ret
    exact takeP_bad H.out
  cases o
  case true =>
    go_enter Tryd.func25, Tryd.ntmps25
    go_wp2_with fail
    go_ret
    exact takeP_bad H.out
  by_cases h0 : k < 0
  · have g0 : decide (k < 0) = true := by simpa using h0
    go_enter Tryd.func25, Tryd.ntmps25
    go_wp2_with fail
    go_ret
    exact takeP_bad H.out
  have g0 : decide (k < 0) = false := by simpa using h0
  by_cases h1 : (n : Int) < k
  · have g1 : decide ((n : Int) < k) = true := by simpa using h1
    clear h0 h1
    go_enter Tryd.func25, Tryd.ntmps25
    go_wp2_with fail
    go_ret
    exact takeP_bad H.out
  have g1 : decide ((n : Int) < k) = false := by simpa using h1
  obtain ⟨m, rfl⟩ := Int.eq_ofNat_of_zero_le (show 0 ≤ k by omega)
  have hmn : m ≤ n := by omega
  have hnc := H.out.nc
  have hcm := H.out.cm
  have hnm := H.out.nm
  unfold maxLen at hcm
  have i0 : (0 : Int) ≤ (m : Int) := by omega
  have i1 : (m : Int) ≤ (n : Int) := by omega
  have i2 : (n : Int) ≤ (c : Int) := by omega
  have i3 : (m : Int) ≤ (c : Int) := by omega
  have i4 : (c : Int) ≤ 9223372036854775807 := by omega
  have HMN := Lib.hid hmn
  have HNM := Lib.hid hnm
  have hlen := H.out.len
  have HLEN := Lib.hid hlen
  clear h0 h1 hmn hnc hcm hnm hlen
  cases p with
  | none =>
    obtain rfl : c = 0 := H.out.nl rfl
    obtain rfl : n = 0 := by omega
    obtain rfl : m = 0 := by omega
    go_enter Tryd.func25, Tryd.ntmps25
    go_wp2_with fail
    go_ret
    exact takeP_good H.out (Nat.le_refl _) (Lib.BytesIn.nil _ _ _) (fun a ha => by cases ha) (Nat.le_refl _) (Nat.zero_le _) (fun _ => rfl) (Sub.refl _)
  | some a =>
    obtain ⟨b, of, rfl, hb1, hb2⟩ := H.out.old a rfl
    by_cases hc : c = m
    · subst hc
      go_enter Tryd.func25, Tryd.ntmps25
      go_wp2_with fail
      go_ret
      have hnm0 : n - c = 0 := by have := H.out.nc; omega
      exact takeP_good H.out HMN.out (by rw [hnm0]; exact Lib.BytesIn.nil _ _ _) H.out.old (by omega) (Nat.zero_le _) (fun e => by cases e) (Sub.refl _)
    · have e4 : (c = m) = False := by simp [hc]
      go_enter Tryd.func25, Tryd.ntmps25
      go_wp2_with fail
      go_ret
      exact takeP_good H.out HMN.out (bin_drop H.out.inp HLEN.out) (fun a ha => by injection ha with ha; subst ha; exact ⟨b, of + m, rfl, hb1, hb2⟩) (by have := H.out.nc; omega) (by have := H.out.cm; omega) (fun e => by cases e) (fun a ha => by injection ha with ha; subst ha; exact ⟨_, rfl, rfl⟩)
end Go.Proofs.YtacmnibhdmeidaaDoor
