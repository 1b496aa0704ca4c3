/-
  FnServerChain: equality of servers goes on from one to the next; the protocol plays no part.
-/
import Derived.Test.YtmojecgmneodlaaDoorCfg4
import Derived.Deep.RegionHeld3
import Derived.Lib.SmallJoins
namespace Go.Proofs.YtmojecgmneodlaaDoor
open Go Go.RowKit

def zzB (p a : ByteArray) : Bool := decide (p.size ≤ 2147483647) && decide (a.size ≤ 2147483647)
def eqB (a b : ByteArray) (p q : Int) : Bool := hostEq a.data.toList b.data.toList && (p == q)
theorem eqB_trans {a b c : ByteArray} {p q r : Int} (h : eqB a b p q = true) (k : eqB b c q r = true) : eqB a c p r = true := by
  simp only [eqB, Bool.and_eq_true, beq_iff_eq] at h k ⊢
  exact ⟨hostEq_trans h.1 k.1, h.2.trans k.2⟩
theorem eq_any (pra a prb b : ByteArray) (pa pb : Int) (h1 : srvOk pra a = true) (h2 : srvOk prb b = true) (pr2 : ByteArray) (w : World) :
    Calls Tryd.prog 25 #[.agg #[.string pra, .string a, .int .i64 pa], .agg #[.string pr2, .string b, .int .i64 pb]] w fun e w' => e = .returned (.bool (eqB a b pa pb)) ∧ Kp w w' := by
  simp only [srvOk, Bool.and_eq_true, decide_eq_true_eq] at h1 h2
  exact serversEqual_any pra a pr2 b pa pb w h1.1.1 h2.1.1 h1.2 h2.2

set_option maxRecDepth 100000 in
set_option maxHeartbeats 16000000 in
theorem fnChain_any (pra a prb b prc c pr : ByteArray) (pa pb pc : Int) (w : World) (m1 : pra.size ≤ maxLen) (m2 : a.size ≤ maxLen) (m3 : prb.size ≤ maxLen) (m4 : b.size ≤ maxLen) (m5 : prc.size ≤ maxLen) (m6 : c.size ≤ maxLen) (m7 : pr.size ≤ maxLen) : Calls Tryd.prog 6 #[.agg #[.string pra, .string a, .int .i64 pa], .agg #[.string prb, .string b, .int .i64 pb], .agg #[.string prc, .string c, .int .i64 pc], .string pr] w fun e w' => e = .returned (.bool true) ∧ Below w.heap.size w w' := by
  have HM := Lib.hid (And.intro m1 (And.intro m2 (And.intro m3 (And.intro m4 (And.intro m5 m6)))))
  have HM7 := Lib.hid m7
  have i7 : (pr.size : Int) ≤ 9223372036854775807 := by unfold maxLen at m7; omega
  have Z1 := Lib.hid (fun w1 => (show Calls Tryd.prog 21 #[.agg #[.string pra, .string a, .int .i64 pa]] w1 fun e w' => e = .returned (.bool (zzB pra a)) ∧ Kp w1 w' from zzFits1_any pra a pa m1 m2 w1))
  have Z2 := Lib.hid (fun w1 => (show Calls Tryd.prog 21 #[.agg #[.string prb, .string b, .int .i64 pb]] w1 fun e w' => e = .returned (.bool (zzB prb b)) ∧ Kp w1 w' from zzFits1_any prb b pb m3 m4 w1))
  have Z3 := Lib.hid (fun w1 => (show Calls Tryd.prog 21 #[.agg #[.string prc, .string c, .int .i64 pc]] w1 fun e w' => e = .returned (.bool (zzB prc c)) ∧ Kp w1 w' from zzFits1_any prc c pc m5 m6 w1))
  clear m1 m2 m3 m4 m5 m6 m7
  generalize zzB pra a = z1 at Z1
  generalize zzB prb b = z2 at Z2
  generalize zzB prc c = z3 at Z3
  cases z1
  · clear Z2 Z3
    go_enter Tryd.func6, Tryd.ntmps6
    go_wp2_with fail
    generalize hX : ((w.alloc (.cells #[.string pra, .string a, .int .i64 pa] 27)).alloc (.cells #[.string prb, .string b, .int .i64 pb] 27)).alloc (.cells #[.string prc, .string c, .int .i64 pc] 27) = X
    obtain ⟨b1, hb1⟩ : ∃ b1, b1 = w.heap.size := ⟨_, rfl⟩
    obtain ⟨b2, hb2⟩ : ∃ b2, b2 = w.heap.size + 1 := ⟨_, rfl⟩
    obtain ⟨b3, hb3⟩ : ∃ b3, b3 = w.heap.size + 1 + 1 := ⟨_, rfl⟩
    have HB1 := Lib.hid (show Blk X b1 27 #[.string pra, .string a, .int .i64 pa] from by rw [hb1, ← hX]; exact ((Blk.new w _ _).alloc _).alloc _)
    have HB2 := Lib.hid (show Blk X b2 27 #[.string prb, .string b, .int .i64 pb] from by rw [hb2, ← hX]; exact (Blk.new2 w _ _ _).alloc _)
    have HB3 := Lib.hid (show Blk X b3 27 #[.string prc, .string c, .int .i64 pc] from by rw [hb3, ← hX]; have := Blk.new2 (w.alloc (.cells #[.string pra, .string a, .int .i64 pa] 27)) (.cells #[.string prb, .string b, .int .i64 pb] 27) 27 #[.string prc, .string c, .int .i64 pc]; rw [World.size_alloc] at this; exact this)
    have HKX := Lib.hid (show Kp w X from hX ▸ (((Kp.refl w).alloc _).alloc _).alloc _)
    rw [← hb3, ← hb2, ← hb1]
    clear hX hb1 hb2 hb3
    refine (Z1.out _).mono ?_
    rintro e w1 ⟨rfl, hk⟩
    have Kw1 := Lib.hid (show Kp X w1 from hk)
    clear hk
    have u10 : w1.cell? ⟨b1, 0, none⟩ = some (.string pra) := (HB1.out.kp Kw1.out).cell 0
    have u11 : w1.cell? ⟨b1, 1, none⟩ = some (.string a) := (HB1.out.kp Kw1.out).cell 1
    have u12 : w1.cell? ⟨b1, 2, none⟩ = some (.int .i64 pa) := (HB1.out.kp Kw1.out).cell 2
    have u20 : w1.cell? ⟨b2, 0, none⟩ = some (.string prb) := (HB2.out.kp Kw1.out).cell 0
    have u21 : w1.cell? ⟨b2, 1, none⟩ = some (.string b) := (HB2.out.kp Kw1.out).cell 1
    have u22 : w1.cell? ⟨b2, 2, none⟩ = some (.int .i64 pb) := (HB2.out.kp Kw1.out).cell 2
    have u30 : w1.cell? ⟨b3, 0, none⟩ = some (.string prc) := (HB3.out.kp Kw1.out).cell 0
    have u31 : w1.cell? ⟨b3, 1, none⟩ = some (.string c) := (HB3.out.kp Kw1.out).cell 1
    have u32 : w1.cell? ⟨b3, 2, none⟩ = some (.int .i64 pc) := (HB3.out.kp Kw1.out).cell 2
    go_wp2_with fail
    go_ret
    exact ⟨rfl, HKX.out.trans Kw1.out⟩
  cases z2
  · clear Z3
    go_enter Tryd.func6, Tryd.ntmps6
    go_wp2_with fail
    generalize hX : ((w.alloc (.cells #[.string pra, .string a, .int .i64 pa] 27)).alloc (.cells #[.string prb, .string b, .int .i64 pb] 27)).alloc (.cells #[.string prc, .string c, .int .i64 pc] 27) = X
    obtain ⟨b1, hb1⟩ : ∃ b1, b1 = w.heap.size := ⟨_, rfl⟩
    obtain ⟨b2, hb2⟩ : ∃ b2, b2 = w.heap.size + 1 := ⟨_, rfl⟩
    obtain ⟨b3, hb3⟩ : ∃ b3, b3 = w.heap.size + 1 + 1 := ⟨_, rfl⟩
    have HB1 := Lib.hid (show Blk X b1 27 #[.string pra, .string a, .int .i64 pa] from by rw [hb1, ← hX]; exact ((Blk.new w _ _).alloc _).alloc _)
    have HB2 := Lib.hid (show Blk X b2 27 #[.string prb, .string b, .int .i64 pb] from by rw [hb2, ← hX]; exact (Blk.new2 w _ _ _).alloc _)
    have HB3 := Lib.hid (show Blk X b3 27 #[.string prc, .string c, .int .i64 pc] from by rw [hb3, ← hX]; have := Blk.new2 (w.alloc (.cells #[.string pra, .string a, .int .i64 pa] 27)) (.cells #[.string prb, .string b, .int .i64 pb] 27) 27 #[.string prc, .string c, .int .i64 pc]; rw [World.size_alloc] at this; exact this)
    have HKX := Lib.hid (show Kp w X from hX ▸ (((Kp.refl w).alloc _).alloc _).alloc _)
    rw [← hb3, ← hb2, ← hb1]
    clear hX hb1 hb2 hb3
    refine (Z1.out _).mono ?_
    rintro e w1 ⟨rfl, hk⟩
    have Kw1 := Lib.hid (show Kp X w1 from hk)
    clear hk
    have u10 : w1.cell? ⟨b1, 0, none⟩ = some (.string pra) := (HB1.out.kp Kw1.out).cell 0
    have u11 : w1.cell? ⟨b1, 1, none⟩ = some (.string a) := (HB1.out.kp Kw1.out).cell 1
    have u12 : w1.cell? ⟨b1, 2, none⟩ = some (.int .i64 pa) := (HB1.out.kp Kw1.out).cell 2
    have u20 : w1.cell? ⟨b2, 0, none⟩ = some (.string prb) := (HB2.out.kp Kw1.out).cell 0
    have u21 : w1.cell? ⟨b2, 1, none⟩ = some (.string b) := (HB2.out.kp Kw1.out).cell 1
    have u22 : w1.cell? ⟨b2, 2, none⟩ = some (.int .i64 pb) := (HB2.out.kp Kw1.out).cell 2
    have u30 : w1.cell? ⟨b3, 0, none⟩ = some (.string prc) := (HB3.out.kp Kw1.out).cell 0
    have u31 : w1.cell? ⟨b3, 1, none⟩ = some (.string c) := (HB3.out.kp Kw1.out).cell 1
    have u32 : w1.cell? ⟨b3, 2, none⟩ = some (.int .i64 pc) := (HB3.out.kp Kw1.out).cell 2
    go_wp2_with fail
    clear u10 u11 u12 u20 u21 u22 u30 u31 u32
    refine (Z2.out _).mono ?_
    rintro e w2 ⟨rfl, hk⟩
    have Kw2 := Lib.hid (Kw1.out.trans hk)
    clear hk
    have u10 : w2.cell? ⟨b1, 0, none⟩ = some (.string pra) := (HB1.out.kp Kw2.out).cell 0
    have u11 : w2.cell? ⟨b1, 1, none⟩ = some (.string a) := (HB1.out.kp Kw2.out).cell 1
    have u12 : w2.cell? ⟨b1, 2, none⟩ = some (.int .i64 pa) := (HB1.out.kp Kw2.out).cell 2
    have u20 : w2.cell? ⟨b2, 0, none⟩ = some (.string prb) := (HB2.out.kp Kw2.out).cell 0
    have u21 : w2.cell? ⟨b2, 1, none⟩ = some (.string b) := (HB2.out.kp Kw2.out).cell 1
    have u22 : w2.cell? ⟨b2, 2, none⟩ = some (.int .i64 pb) := (HB2.out.kp Kw2.out).cell 2
    have u30 : w2.cell? ⟨b3, 0, none⟩ = some (.string prc) := (HB3.out.kp Kw2.out).cell 0
    have u31 : w2.cell? ⟨b3, 1, none⟩ = some (.string c) := (HB3.out.kp Kw2.out).cell 1
    have u32 : w2.cell? ⟨b3, 2, none⟩ = some (.int .i64 pc) := (HB3.out.kp Kw2.out).cell 2
    go_wp2_with fail
    go_ret
    exact ⟨rfl, HKX.out.trans Kw2.out⟩
  cases z3
  · clear HM
    go_enter Tryd.func6, Tryd.ntmps6
    go_wp2_with fail
    generalize hX : ((w.alloc (.cells #[.string pra, .string a, .int .i64 pa] 27)).alloc (.cells #[.string prb, .string b, .int .i64 pb] 27)).alloc (.cells #[.string prc, .string c, .int .i64 pc] 27) = X
    obtain ⟨b1, hb1⟩ : ∃ b1, b1 = w.heap.size := ⟨_, rfl⟩
    obtain ⟨b2, hb2⟩ : ∃ b2, b2 = w.heap.size + 1 := ⟨_, rfl⟩
    obtain ⟨b3, hb3⟩ : ∃ b3, b3 = w.heap.size + 1 + 1 := ⟨_, rfl⟩
    have HB1 := Lib.hid (show Blk X b1 27 #[.string pra, .string a, .int .i64 pa] from by rw [hb1, ← hX]; exact ((Blk.new w _ _).alloc _).alloc _)
    have HB2 := Lib.hid (show Blk X b2 27 #[.string prb, .string b, .int .i64 pb] from by rw [hb2, ← hX]; exact (Blk.new2 w _ _ _).alloc _)
    have HB3 := Lib.hid (show Blk X b3 27 #[.string prc, .string c, .int .i64 pc] from by rw [hb3, ← hX]; have := Blk.new2 (w.alloc (.cells #[.string pra, .string a, .int .i64 pa] 27)) (.cells #[.string prb, .string b, .int .i64 pb] 27) 27 #[.string prc, .string c, .int .i64 pc]; rw [World.size_alloc] at this; exact this)
    have HKX := Lib.hid (show Kp w X from hX ▸ (((Kp.refl w).alloc _).alloc _).alloc _)
    rw [← hb3, ← hb2, ← hb1]
    clear hX hb1 hb2 hb3
    refine (Z1.out _).mono ?_
    rintro e w1 ⟨rfl, hk⟩
    have Kw1 := Lib.hid (show Kp X w1 from hk)
    clear hk
    have u10 : w1.cell? ⟨b1, 0, none⟩ = some (.string pra) := (HB1.out.kp Kw1.out).cell 0
    have u11 : w1.cell? ⟨b1, 1, none⟩ = some (.string a) := (HB1.out.kp Kw1.out).cell 1
    have u12 : w1.cell? ⟨b1, 2, none⟩ = some (.int .i64 pa) := (HB1.out.kp Kw1.out).cell 2
    have u20 : w1.cell? ⟨b2, 0, none⟩ = some (.string prb) := (HB2.out.kp Kw1.out).cell 0
    have u21 : w1.cell? ⟨b2, 1, none⟩ = some (.string b) := (HB2.out.kp Kw1.out).cell 1
    have u22 : w1.cell? ⟨b2, 2, none⟩ = some (.int .i64 pb) := (HB2.out.kp Kw1.out).cell 2
    have u30 : w1.cell? ⟨b3, 0, none⟩ = some (.string prc) := (HB3.out.kp Kw1.out).cell 0
    have u31 : w1.cell? ⟨b3, 1, none⟩ = some (.string c) := (HB3.out.kp Kw1.out).cell 1
    have u32 : w1.cell? ⟨b3, 2, none⟩ = some (.int .i64 pc) := (HB3.out.kp Kw1.out).cell 2
    go_wp2_with fail
    clear u10 u11 u12 u20 u21 u22 u30 u31 u32
    refine (Z2.out _).mono ?_
    rintro e w2 ⟨rfl, hk⟩
    have Kw2 := Lib.hid (Kw1.out.trans hk)
    clear hk
    have u10 : w2.cell? ⟨b1, 0, none⟩ = some (.string pra) := (HB1.out.kp Kw2.out).cell 0
    have u11 : w2.cell? ⟨b1, 1, none⟩ = some (.string a) := (HB1.out.kp Kw2.out).cell 1
    have u12 : w2.cell? ⟨b1, 2, none⟩ = some (.int .i64 pa) := (HB1.out.kp Kw2.out).cell 2
    have u20 : w2.cell? ⟨b2, 0, none⟩ = some (.string prb) := (HB2.out.kp Kw2.out).cell 0
    have u21 : w2.cell? ⟨b2, 1, none⟩ = some (.string b) := (HB2.out.kp Kw2.out).cell 1
    have u22 : w2.cell? ⟨b2, 2, none⟩ = some (.int .i64 pb) := (HB2.out.kp Kw2.out).cell 2
    have u30 : w2.cell? ⟨b3, 0, none⟩ = some (.string prc) := (HB3.out.kp Kw2.out).cell 0
    have u31 : w2.cell? ⟨b3, 1, none⟩ = some (.string c) := (HB3.out.kp Kw2.out).cell 1
    have u32 : w2.cell? ⟨b3, 2, none⟩ = some (.int .i64 pc) := (HB3.out.kp Kw2.out).cell 2
    go_wp2_with fail
    clear u10 u11 u12 u20 u21 u22 u30 u31 u32
    refine (Z3.out _).mono ?_
    rintro e w3 ⟨rfl, hk⟩
    have Kw3 := Lib.hid (Kw2.out.trans hk)
    clear hk
    have u10 : w3.cell? ⟨b1, 0, none⟩ = some (.string pra) := (HB1.out.kp Kw3.out).cell 0
    have u11 : w3.cell? ⟨b1, 1, none⟩ = some (.string a) := (HB1.out.kp Kw3.out).cell 1
    have u12 : w3.cell? ⟨b1, 2, none⟩ = some (.int .i64 pa) := (HB1.out.kp Kw3.out).cell 2
    have u20 : w3.cell? ⟨b2, 0, none⟩ = some (.string prb) := (HB2.out.kp Kw3.out).cell 0
    have u21 : w3.cell? ⟨b2, 1, none⟩ = some (.string b) := (HB2.out.kp Kw3.out).cell 1
    have u22 : w3.cell? ⟨b2, 2, none⟩ = some (.int .i64 pb) := (HB2.out.kp Kw3.out).cell 2
    have u30 : w3.cell? ⟨b3, 0, none⟩ = some (.string prc) := (HB3.out.kp Kw3.out).cell 0
    have u31 : w3.cell? ⟨b3, 1, none⟩ = some (.string c) := (HB3.out.kp Kw3.out).cell 1
    have u32 : w3.cell? ⟨b3, 2, none⟩ = some (.int .i64 pc) := (HB3.out.kp Kw3.out).cell 2
    go_wp2_with fail
    go_ret
    exact ⟨rfl, HKX.out.trans Kw3.out⟩
  by_cases h7 : pr.size ≤ 2147483647
  case neg =>
    have j7 : (2147483647 : Int) < (pr.size : Int) := by omega
    clear h7
    go_enter Tryd.func6, Tryd.ntmps6
    go_wp2_with fail
    generalize hX : ((w.alloc (.cells #[.string pra, .string a, .int .i64 pa] 27)).alloc (.cells #[.string prb, .string b, .int .i64 pb] 27)).alloc (.cells #[.string prc, .string c, .int .i64 pc] 27) = X
    obtain ⟨b1, hb1⟩ : ∃ b1, b1 = w.heap.size := ⟨_, rfl⟩
    obtain ⟨b2, hb2⟩ : ∃ b2, b2 = w.heap.size + 1 := ⟨_, rfl⟩
    obtain ⟨b3, hb3⟩ : ∃ b3, b3 = w.heap.size + 1 + 1 := ⟨_, rfl⟩
    have HB1 := Lib.hid (show Blk X b1 27 #[.string pra, .string a, .int .i64 pa] from by rw [hb1, ← hX]; exact ((Blk.new w _ _).alloc _).alloc _)
    have HB2 := Lib.hid (show Blk X b2 27 #[.string prb, .string b, .int .i64 pb] from by rw [hb2, ← hX]; exact (Blk.new2 w _ _ _).alloc _)
    have HB3 := Lib.hid (show Blk X b3 27 #[.string prc, .string c, .int .i64 pc] from by rw [hb3, ← hX]; have := Blk.new2 (w.alloc (.cells #[.string pra, .string a, .int .i64 pa] 27)) (.cells #[.string prb, .string b, .int .i64 pb] 27) 27 #[.string prc, .string c, .int .i64 pc]; rw [World.size_alloc] at this; exact this)
    have HKX := Lib.hid (show Kp w X from hX ▸ (((Kp.refl w).alloc _).alloc _).alloc _)
    rw [← hb3, ← hb2, ← hb1]
    clear hX hb1 hb2 hb3
    refine (Z1.out _).mono ?_
    rintro e w1 ⟨rfl, hk⟩
    have Kw1 := Lib.hid (show Kp X w1 from hk)
    clear hk
    have u10 : w1.cell? ⟨b1, 0, none⟩ = some (.string pra) := (HB1.out.kp Kw1.out).cell 0
    have u11 : w1.cell? ⟨b1, 1, none⟩ = some (.string a) := (HB1.out.kp Kw1.out).cell 1
    have u12 : w1.cell? ⟨b1, 2, none⟩ = some (.int .i64 pa) := (HB1.out.kp Kw1.out).cell 2
    have u20 : w1.cell? ⟨b2, 0, none⟩ = some (.string prb) := (HB2.out.kp Kw1.out).cell 0
    have u21 : w1.cell? ⟨b2, 1, none⟩ = some (.string b) := (HB2.out.kp Kw1.out).cell 1
    have u22 : w1.cell? ⟨b2, 2, none⟩ = some (.int .i64 pb) := (HB2.out.kp Kw1.out).cell 2
    have u30 : w1.cell? ⟨b3, 0, none⟩ = some (.string prc) := (HB3.out.kp Kw1.out).cell 0
    have u31 : w1.cell? ⟨b3, 1, none⟩ = some (.string c) := (HB3.out.kp Kw1.out).cell 1
    have u32 : w1.cell? ⟨b3, 2, none⟩ = some (.int .i64 pc) := (HB3.out.kp Kw1.out).cell 2
    go_wp2_with fail
    clear u10 u11 u12 u20 u21 u22 u30 u31 u32
    refine (Z2.out _).mono ?_
    rintro e w2 ⟨rfl, hk⟩
    have Kw2 := Lib.hid (Kw1.out.trans hk)
    clear hk
    have u10 : w2.cell? ⟨b1, 0, none⟩ = some (.string pra) := (HB1.out.kp Kw2.out).cell 0
    have u11 : w2.cell? ⟨b1, 1, none⟩ = some (.string a) := (HB1.out.kp Kw2.out).cell 1
    have u12 : w2.cell? ⟨b1, 2, none⟩ = some (.int .i64 pa) := (HB1.out.kp Kw2.out).cell 2
    have u20 : w2.cell? ⟨b2, 0, none⟩ = some (.string prb) := (HB2.out.kp Kw2.out).cell 0
    have u21 : w2.cell? ⟨b2, 1, none⟩ = some (.string b) := (HB2.out.kp Kw2.out).cell 1
    have u22 : w2.cell? ⟨b2, 2, none⟩ = some (.int .i64 pb) := (HB2.out.kp Kw2.out).cell 2
    have u30 : w2.cell? ⟨b3, 0, none⟩ = some (.string prc) := (HB3.out.kp Kw2.out).cell 0
    have u31 : w2.cell? ⟨b3, 1, none⟩ = some (.string c) := (HB3.out.kp Kw2.out).cell 1
    have u32 : w2.cell? ⟨b3, 2, none⟩ = some (.int .i64 pc) := (HB3.out.kp Kw2.out).cell 2
    go_wp2_with fail
    clear u10 u11 u12 u20 u21 u22 u30 u31 u32
    refine (Z3.out _).mono ?_
    rintro e w3 ⟨rfl, hk⟩
    have Kw3 := Lib.hid (Kw2.out.trans hk)
    clear hk
    have u10 : w3.cell? ⟨b1, 0, none⟩ = some (.string pra) := (HB1.out.kp Kw3.out).cell 0
    have u11 : w3.cell? ⟨b1, 1, none⟩ = some (.string a) := (HB1.out.kp Kw3.out).cell 1
    have u12 : w3.cell? ⟨b1, 2, none⟩ = some (.int .i64 pa) := (HB1.out.kp Kw3.out).cell 2
    have u20 : w3.cell? ⟨b2, 0, none⟩ = some (.string prb) := (HB2.out.kp Kw3.out).cell 0
    have u21 : w3.cell? ⟨b2, 1, none⟩ = some (.string b) := (HB2.out.kp Kw3.out).cell 1
    have u22 : w3.cell? ⟨b2, 2, none⟩ = some (.int .i64 pb) := (HB2.out.kp Kw3.out).cell 2
    have u30 : w3.cell? ⟨b3, 0, none⟩ = some (.string prc) := (HB3.out.kp Kw3.out).cell 0
    have u31 : w3.cell? ⟨b3, 1, none⟩ = some (.string c) := (HB3.out.kp Kw3.out).cell 1
    have u32 : w3.cell? ⟨b3, 2, none⟩ = some (.int .i64 pc) := (HB3.out.kp Kw3.out).cell 2
    go_wp2_with fail
    go_ret
    exact ⟨rfl, HKX.out.trans Kw3.out⟩
  have j7 : (pr.size : Int) ≤ 2147483647 := by omega
  clear h7
  cases hsr : srvL (fun r => if r = 0 then pra else if r = 1 then prb else prc) (fun r => if r = 0 then a else if r = 1 then b else c) 3
  · have HSR := Lib.hid hsr
    clear hsr
    go_enter Tryd.func6, Tryd.ntmps6
    go_wp2_with fail
    generalize hX : ((w.alloc (.cells #[.string pra, .string a, .int .i64 pa] 27)).alloc (.cells #[.string prb, .string b, .int .i64 pb] 27)).alloc (.cells #[.string prc, .string c, .int .i64 pc] 27) = X
    obtain ⟨b1, hb1⟩ : ∃ b1, b1 = w.heap.size := ⟨_, rfl⟩
    obtain ⟨b2, hb2⟩ : ∃ b2, b2 = w.heap.size + 1 := ⟨_, rfl⟩
    obtain ⟨b3, hb3⟩ : ∃ b3, b3 = w.heap.size + 1 + 1 := ⟨_, rfl⟩
    have HB1 := Lib.hid (show Blk X b1 27 #[.string pra, .string a, .int .i64 pa] from by rw [hb1, ← hX]; exact ((Blk.new w _ _).alloc _).alloc _)
    have HB2 := Lib.hid (show Blk X b2 27 #[.string prb, .string b, .int .i64 pb] from by rw [hb2, ← hX]; exact (Blk.new2 w _ _ _).alloc _)
    have HB3 := Lib.hid (show Blk X b3 27 #[.string prc, .string c, .int .i64 pc] from by rw [hb3, ← hX]; have := Blk.new2 (w.alloc (.cells #[.string pra, .string a, .int .i64 pa] 27)) (.cells #[.string prb, .string b, .int .i64 pb] 27) 27 #[.string prc, .string c, .int .i64 pc]; rw [World.size_alloc] at this; exact this)
    have HKX := Lib.hid (show Kp w X from hX ▸ (((Kp.refl w).alloc _).alloc _).alloc _)
    rw [← hb3, ← hb2, ← hb1]
    clear hX hb1 hb2 hb3
    refine (Z1.out _).mono ?_
    rintro e w1 ⟨rfl, hk⟩
    have Kw1 := Lib.hid (show Kp X w1 from hk)
    clear hk
    have u10 : w1.cell? ⟨b1, 0, none⟩ = some (.string pra) := (HB1.out.kp Kw1.out).cell 0
    have u11 : w1.cell? ⟨b1, 1, none⟩ = some (.string a) := (HB1.out.kp Kw1.out).cell 1
    have u12 : w1.cell? ⟨b1, 2, none⟩ = some (.int .i64 pa) := (HB1.out.kp Kw1.out).cell 2
    have u20 : w1.cell? ⟨b2, 0, none⟩ = some (.string prb) := (HB2.out.kp Kw1.out).cell 0
    have u21 : w1.cell? ⟨b2, 1, none⟩ = some (.string b) := (HB2.out.kp Kw1.out).cell 1
    have u22 : w1.cell? ⟨b2, 2, none⟩ = some (.int .i64 pb) := (HB2.out.kp Kw1.out).cell 2
    have u30 : w1.cell? ⟨b3, 0, none⟩ = some (.string prc) := (HB3.out.kp Kw1.out).cell 0
    have u31 : w1.cell? ⟨b3, 1, none⟩ = some (.string c) := (HB3.out.kp Kw1.out).cell 1
    have u32 : w1.cell? ⟨b3, 2, none⟩ = some (.int .i64 pc) := (HB3.out.kp Kw1.out).cell 2
    go_wp2_with fail
    clear u10 u11 u12 u20 u21 u22 u30 u31 u32
    refine (Z2.out _).mono ?_
    rintro e w2 ⟨rfl, hk⟩
    have Kw2 := Lib.hid (Kw1.out.trans hk)
    clear hk
    have u10 : w2.cell? ⟨b1, 0, none⟩ = some (.string pra) := (HB1.out.kp Kw2.out).cell 0
    have u11 : w2.cell? ⟨b1, 1, none⟩ = some (.string a) := (HB1.out.kp Kw2.out).cell 1
    have u12 : w2.cell? ⟨b1, 2, none⟩ = some (.int .i64 pa) := (HB1.out.kp Kw2.out).cell 2
    have u20 : w2.cell? ⟨b2, 0, none⟩ = some (.string prb) := (HB2.out.kp Kw2.out).cell 0
    have u21 : w2.cell? ⟨b2, 1, none⟩ = some (.string b) := (HB2.out.kp Kw2.out).cell 1
    have u22 : w2.cell? ⟨b2, 2, none⟩ = some (.int .i64 pb) := (HB2.out.kp Kw2.out).cell 2
    have u30 : w2.cell? ⟨b3, 0, none⟩ = some (.string prc) := (HB3.out.kp Kw2.out).cell 0
    have u31 : w2.cell? ⟨b3, 1, none⟩ = some (.string c) := (HB3.out.kp Kw2.out).cell 1
    have u32 : w2.cell? ⟨b3, 2, none⟩ = some (.int .i64 pc) := (HB3.out.kp Kw2.out).cell 2
    go_wp2_with fail
    clear u10 u11 u12 u20 u21 u22 u30 u31 u32
    refine (Z3.out _).mono ?_
    rintro e w3 ⟨rfl, hk⟩
    have Kw3 := Lib.hid (Kw2.out.trans hk)
    clear hk
    have u10 : w3.cell? ⟨b1, 0, none⟩ = some (.string pra) := (HB1.out.kp Kw3.out).cell 0
    have u11 : w3.cell? ⟨b1, 1, none⟩ = some (.string a) := (HB1.out.kp Kw3.out).cell 1
    have u12 : w3.cell? ⟨b1, 2, none⟩ = some (.int .i64 pa) := (HB1.out.kp Kw3.out).cell 2
    have u20 : w3.cell? ⟨b2, 0, none⟩ = some (.string prb) := (HB2.out.kp Kw3.out).cell 0
    have u21 : w3.cell? ⟨b2, 1, none⟩ = some (.string b) := (HB2.out.kp Kw3.out).cell 1
    have u22 : w3.cell? ⟨b2, 2, none⟩ = some (.int .i64 pb) := (HB2.out.kp Kw3.out).cell 2
    have u30 : w3.cell? ⟨b3, 0, none⟩ = some (.string prc) := (HB3.out.kp Kw3.out).cell 0
    have u31 : w3.cell? ⟨b3, 1, none⟩ = some (.string c) := (HB3.out.kp Kw3.out).cell 1
    have u32 : w3.cell? ⟨b3, 2, none⟩ = some (.int .i64 pc) := (HB3.out.kp Kw3.out).cell 2
    go_wp2_with fail
    clear u10 u11 u12 u20 u21 u22 u30 u31 u32
    generalize hY : w3.alloc (.cells #[.string pra, .string a, .int .i64 pa, .string prb, .string b, .int .i64 pb, .string prc, .string c, .int .i64 pc] 27) = Y
    have hBY : Blk Y w3.heap.size 27 #[.string pra, .string a, .int .i64 pa, .string prb, .string b, .int .i64 pb, .string prc, .string c, .int .i64 pc] := hY ▸ Blk.new w3 _ _
    have KY := Lib.hid (show Kp X Y from Kw3.out.trans (hY ▸ (Kp.refl w3).alloc _))
    have CS := Lib.hid (configServers_any w3.heap.size 3 3 (fun r => if r = 0 then pra else if r = 1 then prb else prc) (fun r => if r = 0 then a else if r = 1 then b else c) (fun r => if r = 0 then pa else if r = 1 then pb else pc) Y (fun r hr => by
      rcases (show r = 0 ∨ r = 1 ∨ r = 2 by omega) with rfl | rfl | rfl
      · exact ⟨hBY.cell 0, hBY.cell 1, hBY.cell 2, HM.out.1, HM.out.2.1⟩
      · exact ⟨hBY.cell 3, hBY.cell 4, hBY.cell 5, HM.out.2.2.1, HM.out.2.2.2.1⟩
      · exact ⟨hBY.cell 6, hBY.cell 7, hBY.cell 8, HM.out.2.2.2.2.1, HM.out.2.2.2.2.2⟩) (by omega))
    rw [HSR.out] at CS
    clear hY hBY
    refine CS.out.mono ?_
    rintro e w4 ⟨rfl, hk⟩
    have Kw4 := Lib.hid (KY.out.trans hk)
    clear hk CS
    have u10 : w4.cell? ⟨b1, 0, none⟩ = some (.string pra) := (HB1.out.kp Kw4.out).cell 0
    have u11 : w4.cell? ⟨b1, 1, none⟩ = some (.string a) := (HB1.out.kp Kw4.out).cell 1
    have u12 : w4.cell? ⟨b1, 2, none⟩ = some (.int .i64 pa) := (HB1.out.kp Kw4.out).cell 2
    have u20 : w4.cell? ⟨b2, 0, none⟩ = some (.string prb) := (HB2.out.kp Kw4.out).cell 0
    have u21 : w4.cell? ⟨b2, 1, none⟩ = some (.string b) := (HB2.out.kp Kw4.out).cell 1
    have u22 : w4.cell? ⟨b2, 2, none⟩ = some (.int .i64 pb) := (HB2.out.kp Kw4.out).cell 2
    have u30 : w4.cell? ⟨b3, 0, none⟩ = some (.string prc) := (HB3.out.kp Kw4.out).cell 0
    have u31 : w4.cell? ⟨b3, 1, none⟩ = some (.string c) := (HB3.out.kp Kw4.out).cell 1
    have u32 : w4.cell? ⟨b3, 2, none⟩ = some (.int .i64 pc) := (HB3.out.kp Kw4.out).cell 2
    go_wp2_with fail
    refine (configAwake_any _).mono ?_
    rintro e wl ⟨rfl, hk⟩
    have KL := Lib.hid ((HKX.out.trans Kw4.out).trans hk)
    clear hk
    go_wp2_with fail
    go_ret
    exact ⟨rfl, KL.out⟩
  cases hsh : shortL (fun _ => pr) 1
  · have HSR := Lib.hid hsr
    have HSH := Lib.hid hsh
    clear hsr hsh
    go_enter Tryd.func6, Tryd.ntmps6
    go_wp2_with fail
    generalize hX : ((w.alloc (.cells #[.string pra, .string a, .int .i64 pa] 27)).alloc (.cells #[.string prb, .string b, .int .i64 pb] 27)).alloc (.cells #[.string prc, .string c, .int .i64 pc] 27) = X
    obtain ⟨b1, hb1⟩ : ∃ b1, b1 = w.heap.size := ⟨_, rfl⟩
    obtain ⟨b2, hb2⟩ : ∃ b2, b2 = w.heap.size + 1 := ⟨_, rfl⟩
    obtain ⟨b3, hb3⟩ : ∃ b3, b3 = w.heap.size + 1 + 1 := ⟨_, rfl⟩
    have HB1 := Lib.hid (show Blk X b1 27 #[.string pra, .string a, .int .i64 pa] from by rw [hb1, ← hX]; exact ((Blk.new w _ _).alloc _).alloc _)
    have HB2 := Lib.hid (show Blk X b2 27 #[.string prb, .string b, .int .i64 pb] from by rw [hb2, ← hX]; exact (Blk.new2 w _ _ _).alloc _)
    have HB3 := Lib.hid (show Blk X b3 27 #[.string prc, .string c, .int .i64 pc] from by rw [hb3, ← hX]; have := Blk.new2 (w.alloc (.cells #[.string pra, .string a, .int .i64 pa] 27)) (.cells #[.string prb, .string b, .int .i64 pb] 27) 27 #[.string prc, .string c, .int .i64 pc]; rw [World.size_alloc] at this; exact this)
    have HKX := Lib.hid (show Kp w X from hX ▸ (((Kp.refl w).alloc _).alloc _).alloc _)
    rw [← hb3, ← hb2, ← hb1]
    clear hX hb1 hb2 hb3
    refine (Z1.out _).mono ?_
    rintro e w1 ⟨rfl, hk⟩
    have Kw1 := Lib.hid (show Kp X w1 from hk)
    clear hk
    have u10 : w1.cell? ⟨b1, 0, none⟩ = some (.string pra) := (HB1.out.kp Kw1.out).cell 0
    have u11 : w1.cell? ⟨b1, 1, none⟩ = some (.string a) := (HB1.out.kp Kw1.out).cell 1
    have u12 : w1.cell? ⟨b1, 2, none⟩ = some (.int .i64 pa) := (HB1.out.kp Kw1.out).cell 2
    have u20 : w1.cell? ⟨b2, 0, none⟩ = some (.string prb) := (HB2.out.kp Kw1.out).cell 0
    have u21 : w1.cell? ⟨b2, 1, none⟩ = some (.string b) := (HB2.out.kp Kw1.out).cell 1
    have u22 : w1.cell? ⟨b2, 2, none⟩ = some (.int .i64 pb) := (HB2.out.kp Kw1.out).cell 2
    have u30 : w1.cell? ⟨b3, 0, none⟩ = some (.string prc) := (HB3.out.kp Kw1.out).cell 0
    have u31 : w1.cell? ⟨b3, 1, none⟩ = some (.string c) := (HB3.out.kp Kw1.out).cell 1
    have u32 : w1.cell? ⟨b3, 2, none⟩ = some (.int .i64 pc) := (HB3.out.kp Kw1.out).cell 2
    go_wp2_with fail
    clear u10 u11 u12 u20 u21 u22 u30 u31 u32
    refine (Z2.out _).mono ?_
    rintro e w2 ⟨rfl, hk⟩
    have Kw2 := Lib.hid (Kw1.out.trans hk)
    clear hk
    have u10 : w2.cell? ⟨b1, 0, none⟩ = some (.string pra) := (HB1.out.kp Kw2.out).cell 0
    have u11 : w2.cell? ⟨b1, 1, none⟩ = some (.string a) := (HB1.out.kp Kw2.out).cell 1
    have u12 : w2.cell? ⟨b1, 2, none⟩ = some (.int .i64 pa) := (HB1.out.kp Kw2.out).cell 2
    have u20 : w2.cell? ⟨b2, 0, none⟩ = some (.string prb) := (HB2.out.kp Kw2.out).cell 0
    have u21 : w2.cell? ⟨b2, 1, none⟩ = some (.string b) := (HB2.out.kp Kw2.out).cell 1
    have u22 : w2.cell? ⟨b2, 2, none⟩ = some (.int .i64 pb) := (HB2.out.kp Kw2.out).cell 2
    have u30 : w2.cell? ⟨b3, 0, none⟩ = some (.string prc) := (HB3.out.kp Kw2.out).cell 0
    have u31 : w2.cell? ⟨b3, 1, none⟩ = some (.string c) := (HB3.out.kp Kw2.out).cell 1
    have u32 : w2.cell? ⟨b3, 2, none⟩ = some (.int .i64 pc) := (HB3.out.kp Kw2.out).cell 2
    go_wp2_with fail
    clear u10 u11 u12 u20 u21 u22 u30 u31 u32
    refine (Z3.out _).mono ?_
    rintro e w3 ⟨rfl, hk⟩
    have Kw3 := Lib.hid (Kw2.out.trans hk)
    clear hk
    have u10 : w3.cell? ⟨b1, 0, none⟩ = some (.string pra) := (HB1.out.kp Kw3.out).cell 0
    have u11 : w3.cell? ⟨b1, 1, none⟩ = some (.string a) := (HB1.out.kp Kw3.out).cell 1
    have u12 : w3.cell? ⟨b1, 2, none⟩ = some (.int .i64 pa) := (HB1.out.kp Kw3.out).cell 2
    have u20 : w3.cell? ⟨b2, 0, none⟩ = some (.string prb) := (HB2.out.kp Kw3.out).cell 0
    have u21 : w3.cell? ⟨b2, 1, none⟩ = some (.string b) := (HB2.out.kp Kw3.out).cell 1
    have u22 : w3.cell? ⟨b2, 2, none⟩ = some (.int .i64 pb) := (HB2.out.kp Kw3.out).cell 2
    have u30 : w3.cell? ⟨b3, 0, none⟩ = some (.string prc) := (HB3.out.kp Kw3.out).cell 0
    have u31 : w3.cell? ⟨b3, 1, none⟩ = some (.string c) := (HB3.out.kp Kw3.out).cell 1
    have u32 : w3.cell? ⟨b3, 2, none⟩ = some (.int .i64 pc) := (HB3.out.kp Kw3.out).cell 2
    go_wp2_with fail
    clear u10 u11 u12 u20 u21 u22 u30 u31 u32
    generalize hY : w3.alloc (.cells #[.string pra, .string a, .int .i64 pa, .string prb, .string b, .int .i64 pb, .string prc, .string c, .int .i64 pc] 27) = Y
    have hBY : Blk Y w3.heap.size 27 #[.string pra, .string a, .int .i64 pa, .string prb, .string b, .int .i64 pb, .string prc, .string c, .int .i64 pc] := hY ▸ Blk.new w3 _ _
    have KY := Lib.hid (show Kp X Y from Kw3.out.trans (hY ▸ (Kp.refl w3).alloc _))
    have CS := Lib.hid (configServers_any w3.heap.size 3 3 (fun r => if r = 0 then pra else if r = 1 then prb else prc) (fun r => if r = 0 then a else if r = 1 then b else c) (fun r => if r = 0 then pa else if r = 1 then pb else pc) Y (fun r hr => by
      rcases (show r = 0 ∨ r = 1 ∨ r = 2 by omega) with rfl | rfl | rfl
      · exact ⟨hBY.cell 0, hBY.cell 1, hBY.cell 2, HM.out.1, HM.out.2.1⟩
      · exact ⟨hBY.cell 3, hBY.cell 4, hBY.cell 5, HM.out.2.2.1, HM.out.2.2.2.1⟩
      · exact ⟨hBY.cell 6, hBY.cell 7, hBY.cell 8, HM.out.2.2.2.2.1, HM.out.2.2.2.2.2⟩) (by omega))
    rw [HSR.out] at CS
    clear hY hBY
    refine CS.out.mono ?_
    rintro e w4 ⟨rfl, hk⟩
    have Kw4 := Lib.hid (KY.out.trans hk)
    clear hk CS
    have u10 : w4.cell? ⟨b1, 0, none⟩ = some (.string pra) := (HB1.out.kp Kw4.out).cell 0
    have u11 : w4.cell? ⟨b1, 1, none⟩ = some (.string a) := (HB1.out.kp Kw4.out).cell 1
    have u12 : w4.cell? ⟨b1, 2, none⟩ = some (.int .i64 pa) := (HB1.out.kp Kw4.out).cell 2
    have u20 : w4.cell? ⟨b2, 0, none⟩ = some (.string prb) := (HB2.out.kp Kw4.out).cell 0
    have u21 : w4.cell? ⟨b2, 1, none⟩ = some (.string b) := (HB2.out.kp Kw4.out).cell 1
    have u22 : w4.cell? ⟨b2, 2, none⟩ = some (.int .i64 pb) := (HB2.out.kp Kw4.out).cell 2
    have u30 : w4.cell? ⟨b3, 0, none⟩ = some (.string prc) := (HB3.out.kp Kw4.out).cell 0
    have u31 : w4.cell? ⟨b3, 1, none⟩ = some (.string c) := (HB3.out.kp Kw4.out).cell 1
    have u32 : w4.cell? ⟨b3, 2, none⟩ = some (.int .i64 pc) := (HB3.out.kp Kw4.out).cell 2
    go_wp2_with fail
    generalize hU : w4.alloc (.cells #[.string pr] 9) = U
    have hBU : Blk U w4.heap.size 9 #[.string pr] := hU ▸ Blk.new w4 _ _
    have KU := Lib.hid (show Kp X U from Kw4.out.trans (hU ▸ (Kp.refl w4).alloc _))
    have CH := Lib.hid (configShort_any w4.heap.size 1 1 (fun _ => pr) U (fun r hr => by
      obtain rfl : r = 0 := by omega
      exact hBU.cell 0) (fun _ _ => HM7.out) (by omega))
    rw [HSH.out] at CH
    clear hU hBU
    refine CH.out.mono ?_
    rintro e wx ⟨rfl, rfl⟩
    clear u10 u11 u12 u20 u21 u22 u30 u31 u32
    have u10 : U.cell? ⟨b1, 0, none⟩ = some (.string pra) := (HB1.out.kp KU.out).cell 0
    have u11 : U.cell? ⟨b1, 1, none⟩ = some (.string a) := (HB1.out.kp KU.out).cell 1
    have u12 : U.cell? ⟨b1, 2, none⟩ = some (.int .i64 pa) := (HB1.out.kp KU.out).cell 2
    have u20 : U.cell? ⟨b2, 0, none⟩ = some (.string prb) := (HB2.out.kp KU.out).cell 0
    have u21 : U.cell? ⟨b2, 1, none⟩ = some (.string b) := (HB2.out.kp KU.out).cell 1
    have u22 : U.cell? ⟨b2, 2, none⟩ = some (.int .i64 pb) := (HB2.out.kp KU.out).cell 2
    have u30 : U.cell? ⟨b3, 0, none⟩ = some (.string prc) := (HB3.out.kp KU.out).cell 0
    have u31 : U.cell? ⟨b3, 1, none⟩ = some (.string c) := (HB3.out.kp KU.out).cell 1
    have u32 : U.cell? ⟨b3, 2, none⟩ = some (.int .i64 pc) := (HB3.out.kp KU.out).cell 2
    clear CH
    go_wp2_with fail
    refine (configAwake_any _).mono ?_
    rintro e wl ⟨rfl, hk⟩
    have KL := Lib.hid ((HKX.out.trans KU.out).trans hk)
    clear hk
    go_wp2_with fail
    go_ret
    exact ⟨rfl, KL.out⟩
  have HSR := Lib.hid hsr
  have HSH := Lib.hid hsh
  have o1 : srvOk pra a = true := srvL_at _ _ 3 hsr 0 (by omega)
  have o2 : srvOk prb b = true := srvL_at _ _ 3 hsr 1 (by omega)
  have o3 : srvOk prc c = true := srvL_at _ _ 3 hsr 2 (by omega)
  have SAB := Lib.hid (fun pr2 w1 => eq_any pra a prb b pa pb o1 o2 pr2 w1)
  have SBC := Lib.hid (fun w1 => eq_any prb b prc c pb pc o2 o3 prc w1)
  have SAC := Lib.hid (fun w1 => eq_any pra a prc c pa pc o1 o3 prc w1)
  have HT := Lib.hid (show eqB a b pa pb = true → eqB b c pb pc = true → eqB a c pa pc = true from fun h k => eqB_trans h k)
  clear hsr hsh o1 o2 o3
  generalize eqB a b pa pb = e1 at SAB HT
  generalize eqB b c pb pc = e2 at SBC HT
  generalize eqB a c pa pc = e3 at SAC HT
  go_enter Tryd.func6, Tryd.ntmps6
  go_wp2_with fail
  generalize hX : ((w.alloc (.cells #[.string pra, .string a, .int .i64 pa] 27)).alloc (.cells #[.string prb, .string b, .int .i64 pb] 27)).alloc (.cells #[.string prc, .string c, .int .i64 pc] 27) = X
  obtain ⟨b1, hb1⟩ : ∃ b1, b1 = w.heap.size := ⟨_, rfl⟩
  obtain ⟨b2, hb2⟩ : ∃ b2, b2 = w.heap.size + 1 := ⟨_, rfl⟩
  obtain ⟨b3, hb3⟩ : ∃ b3, b3 = w.heap.size + 1 + 1 := ⟨_, rfl⟩
  have HB1 := Lib.hid (show Blk X b1 27 #[.string pra, .string a, .int .i64 pa] from by rw [hb1, ← hX]; exact ((Blk.new w _ _).alloc _).alloc _)
  have HB2 := Lib.hid (show Blk X b2 27 #[.string prb, .string b, .int .i64 pb] from by rw [hb2, ← hX]; exact (Blk.new2 w _ _ _).alloc _)
  have HB3 := Lib.hid (show Blk X b3 27 #[.string prc, .string c, .int .i64 pc] from by rw [hb3, ← hX]; have := Blk.new2 (w.alloc (.cells #[.string pra, .string a, .int .i64 pa] 27)) (.cells #[.string prb, .string b, .int .i64 pb] 27) 27 #[.string prc, .string c, .int .i64 pc]; rw [World.size_alloc] at this; exact this)
  have HKX := Lib.hid (show Kp w X from hX ▸ (((Kp.refl w).alloc _).alloc _).alloc _)
  rw [← hb3, ← hb2, ← hb1]
  clear hX hb1 hb2 hb3
  refine (Z1.out _).mono ?_
  rintro e w1 ⟨rfl, hk⟩
  have Kw1 := Lib.hid (show Kp X w1 from hk)
  clear hk
  have u10 : w1.cell? ⟨b1, 0, none⟩ = some (.string pra) := (HB1.out.kp Kw1.out).cell 0
  have u11 : w1.cell? ⟨b1, 1, none⟩ = some (.string a) := (HB1.out.kp Kw1.out).cell 1
  have u12 : w1.cell? ⟨b1, 2, none⟩ = some (.int .i64 pa) := (HB1.out.kp Kw1.out).cell 2
  have u20 : w1.cell? ⟨b2, 0, none⟩ = some (.string prb) := (HB2.out.kp Kw1.out).cell 0
  have u21 : w1.cell? ⟨b2, 1, none⟩ = some (.string b) := (HB2.out.kp Kw1.out).cell 1
  have u22 : w1.cell? ⟨b2, 2, none⟩ = some (.int .i64 pb) := (HB2.out.kp Kw1.out).cell 2
  have u30 : w1.cell? ⟨b3, 0, none⟩ = some (.string prc) := (HB3.out.kp Kw1.out).cell 0
  have u31 : w1.cell? ⟨b3, 1, none⟩ = some (.string c) := (HB3.out.kp Kw1.out).cell 1
  have u32 : w1.cell? ⟨b3, 2, none⟩ = some (.int .i64 pc) := (HB3.out.kp Kw1.out).cell 2
  go_wp2_with fail
  clear u10 u11 u12 u20 u21 u22 u30 u31 u32
  refine (Z2.out _).mono ?_
  rintro e w2 ⟨rfl, hk⟩
  have Kw2 := Lib.hid (Kw1.out.trans hk)
  clear hk
  have u10 : w2.cell? ⟨b1, 0, none⟩ = some (.string pra) := (HB1.out.kp Kw2.out).cell 0
  have u11 : w2.cell? ⟨b1, 1, none⟩ = some (.string a) := (HB1.out.kp Kw2.out).cell 1
  have u12 : w2.cell? ⟨b1, 2, none⟩ = some (.int .i64 pa) := (HB1.out.kp Kw2.out).cell 2
  have u20 : w2.cell? ⟨b2, 0, none⟩ = some (.string prb) := (HB2.out.kp Kw2.out).cell 0
  have u21 : w2.cell? ⟨b2, 1, none⟩ = some (.string b) := (HB2.out.kp Kw2.out).cell 1
  have u22 : w2.cell? ⟨b2, 2, none⟩ = some (.int .i64 pb) := (HB2.out.kp Kw2.out).cell 2
  have u30 : w2.cell? ⟨b3, 0, none⟩ = some (.string prc) := (HB3.out.kp Kw2.out).cell 0
  have u31 : w2.cell? ⟨b3, 1, none⟩ = some (.string c) := (HB3.out.kp Kw2.out).cell 1
  have u32 : w2.cell? ⟨b3, 2, none⟩ = some (.int .i64 pc) := (HB3.out.kp Kw2.out).cell 2
  go_wp2_with fail
  clear u10 u11 u12 u20 u21 u22 u30 u31 u32
  refine (Z3.out _).mono ?_
  rintro e w3 ⟨rfl, hk⟩
  have Kw3 := Lib.hid (Kw2.out.trans hk)
  clear hk
  have u10 : w3.cell? ⟨b1, 0, none⟩ = some (.string pra) := (HB1.out.kp Kw3.out).cell 0
  have u11 : w3.cell? ⟨b1, 1, none⟩ = some (.string a) := (HB1.out.kp Kw3.out).cell 1
  have u12 : w3.cell? ⟨b1, 2, none⟩ = some (.int .i64 pa) := (HB1.out.kp Kw3.out).cell 2
  have u20 : w3.cell? ⟨b2, 0, none⟩ = some (.string prb) := (HB2.out.kp Kw3.out).cell 0
  have u21 : w3.cell? ⟨b2, 1, none⟩ = some (.string b) := (HB2.out.kp Kw3.out).cell 1
  have u22 : w3.cell? ⟨b2, 2, none⟩ = some (.int .i64 pb) := (HB2.out.kp Kw3.out).cell 2
  have u30 : w3.cell? ⟨b3, 0, none⟩ = some (.string prc) := (HB3.out.kp Kw3.out).cell 0
  have u31 : w3.cell? ⟨b3, 1, none⟩ = some (.string c) := (HB3.out.kp Kw3.out).cell 1
  have u32 : w3.cell? ⟨b3, 2, none⟩ = some (.int .i64 pc) := (HB3.out.kp Kw3.out).cell 2
  go_wp2_with fail
  clear u10 u11 u12 u20 u21 u22 u30 u31 u32
  generalize hY : w3.alloc (.cells #[.string pra, .string a, .int .i64 pa, .string prb, .string b, .int .i64 pb, .string prc, .string c, .int .i64 pc] 27) = Y
  have hBY : Blk Y w3.heap.size 27 #[.string pra, .string a, .int .i64 pa, .string prb, .string b, .int .i64 pb, .string prc, .string c, .int .i64 pc] := hY ▸ Blk.new w3 _ _
  have KY := Lib.hid (show Kp X Y from Kw3.out.trans (hY ▸ (Kp.refl w3).alloc _))
  have CS := Lib.hid (configServers_any w3.heap.size 3 3 (fun r => if r = 0 then pra else if r = 1 then prb else prc) (fun r => if r = 0 then a else if r = 1 then b else c) (fun r => if r = 0 then pa else if r = 1 then pb else pc) Y (fun r hr => by
    rcases (show r = 0 ∨ r = 1 ∨ r = 2 by omega) with rfl | rfl | rfl
    · exact ⟨hBY.cell 0, hBY.cell 1, hBY.cell 2, HM.out.1, HM.out.2.1⟩
    · exact ⟨hBY.cell 3, hBY.cell 4, hBY.cell 5, HM.out.2.2.1, HM.out.2.2.2.1⟩
    · exact ⟨hBY.cell 6, hBY.cell 7, hBY.cell 8, HM.out.2.2.2.2.1, HM.out.2.2.2.2.2⟩) (by omega))
  rw [HSR.out] at CS
  clear hY hBY
  refine CS.out.mono ?_
  rintro e w4 ⟨rfl, hk⟩
  have Kw4 := Lib.hid (KY.out.trans hk)
  clear hk CS
  have u10 : w4.cell? ⟨b1, 0, none⟩ = some (.string pra) := (HB1.out.kp Kw4.out).cell 0
  have u11 : w4.cell? ⟨b1, 1, none⟩ = some (.string a) := (HB1.out.kp Kw4.out).cell 1
  have u12 : w4.cell? ⟨b1, 2, none⟩ = some (.int .i64 pa) := (HB1.out.kp Kw4.out).cell 2
  have u20 : w4.cell? ⟨b2, 0, none⟩ = some (.string prb) := (HB2.out.kp Kw4.out).cell 0
  have u21 : w4.cell? ⟨b2, 1, none⟩ = some (.string b) := (HB2.out.kp Kw4.out).cell 1
  have u22 : w4.cell? ⟨b2, 2, none⟩ = some (.int .i64 pb) := (HB2.out.kp Kw4.out).cell 2
  have u30 : w4.cell? ⟨b3, 0, none⟩ = some (.string prc) := (HB3.out.kp Kw4.out).cell 0
  have u31 : w4.cell? ⟨b3, 1, none⟩ = some (.string c) := (HB3.out.kp Kw4.out).cell 1
  have u32 : w4.cell? ⟨b3, 2, none⟩ = some (.int .i64 pc) := (HB3.out.kp Kw4.out).cell 2
  go_wp2_with fail
  generalize hU : w4.alloc (.cells #[.string pr] 9) = U
  have hBU : Blk U w4.heap.size 9 #[.string pr] := hU ▸ Blk.new w4 _ _
  have KU := Lib.hid (show Kp X U from Kw4.out.trans (hU ▸ (Kp.refl w4).alloc _))
  have CH := Lib.hid (configShort_any w4.heap.size 1 1 (fun _ => pr) U (fun r hr => by
    obtain rfl : r = 0 := by omega
    exact hBU.cell 0) (fun _ _ => HM7.out) (by omega))
  rw [HSH.out] at CH
  clear hU hBU
  refine CH.out.mono ?_
  rintro e wx ⟨rfl, rfl⟩
  clear u10 u11 u12 u20 u21 u22 u30 u31 u32
  have u10 : U.cell? ⟨b1, 0, none⟩ = some (.string pra) := (HB1.out.kp KU.out).cell 0
  have u11 : U.cell? ⟨b1, 1, none⟩ = some (.string a) := (HB1.out.kp KU.out).cell 1
  have u12 : U.cell? ⟨b1, 2, none⟩ = some (.int .i64 pa) := (HB1.out.kp KU.out).cell 2
  have u20 : U.cell? ⟨b2, 0, none⟩ = some (.string prb) := (HB2.out.kp KU.out).cell 0
  have u21 : U.cell? ⟨b2, 1, none⟩ = some (.string b) := (HB2.out.kp KU.out).cell 1
  have u22 : U.cell? ⟨b2, 2, none⟩ = some (.int .i64 pb) := (HB2.out.kp KU.out).cell 2
  have u30 : U.cell? ⟨b3, 0, none⟩ = some (.string prc) := (HB3.out.kp KU.out).cell 0
  have u31 : U.cell? ⟨b3, 1, none⟩ = some (.string c) := (HB3.out.kp KU.out).cell 1
  have u32 : U.cell? ⟨b3, 2, none⟩ = some (.int .i64 pc) := (HB3.out.kp KU.out).cell 2
  clear CH
  go_wp2_with fail
  refine (SAB.out _ _).mono ?_
  rintro e U1 ⟨rfl, hk⟩
  have KU1 := Lib.hid (KU.out.trans hk)
  clear hk
  clear u10 u11 u12 u20 u21 u22 u30 u31 u32
  have u10 : U1.cell? ⟨b1, 0, none⟩ = some (.string pra) := (HB1.out.kp KU1.out).cell 0
  have u11 : U1.cell? ⟨b1, 1, none⟩ = some (.string a) := (HB1.out.kp KU1.out).cell 1
  have u12 : U1.cell? ⟨b1, 2, none⟩ = some (.int .i64 pa) := (HB1.out.kp KU1.out).cell 2
  have u20 : U1.cell? ⟨b2, 0, none⟩ = some (.string prb) := (HB2.out.kp KU1.out).cell 0
  have u21 : U1.cell? ⟨b2, 1, none⟩ = some (.string b) := (HB2.out.kp KU1.out).cell 1
  have u22 : U1.cell? ⟨b2, 2, none⟩ = some (.int .i64 pb) := (HB2.out.kp KU1.out).cell 2
  have u30 : U1.cell? ⟨b3, 0, none⟩ = some (.string prc) := (HB3.out.kp KU1.out).cell 0
  have u31 : U1.cell? ⟨b3, 1, none⟩ = some (.string c) := (HB3.out.kp KU1.out).cell 1
  have u32 : U1.cell? ⟨b3, 2, none⟩ = some (.int .i64 pc) := (HB3.out.kp KU1.out).cell 2
  cases e1
  · obtain ⟨U2, hU2⟩ : ∃ U2, U2 = U1 := ⟨_, rfl⟩
    have KU2 := Lib.hid (show Kp X U2 from hU2 ▸ KU1.out)
    go_wp2_with fail
    rw [← hU2]
    clear hU2
    generalize hV : U2.alloc (.cells #[.string pr, .string b, .int .i64 pb] 27) = V
    obtain ⟨t9, ht9⟩ : ∃ t9, t9 = U2.heap.size := ⟨_, rfl⟩
    have HB9 := Lib.hid (show Blk V t9 27 #[.string pr, .string b, .int .i64 pb] from by rw [ht9, ← hV]; exact Blk.new U2 _ _)
    have KV := Lib.hid (show Kp X V from KU2.out.trans (hV ▸ (Kp.refl U2).alloc _))
    rw [← ht9]
    clear hV ht9 u10 u11 u12 u20 u21 u22 u30 u31 u32
    have q0 : V.cell? ⟨b1, 0, none⟩ = some (.string pra) := (HB1.out.kp KV.out).cell 0
    have q1 : V.cell? ⟨b1, 1, none⟩ = some (.string a) := (HB1.out.kp KV.out).cell 1
    have q2 : V.cell? ⟨b1, 2, none⟩ = some (.int .i64 pa) := (HB1.out.kp KV.out).cell 2
    have q3 : V.cell? ⟨b2, 0, none⟩ = some (.string prb) := (HB2.out.kp KV.out).cell 0
    have q4 : V.cell? ⟨b2, 1, none⟩ = some (.string b) := (HB2.out.kp KV.out).cell 1
    have q5 : V.cell? ⟨b2, 2, none⟩ = some (.int .i64 pb) := (HB2.out.kp KV.out).cell 2
    have q6 : V.cell? ⟨t9, 0, none⟩ = some (.string pr) := HB9.out.cell 0
    have q7 : V.cell? ⟨t9, 1, none⟩ = some (.string b) := HB9.out.cell 1
    have q8 : V.cell? ⟨t9, 2, none⟩ = some (.int .i64 pb) := HB9.out.cell 2
    refine wp_region_noPanic ?_
    refine wp_region_held_drew (S := fun w' => w'.cell? ⟨b1, 0, none⟩ = some (.string pra) ∧ w'.cell? ⟨b1, 1, none⟩ = some (.string a) ∧ w'.cell? ⟨b1, 2, none⟩ = some (.int .i64 pa) ∧ w'.cell? ⟨b2, 0, none⟩ = some (.string prb) ∧ w'.cell? ⟨b2, 1, none⟩ = some (.string b) ∧ w'.cell? ⟨b2, 2, none⟩ = some (.int .i64 pb) ∧ w'.cell? ⟨t9, 0, none⟩ = some (.string pr) ∧ w'.cell? ⟨t9, 1, none⟩ = some (.string b) ∧ w'.cell? ⟨t9, 2, none⟩ = some (.int .i64 pb)) (by kernel_rfl) ⟨q0, q1, q2, q3, q4, q5, q6, q7, q8⟩ (fun hHeld => ?_)
    refine wpAnyH_take (i := 0) (v := ?_) (by simp only [List.getElem?_toArray, List.getElem?_cons_zero] <;> rfl) (by kernel_rfl) (by kernel_rfl) (by kernel_rfl) (fun _ _ _ h => h) (.inl ⟨by rfl, ?_⟩) (by assumption) ?_
    rotate_left 1
    · intro wz hSw; (try dsimp only at hSw); go_simp; (try with_reducible rfl)
    try simp only [Act.put, List.setIfInBounds_toArray, List.set_cons_zero, List.set_cons_succ]
    refine wpAnyH_take (i := 1) (v := ?_) (by simp only [List.getElem?_toArray, List.getElem?_cons_zero, List.getElem?_cons_succ] <;> rfl) (by kernel_rfl) (by kernel_rfl) (by kernel_rfl) (fun _ _ _ h => h) (.inl ⟨by rfl, ?_⟩) (by assumption) ?_
    rotate_left 1
    · intro wz hSw; (try dsimp only at hSw); go_simp; (try with_reducible rfl)
    try simp only [Act.put, List.setIfInBounds_toArray, List.set_cons_zero, List.set_cons_succ]
    refine wpAnyH_take (i := 3) (v := ?_) (by simp only [List.getElem?_toArray, List.getElem?_cons_zero, List.getElem?_cons_succ] <;> rfl) (by kernel_rfl) (by kernel_rfl) (by kernel_rfl) (fun _ _ _ h => h) (.inl ⟨by rfl, ?_⟩) (by assumption) ?_
    rotate_left 1
    · intro wz hSw; (try dsimp only at hSw); go_simp; (try with_reducible rfl)
    try simp only [Act.put, List.setIfInBounds_toArray, List.set_cons_zero, List.set_cons_succ]
    refine wpAnyH_take (i := 4) (v := ?_) (by simp only [List.getElem?_toArray, List.getElem?_cons_zero, List.getElem?_cons_succ] <;> rfl) (by kernel_rfl) (by kernel_rfl) (by kernel_rfl) (fun _ _ _ h => h) (.inl ⟨by rfl, ?_⟩) (by assumption) ?_
    rotate_left 1
    · intro wz hSw; (try dsimp only at hSw); go_simp; (try with_reducible rfl)
    try simp only [Act.put, List.setIfInBounds_toArray, List.set_cons_zero, List.set_cons_succ]
    refine wpAnyH_ready (rs := [2]) (by kernel_rfl) (by simp) ?_
    refine AllReadyH.cons (by simp only [List.getElem?_toArray, List.getElem?_cons_zero, List.getElem?_cons_succ] <;> rfl) (fun K hK => ?_) AllReadyH.nil
    go_simp
    refine (SAB.out _ _).mono ?_
    rintro e n1 ⟨rfl, hk⟩
    have Qn1 := Lib.hid (show Kp V n1 from (by first | exact hk | exact (Kp.refl V).drew.trans hk))
    have r0 := below_some Qn1.out q0
    have r1 := below_some Qn1.out q1
    have r2 := below_some Qn1.out q2
    have r3 := below_some Qn1.out q3
    have r4 := below_some Qn1.out q4
    have r5 := below_some Qn1.out q5
    have r6 := below_some Qn1.out q6
    have r7 := below_some Qn1.out q7
    have r8 := below_some Qn1.out q8
    clear hk
    go_wp2_with fail
    refine hK.out _ _ ⟨r0, r1, r2, r3, r4, r5, r6, r7, r8⟩ (fun hHeld => ?_)
    clear hK K
    try simp only [Act.put, List.setIfInBounds_toArray, List.set_cons_zero, List.set_cons_succ]
    refine wpAnyH_ready (rs := [5]) (by kernel_rfl) (by simp) ?_
    refine AllReadyH.cons (by simp only [List.getElem?_toArray, List.getElem?_cons_zero, List.getElem?_cons_succ] <;> rfl) (fun K hK => ?_) AllReadyH.nil
    go_simp
    refine (SAB.out _ _).mono ?_
    rintro e n2 ⟨rfl, hk⟩
    have Qn2 := Lib.hid (show Kp n1 n2 from (by first | exact hk | exact (Kp.refl n1).drew.trans hk))
    have s0 := below_some Qn2.out r0
    have s1 := below_some Qn2.out r1
    have s2 := below_some Qn2.out r2
    have s3 := below_some Qn2.out r3
    have s4 := below_some Qn2.out r4
    have s5 := below_some Qn2.out r5
    have s6 := below_some Qn2.out r6
    have s7 := below_some Qn2.out r7
    have s8 := below_some Qn2.out r8
    clear hk
    go_wp2_with fail
    refine hK.out _ _ ⟨s0, s1, s2, s3, s4, s5, s6, s7, s8⟩ (fun hHeld => ?_)
    clear hK K
    try simp only [Act.put, List.setIfInBounds_toArray, List.set_cons_zero, List.set_cons_succ]
    refine wpAnyH_take (i := 6) (v := ?_) (by simp only [List.getElem?_toArray, List.getElem?_cons_zero, List.getElem?_cons_succ] <;> rfl) (by kernel_rfl) (by kernel_rfl) (by kernel_rfl) (fun _ _ _ h => h) (.inl ⟨by rfl, ?_⟩) (by assumption) ?_
    rotate_left 1
    · intro wz hSw; (try dsimp only at hSw); go_simp; (try with_reducible rfl)
    try simp only [Act.put, List.setIfInBounds_toArray, List.set_cons_zero, List.set_cons_succ]
    refine wpAnyH_take (i := 7) (v := ?_) (by simp only [List.getElem?_toArray, List.getElem?_cons_zero, List.getElem?_cons_succ] <;> rfl) (by kernel_rfl) (by kernel_rfl) (by kernel_rfl) (fun _ _ _ h => h) (.inl ⟨by rfl, ?_⟩) (by assumption) ?_
    rotate_left 1
    · intro wz hSw; (try dsimp only at hSw); go_simp; (try with_reducible rfl)
    try simp only [Act.put, List.setIfInBounds_toArray, List.set_cons_zero, List.set_cons_succ]
    refine wpAnyH_ready (rs := [8]) (by kernel_rfl) (by simp) ?_
    refine AllReadyH.cons (by simp only [List.getElem?_toArray, List.getElem?_cons_zero, List.getElem?_cons_succ] <;> rfl) (fun K hK => ?_) AllReadyH.nil
    go_simp
    refine (configAwake_any _).mono ?_
    rintro e n3 ⟨rfl, hk⟩
    have Qn3 := Lib.hid (show Kp n2 n3 from (by first | exact hk | exact (Kp.refl n2).drew.trans hk))
    have t0 := below_some Qn3.out s0
    have t1 := below_some Qn3.out s1
    have t2 := below_some Qn3.out s2
    have t3 := below_some Qn3.out s3
    have t4 := below_some Qn3.out s4
    have t5 := below_some Qn3.out s5
    have t6 := below_some Qn3.out s6
    have t7 := below_some Qn3.out s7
    have t8 := below_some Qn3.out s8
    clear hk
    go_wp2_with fail
    refine hK.out _ _ ⟨t0, t1, t2, t3, t4, t5, t6, t7, t8⟩ (fun hHeld => ?_)
    clear hK K
    try simp only [Act.put, List.setIfInBounds_toArray, List.set_cons_zero, List.set_cons_succ]
    refine wpAnyH_take (i := 9) (v := ?_) (by simp only [List.getElem?_toArray, List.getElem?_cons_zero, List.getElem?_cons_succ] <;> rfl) (by kernel_rfl) (by kernel_rfl) (by kernel_rfl) (fun _ _ _ h => h) (.inl ⟨by rfl, ?_⟩) (by assumption) ?_
    rotate_left 1
    · intro wz hSw; (try dsimp only at hSw); go_simp; (try with_reducible rfl)
    try simp only [Act.put, List.setIfInBounds_toArray, List.set_cons_zero, List.set_cons_succ]
    refine wpAnyH_take (i := 10) (v := ?_) (by simp only [List.getElem?_toArray, List.getElem?_cons_zero, List.getElem?_cons_succ] <;> rfl) (by kernel_rfl) (by kernel_rfl) (by kernel_rfl) (fun _ _ _ h => h) (.inl ⟨by rfl, ?_⟩) (by assumption) ?_
    rotate_left 1
    · intro wz hSw; (try dsimp only at hSw); go_simp; (try with_reducible rfl)
    try simp only [Act.put, List.setIfInBounds_toArray, List.set_cons_zero, List.set_cons_succ]
    refine wpAnyH_done (by kernel_rfl) ?_ _
    refine NoPanic.normal ?_
    go_wp2_with fail
    go_ret
    exact ⟨rfl, HKX.out.trans (KV.out.trans (Qn1.out.trans (Qn2.out.trans Qn3.out)))⟩
  · go_wp2_with fail
    refine (SBC.out _).mono ?_
    rintro e U3 ⟨rfl, hk⟩
    have KU3 := Lib.hid (KU1.out.trans hk)
    clear hk
    clear u10 u11 u12 u20 u21 u22 u30 u31 u32
    have u10 : U3.cell? ⟨b1, 0, none⟩ = some (.string pra) := (HB1.out.kp KU3.out).cell 0
    have u11 : U3.cell? ⟨b1, 1, none⟩ = some (.string a) := (HB1.out.kp KU3.out).cell 1
    have u12 : U3.cell? ⟨b1, 2, none⟩ = some (.int .i64 pa) := (HB1.out.kp KU3.out).cell 2
    have u20 : U3.cell? ⟨b2, 0, none⟩ = some (.string prb) := (HB2.out.kp KU3.out).cell 0
    have u21 : U3.cell? ⟨b2, 1, none⟩ = some (.string b) := (HB2.out.kp KU3.out).cell 1
    have u22 : U3.cell? ⟨b2, 2, none⟩ = some (.int .i64 pb) := (HB2.out.kp KU3.out).cell 2
    have u30 : U3.cell? ⟨b3, 0, none⟩ = some (.string prc) := (HB3.out.kp KU3.out).cell 0
    have u31 : U3.cell? ⟨b3, 1, none⟩ = some (.string c) := (HB3.out.kp KU3.out).cell 1
    have u32 : U3.cell? ⟨b3, 2, none⟩ = some (.int .i64 pc) := (HB3.out.kp KU3.out).cell 2
    cases e2
    · obtain ⟨U2, hU2⟩ : ∃ U2, U2 = U3 := ⟨_, rfl⟩
      have KU2 := Lib.hid (show Kp X U2 from hU2 ▸ KU3.out)
      go_wp2_with fail
      rw [← hU2]
      clear hU2
      generalize hV : U2.alloc (.cells #[.string pr, .string b, .int .i64 pb] 27) = V
      obtain ⟨t9, ht9⟩ : ∃ t9, t9 = U2.heap.size := ⟨_, rfl⟩
      have HB9 := Lib.hid (show Blk V t9 27 #[.string pr, .string b, .int .i64 pb] from by rw [ht9, ← hV]; exact Blk.new U2 _ _)
      have KV := Lib.hid (show Kp X V from KU2.out.trans (hV ▸ (Kp.refl U2).alloc _))
      rw [← ht9]
      clear hV ht9 u10 u11 u12 u20 u21 u22 u30 u31 u32
      have q0 : V.cell? ⟨b1, 0, none⟩ = some (.string pra) := (HB1.out.kp KV.out).cell 0
      have q1 : V.cell? ⟨b1, 1, none⟩ = some (.string a) := (HB1.out.kp KV.out).cell 1
      have q2 : V.cell? ⟨b1, 2, none⟩ = some (.int .i64 pa) := (HB1.out.kp KV.out).cell 2
      have q3 : V.cell? ⟨b2, 0, none⟩ = some (.string prb) := (HB2.out.kp KV.out).cell 0
      have q4 : V.cell? ⟨b2, 1, none⟩ = some (.string b) := (HB2.out.kp KV.out).cell 1
      have q5 : V.cell? ⟨b2, 2, none⟩ = some (.int .i64 pb) := (HB2.out.kp KV.out).cell 2
      have q6 : V.cell? ⟨t9, 0, none⟩ = some (.string pr) := HB9.out.cell 0
      have q7 : V.cell? ⟨t9, 1, none⟩ = some (.string b) := HB9.out.cell 1
      have q8 : V.cell? ⟨t9, 2, none⟩ = some (.int .i64 pb) := HB9.out.cell 2
      refine wp_region_noPanic ?_
      refine wp_region_held_drew (S := fun w' => w'.cell? ⟨b1, 0, none⟩ = some (.string pra) ∧ w'.cell? ⟨b1, 1, none⟩ = some (.string a) ∧ w'.cell? ⟨b1, 2, none⟩ = some (.int .i64 pa) ∧ w'.cell? ⟨b2, 0, none⟩ = some (.string prb) ∧ w'.cell? ⟨b2, 1, none⟩ = some (.string b) ∧ w'.cell? ⟨b2, 2, none⟩ = some (.int .i64 pb) ∧ w'.cell? ⟨t9, 0, none⟩ = some (.string pr) ∧ w'.cell? ⟨t9, 1, none⟩ = some (.string b) ∧ w'.cell? ⟨t9, 2, none⟩ = some (.int .i64 pb)) (by kernel_rfl) ⟨q0, q1, q2, q3, q4, q5, q6, q7, q8⟩ (fun hHeld => ?_)
      refine wpAnyH_take (i := 0) (v := ?_) (by simp only [List.getElem?_toArray, List.getElem?_cons_zero] <;> rfl) (by kernel_rfl) (by kernel_rfl) (by kernel_rfl) (fun _ _ _ h => h) (.inl ⟨by rfl, ?_⟩) (by assumption) ?_
      rotate_left 1
      · intro wz hSw; (try dsimp only at hSw); go_simp; (try with_reducible rfl)
      try simp only [Act.put, List.setIfInBounds_toArray, List.set_cons_zero, List.set_cons_succ]
      refine wpAnyH_take (i := 1) (v := ?_) (by simp only [List.getElem?_toArray, List.getElem?_cons_zero, List.getElem?_cons_succ] <;> rfl) (by kernel_rfl) (by kernel_rfl) (by kernel_rfl) (fun _ _ _ h => h) (.inl ⟨by rfl, ?_⟩) (by assumption) ?_
      rotate_left 1
      · intro wz hSw; (try dsimp only at hSw); go_simp; (try with_reducible rfl)
      try simp only [Act.put, List.setIfInBounds_toArray, List.set_cons_zero, List.set_cons_succ]
      refine wpAnyH_take (i := 3) (v := ?_) (by simp only [List.getElem?_toArray, List.getElem?_cons_zero, List.getElem?_cons_succ] <;> rfl) (by kernel_rfl) (by kernel_rfl) (by kernel_rfl) (fun _ _ _ h => h) (.inl ⟨by rfl, ?_⟩) (by assumption) ?_
      rotate_left 1
      · intro wz hSw; (try dsimp only at hSw); go_simp; (try with_reducible rfl)
      try simp only [Act.put, List.setIfInBounds_toArray, List.set_cons_zero, List.set_cons_succ]
      refine wpAnyH_take (i := 4) (v := ?_) (by simp only [List.getElem?_toArray, List.getElem?_cons_zero, List.getElem?_cons_succ] <;> rfl) (by kernel_rfl) (by kernel_rfl) (by kernel_rfl) (fun _ _ _ h => h) (.inl ⟨by rfl, ?_⟩) (by assumption) ?_
      rotate_left 1
      · intro wz hSw; (try dsimp only at hSw); go_simp; (try with_reducible rfl)
      try simp only [Act.put, List.setIfInBounds_toArray, List.set_cons_zero, List.set_cons_succ]
      refine wpAnyH_ready (rs := [2]) (by kernel_rfl) (by simp) ?_
      refine AllReadyH.cons (by simp only [List.getElem?_toArray, List.getElem?_cons_zero, List.getElem?_cons_succ] <;> rfl) (fun K hK => ?_) AllReadyH.nil
      go_simp
      refine (SAB.out _ _).mono ?_
      rintro e n1 ⟨rfl, hk⟩
      have Qn1 := Lib.hid (show Kp V n1 from (by first | exact hk | exact (Kp.refl V).drew.trans hk))
      have r0 := below_some Qn1.out q0
      have r1 := below_some Qn1.out q1
      have r2 := below_some Qn1.out q2
      have r3 := below_some Qn1.out q3
      have r4 := below_some Qn1.out q4
      have r5 := below_some Qn1.out q5
      have r6 := below_some Qn1.out q6
      have r7 := below_some Qn1.out q7
      have r8 := below_some Qn1.out q8
      clear hk
      go_wp2_with fail
      refine hK.out _ _ ⟨r0, r1, r2, r3, r4, r5, r6, r7, r8⟩ (fun hHeld => ?_)
      clear hK K
      try simp only [Act.put, List.setIfInBounds_toArray, List.set_cons_zero, List.set_cons_succ]
      refine wpAnyH_ready (rs := [5]) (by kernel_rfl) (by simp) ?_
      refine AllReadyH.cons (by simp only [List.getElem?_toArray, List.getElem?_cons_zero, List.getElem?_cons_succ] <;> rfl) (fun K hK => ?_) AllReadyH.nil
      go_simp
      refine (SAB.out _ _).mono ?_
      rintro e n2 ⟨rfl, hk⟩
      have Qn2 := Lib.hid (show Kp n1 n2 from (by first | exact hk | exact (Kp.refl n1).drew.trans hk))
      have s0 := below_some Qn2.out r0
      have s1 := below_some Qn2.out r1
      have s2 := below_some Qn2.out r2
      have s3 := below_some Qn2.out r3
      have s4 := below_some Qn2.out r4
      have s5 := below_some Qn2.out r5
      have s6 := below_some Qn2.out r6
      have s7 := below_some Qn2.out r7
      have s8 := below_some Qn2.out r8
      clear hk
      go_wp2_with fail
      refine hK.out _ _ ⟨s0, s1, s2, s3, s4, s5, s6, s7, s8⟩ (fun hHeld => ?_)
      clear hK K
      try simp only [Act.put, List.setIfInBounds_toArray, List.set_cons_zero, List.set_cons_succ]
      refine wpAnyH_take (i := 6) (v := ?_) (by simp only [List.getElem?_toArray, List.getElem?_cons_zero, List.getElem?_cons_succ] <;> rfl) (by kernel_rfl) (by kernel_rfl) (by kernel_rfl) (fun _ _ _ h => h) (.inl ⟨by rfl, ?_⟩) (by assumption) ?_
      rotate_left 1
      · intro wz hSw; (try dsimp only at hSw); go_simp; (try with_reducible rfl)
      try simp only [Act.put, List.setIfInBounds_toArray, List.set_cons_zero, List.set_cons_succ]
      refine wpAnyH_take (i := 7) (v := ?_) (by simp only [List.getElem?_toArray, List.getElem?_cons_zero, List.getElem?_cons_succ] <;> rfl) (by kernel_rfl) (by kernel_rfl) (by kernel_rfl) (fun _ _ _ h => h) (.inl ⟨by rfl, ?_⟩) (by assumption) ?_
      rotate_left 1
      · intro wz hSw; (try dsimp only at hSw); go_simp; (try with_reducible rfl)
      try simp only [Act.put, List.setIfInBounds_toArray, List.set_cons_zero, List.set_cons_succ]
      refine wpAnyH_ready (rs := [8]) (by kernel_rfl) (by simp) ?_
      refine AllReadyH.cons (by simp only [List.getElem?_toArray, List.getElem?_cons_zero, List.getElem?_cons_succ] <;> rfl) (fun K hK => ?_) AllReadyH.nil
      go_simp
      refine (configAwake_any _).mono ?_
      rintro e n3 ⟨rfl, hk⟩
      have Qn3 := Lib.hid (show Kp n2 n3 from (by first | exact hk | exact (Kp.refl n2).drew.trans hk))
      have t0 := below_some Qn3.out s0
      have t1 := below_some Qn3.out s1
      have t2 := below_some Qn3.out s2
      have t3 := below_some Qn3.out s3
      have t4 := below_some Qn3.out s4
      have t5 := below_some Qn3.out s5
      have t6 := below_some Qn3.out s6
      have t7 := below_some Qn3.out s7
      have t8 := below_some Qn3.out s8
      clear hk
      go_wp2_with fail
      refine hK.out _ _ ⟨t0, t1, t2, t3, t4, t5, t6, t7, t8⟩ (fun hHeld => ?_)
      clear hK K
      try simp only [Act.put, List.setIfInBounds_toArray, List.set_cons_zero, List.set_cons_succ]
      refine wpAnyH_take (i := 9) (v := ?_) (by simp only [List.getElem?_toArray, List.getElem?_cons_zero, List.getElem?_cons_succ] <;> rfl) (by kernel_rfl) (by kernel_rfl) (by kernel_rfl) (fun _ _ _ h => h) (.inl ⟨by rfl, ?_⟩) (by assumption) ?_
      rotate_left 1
      · intro wz hSw; (try dsimp only at hSw); go_simp; (try with_reducible rfl)
      try simp only [Act.put, List.setIfInBounds_toArray, List.set_cons_zero, List.set_cons_succ]
      refine wpAnyH_take (i := 10) (v := ?_) (by simp only [List.getElem?_toArray, List.getElem?_cons_zero, List.getElem?_cons_succ] <;> rfl) (by kernel_rfl) (by kernel_rfl) (by kernel_rfl) (fun _ _ _ h => h) (.inl ⟨by rfl, ?_⟩) (by assumption) ?_
      rotate_left 1
      · intro wz hSw; (try dsimp only at hSw); go_simp; (try with_reducible rfl)
      try simp only [Act.put, List.setIfInBounds_toArray, List.set_cons_zero, List.set_cons_succ]
      refine wpAnyH_done (by kernel_rfl) ?_ _
      refine NoPanic.normal ?_
      go_wp2_with fail
      go_ret
      exact ⟨rfl, HKX.out.trans (KV.out.trans (Qn1.out.trans (Qn2.out.trans Qn3.out)))⟩
    · obtain rfl : e3 = true := by first | exact HT.out rfl rfl | exact HT.out trivial rfl
      go_wp2_with fail
      refine (SAC.out _).mono ?_
      rintro e U2 ⟨rfl, hk⟩
      have KU2 := Lib.hid (KU3.out.trans hk)
      clear hk
      clear u10 u11 u12 u20 u21 u22 u30 u31 u32
      have u10 : U2.cell? ⟨b1, 0, none⟩ = some (.string pra) := (HB1.out.kp KU2.out).cell 0
      have u11 : U2.cell? ⟨b1, 1, none⟩ = some (.string a) := (HB1.out.kp KU2.out).cell 1
      have u12 : U2.cell? ⟨b1, 2, none⟩ = some (.int .i64 pa) := (HB1.out.kp KU2.out).cell 2
      have u20 : U2.cell? ⟨b2, 0, none⟩ = some (.string prb) := (HB2.out.kp KU2.out).cell 0
      have u21 : U2.cell? ⟨b2, 1, none⟩ = some (.string b) := (HB2.out.kp KU2.out).cell 1
      have u22 : U2.cell? ⟨b2, 2, none⟩ = some (.int .i64 pb) := (HB2.out.kp KU2.out).cell 2
      have u30 : U2.cell? ⟨b3, 0, none⟩ = some (.string prc) := (HB3.out.kp KU2.out).cell 0
      have u31 : U2.cell? ⟨b3, 1, none⟩ = some (.string c) := (HB3.out.kp KU2.out).cell 1
      have u32 : U2.cell? ⟨b3, 2, none⟩ = some (.int .i64 pc) := (HB3.out.kp KU2.out).cell 2
      go_wp2_with fail
      generalize hV : U2.alloc (.cells #[.string pr, .string b, .int .i64 pb] 27) = V
      obtain ⟨t9, ht9⟩ : ∃ t9, t9 = U2.heap.size := ⟨_, rfl⟩
      have HB9 := Lib.hid (show Blk V t9 27 #[.string pr, .string b, .int .i64 pb] from by rw [ht9, ← hV]; exact Blk.new U2 _ _)
      have KV := Lib.hid (show Kp X V from KU2.out.trans (hV ▸ (Kp.refl U2).alloc _))
      rw [← ht9]
      clear hV ht9 u10 u11 u12 u20 u21 u22 u30 u31 u32
      have q0 : V.cell? ⟨b1, 0, none⟩ = some (.string pra) := (HB1.out.kp KV.out).cell 0
      have q1 : V.cell? ⟨b1, 1, none⟩ = some (.string a) := (HB1.out.kp KV.out).cell 1
      have q2 : V.cell? ⟨b1, 2, none⟩ = some (.int .i64 pa) := (HB1.out.kp KV.out).cell 2
      have q3 : V.cell? ⟨b2, 0, none⟩ = some (.string prb) := (HB2.out.kp KV.out).cell 0
      have q4 : V.cell? ⟨b2, 1, none⟩ = some (.string b) := (HB2.out.kp KV.out).cell 1
      have q5 : V.cell? ⟨b2, 2, none⟩ = some (.int .i64 pb) := (HB2.out.kp KV.out).cell 2
      have q6 : V.cell? ⟨t9, 0, none⟩ = some (.string pr) := HB9.out.cell 0
      have q7 : V.cell? ⟨t9, 1, none⟩ = some (.string b) := HB9.out.cell 1
      have q8 : V.cell? ⟨t9, 2, none⟩ = some (.int .i64 pb) := HB9.out.cell 2
      refine wp_region_noPanic ?_
      refine wp_region_held_drew (S := fun w' => w'.cell? ⟨b1, 0, none⟩ = some (.string pra) ∧ w'.cell? ⟨b1, 1, none⟩ = some (.string a) ∧ w'.cell? ⟨b1, 2, none⟩ = some (.int .i64 pa) ∧ w'.cell? ⟨b2, 0, none⟩ = some (.string prb) ∧ w'.cell? ⟨b2, 1, none⟩ = some (.string b) ∧ w'.cell? ⟨b2, 2, none⟩ = some (.int .i64 pb) ∧ w'.cell? ⟨t9, 0, none⟩ = some (.string pr) ∧ w'.cell? ⟨t9, 1, none⟩ = some (.string b) ∧ w'.cell? ⟨t9, 2, none⟩ = some (.int .i64 pb)) (by kernel_rfl) ⟨q0, q1, q2, q3, q4, q5, q6, q7, q8⟩ (fun hHeld => ?_)
      refine wpAnyH_take (i := 0) (v := ?_) (by simp only [List.getElem?_toArray, List.getElem?_cons_zero] <;> rfl) (by kernel_rfl) (by kernel_rfl) (by kernel_rfl) (fun _ _ _ h => h) (.inl ⟨by rfl, ?_⟩) (by assumption) ?_
      rotate_left 1
      · intro wz hSw; (try dsimp only at hSw); go_simp; (try with_reducible rfl)
      try simp only [Act.put, List.setIfInBounds_toArray, List.set_cons_zero, List.set_cons_succ]
      refine wpAnyH_take (i := 1) (v := ?_) (by simp only [List.getElem?_toArray, List.getElem?_cons_zero, List.getElem?_cons_succ] <;> rfl) (by kernel_rfl) (by kernel_rfl) (by kernel_rfl) (fun _ _ _ h => h) (.inl ⟨by rfl, ?_⟩) (by assumption) ?_
      rotate_left 1
      · intro wz hSw; (try dsimp only at hSw); go_simp; (try with_reducible rfl)
      try simp only [Act.put, List.setIfInBounds_toArray, List.set_cons_zero, List.set_cons_succ]
      refine wpAnyH_take (i := 3) (v := ?_) (by simp only [List.getElem?_toArray, List.getElem?_cons_zero, List.getElem?_cons_succ] <;> rfl) (by kernel_rfl) (by kernel_rfl) (by kernel_rfl) (fun _ _ _ h => h) (.inl ⟨by rfl, ?_⟩) (by assumption) ?_
      rotate_left 1
      · intro wz hSw; (try dsimp only at hSw); go_simp; (try with_reducible rfl)
      try simp only [Act.put, List.setIfInBounds_toArray, List.set_cons_zero, List.set_cons_succ]
      refine wpAnyH_take (i := 4) (v := ?_) (by simp only [List.getElem?_toArray, List.getElem?_cons_zero, List.getElem?_cons_succ] <;> rfl) (by kernel_rfl) (by kernel_rfl) (by kernel_rfl) (fun _ _ _ h => h) (.inl ⟨by rfl, ?_⟩) (by assumption) ?_
      rotate_left 1
      · intro wz hSw; (try dsimp only at hSw); go_simp; (try with_reducible rfl)
      try simp only [Act.put, List.setIfInBounds_toArray, List.set_cons_zero, List.set_cons_succ]
      refine wpAnyH_ready (rs := [2]) (by kernel_rfl) (by simp) ?_
      refine AllReadyH.cons (by simp only [List.getElem?_toArray, List.getElem?_cons_zero, List.getElem?_cons_succ] <;> rfl) (fun K hK => ?_) AllReadyH.nil
      go_simp
      refine (SAB.out _ _).mono ?_
      rintro e n1 ⟨rfl, hk⟩
      have Qn1 := Lib.hid (show Kp V n1 from (by first | exact hk | exact (Kp.refl V).drew.trans hk))
      have r0 := below_some Qn1.out q0
      have r1 := below_some Qn1.out q1
      have r2 := below_some Qn1.out q2
      have r3 := below_some Qn1.out q3
      have r4 := below_some Qn1.out q4
      have r5 := below_some Qn1.out q5
      have r6 := below_some Qn1.out q6
      have r7 := below_some Qn1.out q7
      have r8 := below_some Qn1.out q8
      clear hk
      go_wp2_with fail
      refine hK.out _ _ ⟨r0, r1, r2, r3, r4, r5, r6, r7, r8⟩ (fun hHeld => ?_)
      clear hK K
      try simp only [Act.put, List.setIfInBounds_toArray, List.set_cons_zero, List.set_cons_succ]
      refine wpAnyH_ready (rs := [5]) (by kernel_rfl) (by simp) ?_
      refine AllReadyH.cons (by simp only [List.getElem?_toArray, List.getElem?_cons_zero, List.getElem?_cons_succ] <;> rfl) (fun K hK => ?_) AllReadyH.nil
      go_simp
      refine (SAB.out _ _).mono ?_
      rintro e n2 ⟨rfl, hk⟩
      have Qn2 := Lib.hid (show Kp n1 n2 from (by first | exact hk | exact (Kp.refl n1).drew.trans hk))
      have s0 := below_some Qn2.out r0
      have s1 := below_some Qn2.out r1
      have s2 := below_some Qn2.out r2
      have s3 := below_some Qn2.out r3
      have s4 := below_some Qn2.out r4
      have s5 := below_some Qn2.out r5
      have s6 := below_some Qn2.out r6
      have s7 := below_some Qn2.out r7
      have s8 := below_some Qn2.out r8
      clear hk
      go_wp2_with fail
      refine hK.out _ _ ⟨s0, s1, s2, s3, s4, s5, s6, s7, s8⟩ (fun hHeld => ?_)
      clear hK K
      try simp only [Act.put, List.setIfInBounds_toArray, List.set_cons_zero, List.set_cons_succ]
      refine wpAnyH_take (i := 6) (v := ?_) (by simp only [List.getElem?_toArray, List.getElem?_cons_zero, List.getElem?_cons_succ] <;> rfl) (by kernel_rfl) (by kernel_rfl) (by kernel_rfl) (fun _ _ _ h => h) (.inl ⟨by rfl, ?_⟩) (by assumption) ?_
      rotate_left 1
      · intro wz hSw; (try dsimp only at hSw); go_simp; (try with_reducible rfl)
      try simp only [Act.put, List.setIfInBounds_toArray, List.set_cons_zero, List.set_cons_succ]
      refine wpAnyH_take (i := 7) (v := ?_) (by simp only [List.getElem?_toArray, List.getElem?_cons_zero, List.getElem?_cons_succ] <;> rfl) (by kernel_rfl) (by kernel_rfl) (by kernel_rfl) (fun _ _ _ h => h) (.inl ⟨by rfl, ?_⟩) (by assumption) ?_
      rotate_left 1
      · intro wz hSw; (try dsimp only at hSw); go_simp; (try with_reducible rfl)
      try simp only [Act.put, List.setIfInBounds_toArray, List.set_cons_zero, List.set_cons_succ]
      refine wpAnyH_ready (rs := [8]) (by kernel_rfl) (by simp) ?_
      refine AllReadyH.cons (by simp only [List.getElem?_toArray, List.getElem?_cons_zero, List.getElem?_cons_succ] <;> rfl) (fun K hK => ?_) AllReadyH.nil
      go_simp
      refine (configAwake_any _).mono ?_
      rintro e n3 ⟨rfl, hk⟩
      have Qn3 := Lib.hid (show Kp n2 n3 from (by first | exact hk | exact (Kp.refl n2).drew.trans hk))
      have t0 := below_some Qn3.out s0
      have t1 := below_some Qn3.out s1
      have t2 := below_some Qn3.out s2
      have t3 := below_some Qn3.out s3
      have t4 := below_some Qn3.out s4
      have t5 := below_some Qn3.out s5
      have t6 := below_some Qn3.out s6
      have t7 := below_some Qn3.out s7
      have t8 := below_some Qn3.out s8
      clear hk
      go_wp2_with fail
      refine hK.out _ _ ⟨t0, t1, t2, t3, t4, t5, t6, t7, t8⟩ (fun hHeld => ?_)
      clear hK K
      try simp only [Act.put, List.setIfInBounds_toArray, List.set_cons_zero, List.set_cons_succ]
      refine wpAnyH_take (i := 9) (v := ?_) (by simp only [List.getElem?_toArray, List.getElem?_cons_zero, List.getElem?_cons_succ] <;> rfl) (by kernel_rfl) (by kernel_rfl) (by kernel_rfl) (fun _ _ _ h => h) (.inl ⟨by rfl, ?_⟩) (by assumption) ?_
      rotate_left 1
      · intro wz hSw; (try dsimp only at hSw); go_simp; (try with_reducible rfl)
      try simp only [Act.put, List.setIfInBounds_toArray, List.set_cons_zero, List.set_cons_succ]
      refine wpAnyH_take (i := 10) (v := ?_) (by simp only [List.getElem?_toArray, List.getElem?_cons_zero, List.getElem?_cons_succ] <;> rfl) (by kernel_rfl) (by kernel_rfl) (by kernel_rfl) (fun _ _ _ h => h) (.inl ⟨by rfl, ?_⟩) (by assumption) ?_
      rotate_left 1
      · intro wz hSw; (try dsimp only at hSw); go_simp; (try with_reducible rfl)
      try simp only [Act.put, List.setIfInBounds_toArray, List.set_cons_zero, List.set_cons_succ]
      refine wpAnyH_done (by kernel_rfl) ?_ _
      refine NoPanic.normal ?_
      go_wp2_with fail
      go_ret
      exact ⟨rfl, HKX.out.trans (KV.out.trans (Qn1.out.trans (Qn2.out.trans Qn3.out)))⟩
section
open Go.Joins Go.ChangeShapes Go.WideShapes Go.Deep
variable {H : Type} {enc : TypeId × Value → H} {w : World} {base : Nat} {held : Bool}
set_option maxRecDepth 100000 in
/-- A server by value, opened. -/
theorem server_open {r : Reach} {b0 : Nat} {v : Value} {d : DataW H} {p : List MemPlace} (hv : Value.okWide Tryd.prog w r b0 27 v) (h : DataW.Trod enc Tryd.prog w base (fun _ => true) held 27 v d p) :
    ∃ (pr a : ByteArray) (n : Int), v = .agg #[.string pr, .string a, .int .i64 n] ∧ pr.size ≤ maxLen ∧ a.size ≤ maxLen ∧ -9223372036854775808 ≤ n ∧ n ≤ 9223372036854775807 := by
  obtain ⟨v0, v1, v2, y0, y1, y2, n, rfl, _, _, t0, t1, t2⟩ := open_agg3 Tryd.underlying27 (by kernel_rfl) (by kernel_rfl) hv h
  obtain ⟨s0, h0, _, z0⟩ := DataW.trod_string Tryd.underlying9 t0
  obtain ⟨s1, h1, _, z1⟩ := DataW.trod_string Tryd.underlying9 t1
  obtain ⟨k, h2, _, wf⟩ := DataW.trod_int Tryd.underlying3 t2
  obtain rfl : v0 = .string s0 := by simpa using h0
  obtain rfl : v1 = .string s1 := by simpa using h1
  obtain rfl : v2 = .int .i64 k := by simpa using h2
  have e1 : IntKind.i64.min = -9223372036854775808 := rfl
  have e2 : IntKind.i64.max = 9223372036854775807 := rfl
  simp [Lit.wf, e1, e2] at wf
  exact ⟨s0, s1, k, rfl, z0, z1, by omega, by omega⟩
end
end Go.Proofs.YtmojecgmneodlaaDoor
