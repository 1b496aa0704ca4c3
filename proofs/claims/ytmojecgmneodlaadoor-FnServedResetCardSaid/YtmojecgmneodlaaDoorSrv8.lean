/-
  slices.Equal of two rows of servers, of two rows of bools: rows that hold the same are equal.
-/
import Derived.Test.YtmojecgmneodlaaDoorSrv7
namespace Go.Proofs.YtmojecgmneodlaaDoor
open Go Go.RowKit

/-- Servers in a row. -/
def SrvRow (w : World) (a : Option Addr) (n : Nat) (R : Nat → Srv) : Prop := ∀ r, r < n → ∃ b o, a = some ⟨b, o, none⟩ ∧ w.cell? ⟨b, o + r * 3, none⟩ = some (.string (R r).pr) ∧ w.cell? ⟨b, o + r * 3 + 1, none⟩ = some (.string (R r).ad) ∧ w.cell? ⟨b, o + r * 3 + 2, none⟩ = some (.int .i64 (R r).po)
theorem SrvRow.kp {w w' : World} {a : Option Addr} {n : Nat} {R : Nat → Srv} (h : SrvRow w a n R) (hk : Kp w w') : SrvRow w' a n R := fun r hr => by
  obtain ⟨b, o, h0, h1, h2, h3⟩ := h r hr
  exact ⟨b, o, h0, below_some hk h1, below_some hk h2, below_some hk h3⟩
theorem SrvRow.of_own {w : World} {base n : Nat} {q : Option Addr} {c : Nat} {e : TypeId} {l : List Srv} (h : w.ownsRow base e 3 (.slice q n c) n (allC l)) (hn : l.length = n) : SrvRow w q n (fun r => l.getD r zS) := fun r hr => by
  obtain ⟨g, cap, e, _, _, _, _, hc⟩ := own_form h (show 0 < n by omega)
  injection e with e1
  subst hn
  refine ⟨g, 0, e1, ?_, ?_, ?_⟩
  · have := hc _ _ ((allC_at l r 0 hr (by decide)).trans rfl)
    rw [Nat.zero_add]; exact this
  · have := hc _ _ ((allC_at l r 1 hr (by decide)).trans rfl)
    rw [Nat.zero_add]; exact this
  · have := hc _ _ ((allC_at l r 2 hr (by decide)).trans rfl)
    rw [Nat.zero_add]; exact this
set_option maxRecDepth 100000 in
set_option maxHeartbeats 2000000 in
theorem srvEq_any (a1 a2 : Option Addr) (n c1 c2 : Nat) (R : Nat → Srv) (w : World) (h1 : SrvRow w a1 n R) (h2 : SrvRow w a2 n R) (hn : n ≤ 1000) :
    Calls Tryd.prog 14 #[.slice a1 n c1, .slice a2 n c2] w fun e w' => e = .returned (.bool true) ∧ Kp w w' := by
  have i0 : (n : Int) ≤ 1000 := by omega
  have H1 := Lib.hid h1
  have H2 := Lib.hid h2
  clear h1 h2 hn
  go_enter Tryd.func14, Tryd.ntmps14
  go_wp2_with fail
  go_loopg [13] n (fun G st wr => ∃ k : Nat, G = n - k ∧ k ≤ n ∧ st = .int .i64 (k : Int) ∧ Kp w wr)
  case atStart => exact ⟨0, rfl, Nat.zero_le _, rfl, Kp.refl w⟩
  case round =>
    obtain ⟨k, rfl, hk, rfl, hkp⟩ := hrel
    have HK := Lib.hid hkp
    have HKN := Lib.hid hk
    have j0 : (0 : Int) ≤ (k : Int) := by omega
    have j1 : (k : Int) ≤ (n : Int) := by omega
    clear hkp hk
    by_cases hlt : k < n
    · have j2 : (k : Int) < (n : Int) := by omega
      obtain ⟨b1, o1, rfl, x0, x1, x2⟩ := H1.out.kp HK.out k hlt
      obtain ⟨b2, o2, rfl, y0, y1, y2⟩ := H2.out.kp HK.out k hlt
      have HLT := Lib.hid hlt
      generalize R k = s at x0 x1 x2 y0 y1 y2
      obtain ⟨pr, ad, po⟩ := s
      dsimp only at x0 x1 x2 y0 y1 y2
      clear hlt
      go_wp2_with fail
      go_region_held3 (fun w' => w'.cell? ⟨b1, o1 + k * 3, none⟩ = some (.string pr) ∧ w'.cell? ⟨b1, o1 + k * 3 + 1, none⟩ = some (.string ad) ∧ w'.cell? ⟨b1, o1 + k * 3 + 2, none⟩ = some (.int .i64 po) ∧ w'.cell? ⟨b2, o2 + k * 3, none⟩ = some (.string pr) ∧ w'.cell? ⟨b2, o2 + k * 3 + 1, none⟩ = some (.string ad) ∧ w'.cell? ⟨b2, o2 + k * 3 + 2, none⟩ = some (.int .i64 po)) (first | (refine ⟨?_, ?_, ?_, ?_, ?_, ?_⟩ <;> with_reducible assumption) | go_keep) (first | fail)
      go_wp2_with fail
      go_roundg (n - (k + 1))
      case measure => have := HLT.out; omega
      case rel => exact ⟨k + 1, rfl, HLT.out, by go_num, HK.out.drew⟩
    · obtain rfl : k = n := by have := HKN.out; omega
      clear hlt
      go_wp2_with fail
      go_ret
      exact ⟨rfl, HK.out⟩
/-- Bools in a row. -/
def BoolRow (w : World) (a : Option Addr) (n : Nat) (R : Nat → Bool) : Prop := ∀ r, r < n → ∃ b o, a = some ⟨b, o, none⟩ ∧ w.cell? ⟨b, o + r, none⟩ = some (.bool (R r))
theorem BoolRow.kp {w w' : World} {a : Option Addr} {n : Nat} {R : Nat → Bool} (h : BoolRow w a n R) (hk : Kp w w') : BoolRow w' a n R := fun r hr => by
  obtain ⟨b, o, h0, h1⟩ := h r hr
  exact ⟨b, o, h0, below_some hk h1⟩
set_option maxRecDepth 100000 in
set_option maxHeartbeats 2000000 in
theorem boolEq_any (a1 a2 : Option Addr) (n c1 c2 : Nat) (R : Nat → Bool) (w : World) (h1 : BoolRow w a1 n R) (h2 : BoolRow w a2 n R) (hn : n ≤ 1000) :
    Calls Tryd.prog 20 #[.slice a1 n c1, .slice a2 n c2] w fun e w' => e = .returned (.bool true) ∧ Kp w w' := by
  have i0 : (n : Int) ≤ 1000 := by omega
  have H1 := Lib.hid h1
  have H2 := Lib.hid h2
  clear h1 h2 hn
  go_enter Tryd.func20, Tryd.ntmps20
  go_wp2_with fail
  go_loopg [13] n (fun G st wr => ∃ k : Nat, G = n - k ∧ k ≤ n ∧ st = .int .i64 (k : Int) ∧ Kp w wr)
  case atStart => exact ⟨0, rfl, Nat.zero_le _, rfl, Kp.refl w⟩
  case round =>
    obtain ⟨k, rfl, hk, rfl, hkp⟩ := hrel
    have HK := Lib.hid hkp
    have HKN := Lib.hid hk
    have j0 : (0 : Int) ≤ (k : Int) := by omega
    have j1 : (k : Int) ≤ (n : Int) := by omega
    clear hkp hk
    by_cases hlt : k < n
    · have j2 : (k : Int) < (n : Int) := by omega
      obtain ⟨b1, o1, rfl, x0⟩ := H1.out.kp HK.out k hlt
      obtain ⟨b2, o2, rfl, y0⟩ := H2.out.kp HK.out k hlt
      have HLT := Lib.hid hlt
      generalize R k = s at x0 y0
      clear hlt
      cases s
      · go_wp2_with fail
        go_region_held3 (fun w' => w'.cell? ⟨b1, o1 + k, none⟩ = some (.bool false) ∧ w'.cell? ⟨b2, o2 + k, none⟩ = some (.bool false)) (first | (refine ⟨?_, ?_⟩ <;> with_reducible assumption) | go_keep) (first | fail)
        go_wp2_with fail
        go_roundg (n - (k + 1))
        case measure => have := HLT.out; omega
        case rel => exact ⟨k + 1, rfl, HLT.out, by go_num, HK.out.drew⟩
      · go_wp2_with fail
        go_region_held3 (fun w' => w'.cell? ⟨b1, o1 + k, none⟩ = some (.bool true) ∧ w'.cell? ⟨b2, o2 + k, none⟩ = some (.bool true)) (first | (refine ⟨?_, ?_⟩ <;> with_reducible assumption) | go_keep) (first | fail)
        go_wp2_with fail
        go_roundg (n - (k + 1))
        case measure => have := HLT.out; omega
        case rel => exact ⟨k + 1, rfl, HLT.out, by go_num, HK.out.drew⟩
    · obtain rfl : k = n := by have := HKN.out; omega
      clear hlt
      go_wp2_with fail
      go_ret
      exact ⟨rfl, HK.out⟩
theorem boolRow_new (W : World) : BoolRow (W.alloc (.cells #[.bool false, .bool true] 4)) (some ⟨W.heap.size, 0, none⟩) 2 (fun r => decide (r = 1)) := fun r hr => by
  have h := Blk.new W 4 #[.bool false, .bool true]
  rcases (show r = 0 ∨ r = 1 by omega) with rfl | rfl
  · exact ⟨_, 0, rfl, h.cell 0⟩
  · exact ⟨_, 0, rfl, h.cell 1⟩
def awK (r : Nat) : Int := if r = 0 then 0 else 1
def awS (r : Nat) : Srv := if r = 0 then ⟨⟨#[]⟩, ⟨#[97]⟩, 1⟩ else zS
theorem aw_st : stAt awK awS 2 = ⟨[⟨⟨#[]⟩, ⟨#[97]⟩, 1⟩], 0⟩ := rfl
theorem aw_out : flatV (outC awK awS) 2 = [.string ⟨#[]⟩, .string ⟨#[]⟩, .int .i64 0, .string ⟨#[]⟩, .string ⟨#[97]⟩, .int .i64 1] := rfl
theorem aw_is : flatV (isC awK awS) 2 = [.bool false, .bool true] := rfl
set_option maxRecDepth 100000 in
set_option maxHeartbeats 4000000 in
theorem servedAwake_any (w : World) : Calls Tryd.prog 12 #[] w fun e w' => e = .returned (.bool true) ∧ Kp w w' := by
  go_enter Tryd.func12, Tryd.ntmps12
  go_wp2_with fail
  generalize hX : (w.alloc (.cells #[.string ⟨#[]⟩, .string ⟨#[97]⟩, .int .i64 1] 27)).alloc (.cells #[.int .i64 0, .string ⟨#[]⟩, .string ⟨#[97]⟩, .int .i64 1, .int .i64 1, .string ⟨#[]⟩, .string ⟨#[]⟩, .int .i64 0] 29) = X
  obtain ⟨xb, hxb⟩ : ∃ xb, xb = w.heap.size := ⟨_, rfl⟩
  have hB1 : Blk X xb 27 #[.string ⟨#[]⟩, .string ⟨#[97]⟩, .int .i64 1] := by rw [hxb, ← hX]; exact (Blk.new w _ _).alloc _
  have hB2 : Blk X (xb + 1) 29 #[.int .i64 0, .string ⟨#[]⟩, .string ⟨#[97]⟩, .int .i64 1, .int .i64 1, .string ⟨#[]⟩, .string ⟨#[]⟩, .int .i64 0] := by rw [hxb, ← hX]; exact Blk.new2 w _ _ _
  have HK0 := Lib.hid (show Kp w X from by rw [← hX]; exact ((Kp.refl w).alloc _).alloc _)
  have C := Lib.hid (served_any (some ⟨xb + 1, 0, none⟩) 2 2 awK awS X (fun r hr => by
    rcases (show r = 0 ∨ r = 1 by omega) with rfl | rfl
    · exact ⟨xb + 1, rfl, hB2.cell 0, hB2.cell 1, hB2.cell 2, hB2.cell 3⟩
    · exact ⟨xb + 1, rfl, hB2.cell 4, hB2.cell 5, hB2.cell 6, hB2.cell 7⟩) (by omega) (fun r hr => by
    rcases (show r = 0 ∨ r = 1 by omega) with rfl | rfl <;> rfl))
  have HB1 := Lib.hid hB1
  rw [← hxb]
  clear hX hxb hB1 hB2
  refine C.out.mono ?_
  rintro e w1 ⟨vo, vi, va, rfl, hvo, hvi, hva, hk1⟩
  rw [aw_st] at hva
  rw [aw_out] at hvo
  rw [aw_is] at hvi
  obtain ⟨go, co, rfl, ho1, _, _, _, hco⟩ := own_form hvo (by decide)
  obtain ⟨gi, ci, rfl, hi1, _, _, _, hci⟩ := own_form hvi (by decide)
  obtain ⟨ga, ca, rfl, ha1, _, _, _, hca⟩ := own_form hva (by decide)
  have y3 : w1.cell? ⟨go, 3, none⟩ = some (.string ⟨#[]⟩) := hco 3 _ rfl
  have y4 : w1.cell? ⟨go, 4, none⟩ = some (.string ⟨#[97]⟩) := hco 4 _ rfl
  have y5 : w1.cell? ⟨go, 5, none⟩ = some (.int .i64 1) := hco 5 _ rfl
  have z0 : w1.cell? ⟨ga, 0, none⟩ = some (.string ⟨#[]⟩) := hca 0 _ rfl
  have z1 : w1.cell? ⟨ga, 1, none⟩ = some (.string ⟨#[97]⟩) := hca 1 _ rfl
  have z2 : w1.cell? ⟨ga, 2, none⟩ = some (.int .i64 1) := hca 2 _ rfl
  have x0 : w1.cell? ⟨xb, 0, none⟩ = some (.string ⟨#[]⟩) := below_some hk1 (HB1.out.cell 0)
  have x1 : w1.cell? ⟨xb, 1, none⟩ = some (.string ⟨#[97]⟩) := below_some hk1 (HB1.out.cell 1)
  have x2 : w1.cell? ⟨xb, 2, none⟩ = some (.int .i64 1) := below_some hk1 (HB1.out.cell 2)
  have HBI := Lib.hid (show BoolRow w1 (some ⟨gi, 0, none⟩) 2 (fun r => decide (r = 1)) from fun r hr => by
    rcases (show r = 0 ∨ r = 1 by omega) with rfl | rfl
    · exact ⟨gi, 0, rfl, hci 0 _ rfl⟩
    · exact ⟨gi, 0, rfl, hci 1 _ rfl⟩)
  have HK1 := Lib.hid (HK0.out.trans hk1)
  have S1 := Lib.hid (show ∀ wz, Kp w1 wz → wz.cell? ⟨go, 3, none⟩ = some (.string ⟨#[]⟩) ∧ wz.cell? ⟨go, 4, none⟩ = some (.string ⟨#[97]⟩) ∧ wz.cell? ⟨go, 5, none⟩ = some (.int .i64 1) ∧ wz.cell? ⟨ga, 0, none⟩ = some (.string ⟨#[]⟩) ∧ wz.cell? ⟨ga, 1, none⟩ = some (.string ⟨#[97]⟩) ∧ wz.cell? ⟨ga, 2, none⟩ = some (.int .i64 1) ∧ wz.cell? ⟨xb, 0, none⟩ = some (.string ⟨#[]⟩) ∧ wz.cell? ⟨xb, 1, none⟩ = some (.string ⟨#[97]⟩) ∧ wz.cell? ⟨xb, 2, none⟩ = some (.int .i64 1) from fun wz hk => ⟨below_some hk y3, below_some hk y4, below_some hk y5, below_some hk z0, below_some hk z1, below_some hk z2, below_some hk x0, below_some hk x1, below_some hk x2⟩)
  clear hvo hvi hva hk1 hco hci hca C ho1 hi1 ha1
  go_wp2_with fail
  have HKR := Lib.hid (Kp.refl w1)
  go_region_held3 (fun wz => wz.cell? ⟨go, 3, none⟩ = some (.string ⟨#[]⟩) ∧ wz.cell? ⟨go, 4, none⟩ = some (.string ⟨#[97]⟩) ∧ wz.cell? ⟨go, 5, none⟩ = some (.int .i64 1) ∧ wz.cell? ⟨ga, 0, none⟩ = some (.string ⟨#[]⟩) ∧ wz.cell? ⟨ga, 1, none⟩ = some (.string ⟨#[97]⟩) ∧ wz.cell? ⟨ga, 2, none⟩ = some (.int .i64 1) ∧ wz.cell? ⟨xb, 0, none⟩ = some (.string ⟨#[]⟩) ∧ wz.cell? ⟨xb, 1, none⟩ = some (.string ⟨#[97]⟩) ∧ wz.cell? ⟨xb, 2, none⟩ = some (.int .i64 1))
    (first | with_reducible exact S1.out _ HKR.out | with_reducible exact S1.out _ (HKR.out.alloc _) | with_reducible exact S1.out _ HKR.out.drew | with_reducible exact S1.out _ (HKR.out.drew.alloc _) | with_reducible exact S1.out _ (HKR.out.alloc _).drew | with_reducible exact S1.out _ HKN.out | go_keep)
    (first | (go_at_call 20; refine (boolEq_any _ _ 2 _ _ (fun r => decide (r = 1)) _ (HBI.out.kp (by first | exact (HKR.out.alloc _).drew | exact HKR.out.drew.alloc _ | exact HKR.out.alloc _)) (by first | exact boolRow_new w1 | exact boolRow_new w1.drew) (by decide)).mono ?_; rintro e w3 ⟨rfl, hk3⟩; have HKN := Lib.hid (show Kp w1 w3 from by first | exact (HKR.out.alloc _).drew.trans hk3 | exact (HKR.out.drew.alloc _).trans hk3 | exact (HKR.out.alloc _).trans hk3); clear hk3))
  go_wp2_with fail
  go_ret
  exact ⟨rfl, HK1.out.trans HKN.out⟩
end Go.Proofs.YtmojecgmneodlaaDoor
