/-
  sessionGot: what reading parts gives.
-/
import Derived.Test.YtgjfejalinkohaaDoorSes23
namespace Go.Proofs.YtgjfejalinkohaaDoor
open Go Go.RowKit

/-- What reading a part gives: where it lies, and what it is. -/
def wantP (s : LPart) : GPlace := if s.kd % 6 = 2 then ⟨none, 0, 0, none, 0, 0⟩ else if s.kd % 6 = 3 then ⟨none, 0, 0, none, 0, 0⟩ else if s.kd % 6 = 4 then ⟨s.q1, s.k1, s.c1, s.q2, s.k2, s.c2⟩ else ⟨s.q1, s.k1, s.c1, none, 0, 0⟩
def wantV (s : LPart) : GRec := if s.kd % 6 = 2 then ⟨[], [], w64 (partNum s.kd s.sz s.num : Int), noText⟩ else if s.kd % 6 = 3 then ⟨[], [], w64 (partNum s.kd s.sz s.num : Int), noText⟩ else if s.kd % 6 = 4 then ⟨s.ys, s.zs, s.flag, noText⟩ else ⟨s.ys, [], 0, noText⟩
set_option maxRecDepth 100000 in
theorem one_got (B : Nat) (W : World) (k : Nat) (v : Value) (xs : List Value) (hown : W.ownsRow B 39 5 v k xs) (hB : B ≤ W.heap.size) (pl : GPlace) (u : GRec) (hk : k ≤ 1000) :
    ∃ v' w5, (Builtin.append_ #[34, 34] 34 #[v, .slice (some ⟨W.heap.size, 0, none⟩) 1 1]).run Tryd.prog (W.alloc (.cells (gotCells pl u).toArray 39)) = .ok v' w5 ∧
      w5.ownsRow B 39 5 v' (k + 1) (xs ++ gotCells pl u) ∧ (∀ U, Kp U W → U.heap.size ≤ B → Kp U w5) := by
  generalize hW : W.alloc (.cells (gotCells pl u).toArray 39) = W4
  have hkW : Kp W W4 := hW ▸ (Kp.refl W).alloc _
  have hs : W4.heap.size = W.heap.size + 1 := by rw [← hW]; simp
  have hcW := own_below hown hkW
  obtain ⟨v', w5, r1, r2, r5, r6⟩ := app_got W4 B v k xs hcW W.heap.size pl u (hW ▸ Blk.new W _ _) (by omega) (by omega)
  exact ⟨v', w5, r1, r2, fun U hU hUB => (hU.trans hkW).grown r5 (fun b hb => by have := (own_lt' hown b hb).1; omega)⟩

set_option maxRecDepth 100000 in
set_option maxHeartbeats 16000000 in
theorem sessionGot_any (a : Option Addr) (n c : Nat) (P : Nat → LPart) (w : World) (h : PartsIn w a n P) (hn : n ≤ 20) :
    Calls Tryd.prog 28 #[.slice a n c] w fun e w' => ∃ v, e = .returned v ∧ w'.ownsRow w.heap.size 39 5 v n (gotRow (fun r => wantP (P r)) (fun r => wantV (P r)) n) ∧ Kp w w' := by
  have i0 : (0 : Int) ≤ (n : Int) := by omega
  have i1 : (n : Int) ≤ 20 := by omega
  have HP := Lib.hid h
  clear h hn
  go_enter Tryd.func28, Tryd.ntmps28
  go_wp2_with fail
  go_loopg [3, 11] n (fun G v st wr => ∃ (k : Nat) (v0 : Value), G = n - k ∧ k ≤ n ∧ st = .int .i64 (k : Int) ∧ v0 = v ∧ wr.ownsRow w.heap.size 39 5 v0 k (gotRow (fun r => wantP (P r)) (fun r => wantV (P r)) k) ∧ Kp w wr)
  case atStart => exact ⟨0, _, rfl, Nat.zero_le _, rfl, rfl, World.ownsRow_nil _ _ _ _, Kp.refl w⟩
  case round =>
    obtain ⟨k, v, rfl, hk, rfl, rfl, hcl, hkp⟩ := hrel
    have HCL := Lib.hid hcl
    have HK := Lib.hid hkp
    have HKN := Lib.hid hk
    have j0 : (0 : Int) ≤ (k : Int) := by omega
    have j1 : (k : Int) ≤ (n : Int) := by omega
    clear hkp hk hcl
    by_cases hlt : k < n
    · have j2 : (k : Int) < (n : Int) := by omega
      obtain ⟨b, o, rfl, hc, _, _, hok⟩ := HP.out.kp HK.out k hlt
      have HLT := Lib.hid hlt
      have HNX := Lib.hid (show ∀ (v' : Value) (w5 : World), w5.ownsRow w.heap.size 39 5 v' (k + 1) (gotRow (fun r => wantP (P r)) (fun r => wantV (P r)) k ++ gotCells (wantP (P k)) (wantV (P k))) → w5.ownsRow w.heap.size 39 5 v' (k + 1) (gotRow (fun r => wantP (P r)) (fun r => wantV (P r)) (k + 1)) from fun _ _ hv => hv)
      clear hlt
      generalize P k = s at hc hok HNX
      have a0 : (0 : Int) ≤ (s.kd : Int) := by omega
      have a1 : (s.kd : Int) < 256 := by have := hok.kd; omega
      have a2 : (0 : Int) ≤ (s.flag : Int) := by omega
      have a3 : (s.flag : Int) < 256 := by have := hok.flag; omega
      have a4 : (0 : Int) ≤ (s.k1 : Int) := by omega
      have a5 : (s.k1 : Int) ≤ 9223372036854775807 := by have := hok.n1; have := hok.m1; unfold maxLen at this; omega
      have d0 : wr.cell? ⟨b, o + k * 8, none⟩ = some (.int .u8 (s.kd : Int)) := hc 0 _ rfl
      have d1 : wr.cell? ⟨b, o + k * 8 + 1, none⟩ = some (.int .u8 (s.sz : Int)) := hc 1 _ rfl
      have d2 : wr.cell? ⟨b, o + k * 8 + 2, none⟩ = some (.int .u64 (s.num : Int)) := hc 2 _ rfl
      have d3 : wr.cell? ⟨b, o + k * 8 + 3, none⟩ = some (.bool s.big) := hc 3 _ rfl
      have d4 : wr.cell? ⟨b, o + k * 8 + 4, none⟩ = some (.bool s.comp) := hc 4 _ rfl
      have d5 : wr.cell? ⟨b, o + k * 8 + 5, none⟩ = some (.int .u8 (s.flag : Int)) := hc 5 _ rfl
      have d6 : wr.cell? ⟨b, o + k * 8 + 6, none⟩ = some (.slice s.q1 s.k1 s.c1) := hc 6 _ rfl
      have d7 : wr.cell? ⟨b, o + k * 8 + 7, none⟩ = some (.slice s.q2 s.k2 s.c2) := hc 7 _ rfl
      obtain ⟨sz, hsz⟩ : ∃ sz, sz = partSize s.sz := ⟨_, rfl⟩
      obtain ⟨pn, hpn⟩ : ∃ pn, pn = partNum s.kd s.sz s.num := ⟨_, rfl⟩
      have HSS := Lib.hid (fun w => sessionSize_any s.kd s.sz s.num s.big s.comp (s.flag : Int) s.q1 s.q2 s.k1 s.c1 s.k2 s.c2 w hok.kd hok.sz hok.num)
      rw [← hsz, ← hpn] at HSS
      have b0 : (0 : Int) ≤ (sz : Int) := by omega
      have b1 : (sz : Int) ≤ 8 := by have := partSize_or s.sz; omega
      have b2 : (0 : Int) ≤ (pn : Int) := by omega
      have b3 : (pn : Int) ≤ 18446744073709551615 := by have := partNum_max s.kd s.sz s.num; omega
      have HSZ := Lib.hid hsz
      have HPN := Lib.hid hpn
      clear hc hok hsz hpn
      go_wp2_with fail
      generalize hX : (wr.alloc (.cells #[.int .u8 (s.kd : Int), .int .u8 (s.sz : Int), .int .u64 (s.num : Int), .bool s.big, .bool s.comp, .int .u8 (s.flag : Int), .slice s.q1 s.k1 s.c1, .slice s.q2 s.k2 s.c2] 50)).alloc (.cells #[.bool true, .slice none 0 0, .slice none 0 0, .int .i64 0, .string ⟨#[]⟩] 39) = X
      obtain ⟨tb, htb⟩ : ∃ tb, tb = wr.heap.size := ⟨_, rfl⟩
      have HB := Lib.hid (show Blk X tb 50 #[.int .u8 (s.kd : Int), .int .u8 (s.sz : Int), .int .u64 (s.num : Int), .bool s.big, .bool s.comp, .int .u8 (s.flag : Int), .slice s.q1 s.k1 s.c1, .slice s.q2 s.k2 s.c2] from by rw [htb, ← hX]; exact (Blk.new wr _ _).alloc _)
      have HG := Lib.hid (show Blk X (tb + 1) 39 #[.bool true, .slice none 0 0, .slice none 0 0, .int .i64 0, .string ⟨#[]⟩] from by rw [htb, ← hX]; exact Blk.new2 wr _ _ _)
      have HKX := Lib.hid (show Kp wr X from hX ▸ ((Kp.refl wr).alloc _).alloc _)
      have HTB := Lib.hid (show wr.heap.size ≤ tb from by omega)
      rw [← htb]
      clear hX htb d0 d1 d2 d3 d4 d5 d6 d7
      refine (HSS.out _).mono ?_
      rintro e w1 ⟨rfl, hb1⟩
      have hk1 : Kp wr w1 := HKX.out.trans hb1
      have HK1 := Lib.hid hk1
      have HB1 := Lib.hid (HB.out.kp hb1)
      have HG1 := Lib.hid (HG.out.kp hb1)
      clear hb1 hk1 HSS
      obtain h6 | h6 | h6 | h6 | h6 | h6 : s.kd % 6 = 0 ∨ s.kd % 6 = 1 ∨ s.kd % 6 = 2 ∨ s.kd % 6 = 3 ∨ s.kd % 6 = 4 ∨ s.kd % 6 = 5 := by omega
      · have e6 : (s.kd : Int) % 6 = 0 := by omega
        have f0 : w1.cell? ⟨tb, 0, none⟩ = some (.int .u8 (s.kd : Int)) := HB1.out.cell 0
        have g0 : w1.cell? ⟨tb + 1, 0, none⟩ = some (.bool true) := HG1.out.cell 0
        have g1 : w1.cell? ⟨tb + 1, 1, none⟩ = some (.slice none 0 0) := HG1.out.cell 1
        have g2 : w1.cell? ⟨tb + 1, 2, none⟩ = some (.slice none 0 0) := HG1.out.cell 2
        have g3 : w1.cell? ⟨tb + 1, 3, none⟩ = some (.int .i64 0) := HG1.out.cell 3
        have g4 : w1.cell? ⟨tb + 1, 4, none⟩ = some (.string ⟨#[]⟩) := HG1.out.cell 4
        have gf1 : w1.frozen? ⟨tb + 1, 1, none⟩ = false := HG1.out.frozen 1
        have gf2 : w1.frozen? ⟨tb + 1, 2, none⟩ = false := HG1.out.frozen 2
        have gf3 : w1.frozen? ⟨tb + 1, 3, none⟩ = false := HG1.out.frozen 3
        have f6 : w1.cell? ⟨tb, 6, none⟩ = some (.slice s.q1 s.k1 s.c1) := HB1.out.cell 6
        have HE := Lib.hid (show wantP s = ⟨s.q1, s.k1, s.c1, none, 0, 0⟩ ∧ wantV s = ⟨s.ys, [], 0, noText⟩ from by simp [wantP, wantV, h6])
        obtain ⟨v', w5, hr, hcc, hkk⟩ := one_got w.heap.size (w1.setCell ⟨tb + 1, 1, none⟩ (.slice s.q1 s.k1 s.c1)) k v _ (own_below HCL.out (HK1.out.set (p := ⟨tb + 1, 1, none⟩) (by have := HTB.out; show _ ≤ tb + 1; omega) (.slice s.q1 s.k1 s.c1))) (by have := HK.out.size; have := ((HK1.out.set (p := ⟨tb + 1, 1, none⟩) (by have := HTB.out; show _ ≤ tb + 1; omega) (.slice s.q1 s.k1 s.c1))).size; omega) (wantP s) (wantV s) (by have := HLT.out; omega)
        have HR := Lib.hid (show (Builtin.append_ #[34, 34] 34 #[v, .slice (some ⟨w1.heap.size, 0, none⟩) 1 1]).run Tryd.prog ((w1.setCell ⟨tb + 1, 1, none⟩ (.slice s.q1 s.k1 s.c1)).alloc (.cells #[.bool true, .slice s.q1 s.k1 s.c1, .slice none 0 0, .int .i64 0, .string ⟨#[]⟩] 39)) = .ok v' w5 from by rw [HE.out.1, HE.out.2] at hr; have h9 : (w1.setCell ⟨tb + 1, 1, none⟩ (.slice s.q1 s.k1 s.c1)).heap.size = w1.heap.size := (by simp); rw [h9] at hr; exact hr)
        have HCC := Lib.hid (HNX.out v' w5 hcc)
        have HKE := Lib.hid (hkk w (HK.out.trans (HK1.out.set (p := ⟨tb + 1, 1, none⟩) (by have := HTB.out; show _ ≤ tb + 1; omega) (.slice s.q1 s.k1 s.c1))) (Nat.le_refl _))
        clear hr hcc hkk h6
        go_wp2_with (at_builtin; refine Lib.wpList_append_run _ rfl _ _ _ _ rfl _ _ rfl rfl _ _ HR.out ?_)
        go_roundg (n - (k + 1))
        case measure => have := HLT.out; omega
        case rel => exact ⟨k + 1, v', rfl, HLT.out, by go_num, rfl, HCC.out, HKE.out⟩
      · have e6 : (s.kd : Int) % 6 = 1 := by omega
        have f0 : w1.cell? ⟨tb, 0, none⟩ = some (.int .u8 (s.kd : Int)) := HB1.out.cell 0
        have g0 : w1.cell? ⟨tb + 1, 0, none⟩ = some (.bool true) := HG1.out.cell 0
        have g1 : w1.cell? ⟨tb + 1, 1, none⟩ = some (.slice none 0 0) := HG1.out.cell 1
        have g2 : w1.cell? ⟨tb + 1, 2, none⟩ = some (.slice none 0 0) := HG1.out.cell 2
        have g3 : w1.cell? ⟨tb + 1, 3, none⟩ = some (.int .i64 0) := HG1.out.cell 3
        have g4 : w1.cell? ⟨tb + 1, 4, none⟩ = some (.string ⟨#[]⟩) := HG1.out.cell 4
        have gf1 : w1.frozen? ⟨tb + 1, 1, none⟩ = false := HG1.out.frozen 1
        have gf2 : w1.frozen? ⟨tb + 1, 2, none⟩ = false := HG1.out.frozen 2
        have gf3 : w1.frozen? ⟨tb + 1, 3, none⟩ = false := HG1.out.frozen 3
        have f6 : w1.cell? ⟨tb, 6, none⟩ = some (.slice s.q1 s.k1 s.c1) := HB1.out.cell 6
        have HE := Lib.hid (show wantP s = ⟨s.q1, s.k1, s.c1, none, 0, 0⟩ ∧ wantV s = ⟨s.ys, [], 0, noText⟩ from by simp [wantP, wantV, h6])
        obtain ⟨v', w5, hr, hcc, hkk⟩ := one_got w.heap.size (w1.setCell ⟨tb + 1, 1, none⟩ (.slice s.q1 s.k1 s.c1)) k v _ (own_below HCL.out (HK1.out.set (p := ⟨tb + 1, 1, none⟩) (by have := HTB.out; show _ ≤ tb + 1; omega) (.slice s.q1 s.k1 s.c1))) (by have := HK.out.size; have := ((HK1.out.set (p := ⟨tb + 1, 1, none⟩) (by have := HTB.out; show _ ≤ tb + 1; omega) (.slice s.q1 s.k1 s.c1))).size; omega) (wantP s) (wantV s) (by have := HLT.out; omega)
        have HR := Lib.hid (show (Builtin.append_ #[34, 34] 34 #[v, .slice (some ⟨w1.heap.size, 0, none⟩) 1 1]).run Tryd.prog ((w1.setCell ⟨tb + 1, 1, none⟩ (.slice s.q1 s.k1 s.c1)).alloc (.cells #[.bool true, .slice s.q1 s.k1 s.c1, .slice none 0 0, .int .i64 0, .string ⟨#[]⟩] 39)) = .ok v' w5 from by rw [HE.out.1, HE.out.2] at hr; have h9 : (w1.setCell ⟨tb + 1, 1, none⟩ (.slice s.q1 s.k1 s.c1)).heap.size = w1.heap.size := (by simp); rw [h9] at hr; exact hr)
        have HCC := Lib.hid (HNX.out v' w5 hcc)
        have HKE := Lib.hid (hkk w (HK.out.trans (HK1.out.set (p := ⟨tb + 1, 1, none⟩) (by have := HTB.out; show _ ≤ tb + 1; omega) (.slice s.q1 s.k1 s.c1))) (Nat.le_refl _))
        clear hr hcc hkk h6
        go_wp2_with (at_builtin; refine Lib.wpList_append_run _ rfl _ _ _ _ rfl _ _ rfl rfl _ _ HR.out ?_)
        go_roundg (n - (k + 1))
        case measure => have := HLT.out; omega
        case rel => exact ⟨k + 1, v', rfl, HLT.out, by go_num, rfl, HCC.out, HKE.out⟩
      · have e6 : (s.kd : Int) % 6 = 2 := by omega
        have f0 : w1.cell? ⟨tb, 0, none⟩ = some (.int .u8 (s.kd : Int)) := HB1.out.cell 0
        have g0 : w1.cell? ⟨tb + 1, 0, none⟩ = some (.bool true) := HG1.out.cell 0
        have g1 : w1.cell? ⟨tb + 1, 1, none⟩ = some (.slice none 0 0) := HG1.out.cell 1
        have g2 : w1.cell? ⟨tb + 1, 2, none⟩ = some (.slice none 0 0) := HG1.out.cell 2
        have g3 : w1.cell? ⟨tb + 1, 3, none⟩ = some (.int .i64 0) := HG1.out.cell 3
        have g4 : w1.cell? ⟨tb + 1, 4, none⟩ = some (.string ⟨#[]⟩) := HG1.out.cell 4
        have gf1 : w1.frozen? ⟨tb + 1, 1, none⟩ = false := HG1.out.frozen 1
        have gf2 : w1.frozen? ⟨tb + 1, 2, none⟩ = false := HG1.out.frozen 2
        have gf3 : w1.frozen? ⟨tb + 1, 3, none⟩ = false := HG1.out.frozen 3
        obtain ⟨nx, hnx⟩ : ∃ nx, nx = w64 (pn : Int) := ⟨_, rfl⟩
        have c1 : IntKind.i64.wrap (pn : Int) = nx := (IntWalk.i64_left _).trans hnx.symm
        have c2 : RowKit.wrap64 (pn : Int) = nx := hnx.symm
        have HE := Lib.hid (show wantP s = ⟨none, 0, 0, none, 0, 0⟩ ∧ wantV s = ⟨[], [], nx, noText⟩ from by rw [hnx, HPN.out]; simp [wantP, wantV, h6])
        obtain ⟨v', w5, hr, hcc, hkk⟩ := one_got w.heap.size (w1.setCell ⟨tb + 1, 3, none⟩ (.int .i64 nx)) k v _ (own_below HCL.out (HK1.out.set (p := ⟨tb + 1, 3, none⟩) (by have := HTB.out; show _ ≤ tb + 1; omega) (.int .i64 nx))) (by have := HK.out.size; have := ((HK1.out.set (p := ⟨tb + 1, 3, none⟩) (by have := HTB.out; show _ ≤ tb + 1; omega) (.int .i64 nx))).size; omega) (wantP s) (wantV s) (by have := HLT.out; omega)
        have HR := Lib.hid (show (Builtin.append_ #[34, 34] 34 #[v, .slice (some ⟨w1.heap.size, 0, none⟩) 1 1]).run Tryd.prog ((w1.setCell ⟨tb + 1, 3, none⟩ (.int .i64 nx)).alloc (.cells #[.bool true, .slice none 0 0, .slice none 0 0, .int .i64 nx, .string ⟨#[]⟩] 39)) = .ok v' w5 from by rw [HE.out.1, HE.out.2] at hr; have h9 : (w1.setCell ⟨tb + 1, 3, none⟩ (.int .i64 nx)).heap.size = w1.heap.size := (by simp); rw [h9] at hr; exact hr)
        have HCC := Lib.hid (HNX.out v' w5 hcc)
        have HKE := Lib.hid (hkk w (HK.out.trans (HK1.out.set (p := ⟨tb + 1, 3, none⟩) (by have := HTB.out; show _ ≤ tb + 1; omega) (.int .i64 nx))) (Nat.le_refl _))
        clear hr hcc hkk h6 hnx
        go_wp2_with (at_builtin; refine Lib.wpList_append_run _ rfl _ _ _ _ rfl _ _ rfl rfl _ _ HR.out ?_)
        go_roundg (n - (k + 1))
        case measure => have := HLT.out; omega
        case rel => exact ⟨k + 1, v', rfl, HLT.out, by go_num, rfl, HCC.out, HKE.out⟩
      · have e6 : (s.kd : Int) % 6 = 3 := by omega
        have f0 : w1.cell? ⟨tb, 0, none⟩ = some (.int .u8 (s.kd : Int)) := HB1.out.cell 0
        have g0 : w1.cell? ⟨tb + 1, 0, none⟩ = some (.bool true) := HG1.out.cell 0
        have g1 : w1.cell? ⟨tb + 1, 1, none⟩ = some (.slice none 0 0) := HG1.out.cell 1
        have g2 : w1.cell? ⟨tb + 1, 2, none⟩ = some (.slice none 0 0) := HG1.out.cell 2
        have g3 : w1.cell? ⟨tb + 1, 3, none⟩ = some (.int .i64 0) := HG1.out.cell 3
        have g4 : w1.cell? ⟨tb + 1, 4, none⟩ = some (.string ⟨#[]⟩) := HG1.out.cell 4
        have gf1 : w1.frozen? ⟨tb + 1, 1, none⟩ = false := HG1.out.frozen 1
        have gf2 : w1.frozen? ⟨tb + 1, 2, none⟩ = false := HG1.out.frozen 2
        have gf3 : w1.frozen? ⟨tb + 1, 3, none⟩ = false := HG1.out.frozen 3
        obtain ⟨nx, hnx⟩ : ∃ nx, nx = w64 (pn : Int) := ⟨_, rfl⟩
        have c1 : IntKind.i64.wrap (pn : Int) = nx := (IntWalk.i64_left _).trans hnx.symm
        have c2 : RowKit.wrap64 (pn : Int) = nx := hnx.symm
        have HE := Lib.hid (show wantP s = ⟨none, 0, 0, none, 0, 0⟩ ∧ wantV s = ⟨[], [], nx, noText⟩ from by rw [hnx, HPN.out]; simp [wantP, wantV, h6])
        obtain ⟨v', w5, hr, hcc, hkk⟩ := one_got w.heap.size (w1.setCell ⟨tb + 1, 3, none⟩ (.int .i64 nx)) k v _ (own_below HCL.out (HK1.out.set (p := ⟨tb + 1, 3, none⟩) (by have := HTB.out; show _ ≤ tb + 1; omega) (.int .i64 nx))) (by have := HK.out.size; have := ((HK1.out.set (p := ⟨tb + 1, 3, none⟩) (by have := HTB.out; show _ ≤ tb + 1; omega) (.int .i64 nx))).size; omega) (wantP s) (wantV s) (by have := HLT.out; omega)
        have HR := Lib.hid (show (Builtin.append_ #[34, 34] 34 #[v, .slice (some ⟨w1.heap.size, 0, none⟩) 1 1]).run Tryd.prog ((w1.setCell ⟨tb + 1, 3, none⟩ (.int .i64 nx)).alloc (.cells #[.bool true, .slice none 0 0, .slice none 0 0, .int .i64 nx, .string ⟨#[]⟩] 39)) = .ok v' w5 from by rw [HE.out.1, HE.out.2] at hr; have h9 : (w1.setCell ⟨tb + 1, 3, none⟩ (.int .i64 nx)).heap.size = w1.heap.size := (by simp); rw [h9] at hr; exact hr)
        have HCC := Lib.hid (HNX.out v' w5 hcc)
        have HKE := Lib.hid (hkk w (HK.out.trans (HK1.out.set (p := ⟨tb + 1, 3, none⟩) (by have := HTB.out; show _ ≤ tb + 1; omega) (.int .i64 nx))) (Nat.le_refl _))
        clear hr hcc hkk h6 hnx
        go_wp2_with (at_builtin; refine Lib.wpList_append_run _ rfl _ _ _ _ rfl _ _ rfl rfl _ _ HR.out ?_)
        go_roundg (n - (k + 1))
        case measure => have := HLT.out; omega
        case rel => exact ⟨k + 1, v', rfl, HLT.out, by go_num, rfl, HCC.out, HKE.out⟩
      · have e6 : (s.kd : Int) % 6 = 4 := by omega
        have f0 : w1.cell? ⟨tb, 0, none⟩ = some (.int .u8 (s.kd : Int)) := HB1.out.cell 0
        have g0 : w1.cell? ⟨tb + 1, 0, none⟩ = some (.bool true) := HG1.out.cell 0
        have g1 : w1.cell? ⟨tb + 1, 1, none⟩ = some (.slice none 0 0) := HG1.out.cell 1
        have g2 : w1.cell? ⟨tb + 1, 2, none⟩ = some (.slice none 0 0) := HG1.out.cell 2
        have g3 : w1.cell? ⟨tb + 1, 3, none⟩ = some (.int .i64 0) := HG1.out.cell 3
        have g4 : w1.cell? ⟨tb + 1, 4, none⟩ = some (.string ⟨#[]⟩) := HG1.out.cell 4
        have gf1 : w1.frozen? ⟨tb + 1, 1, none⟩ = false := HG1.out.frozen 1
        have gf2 : w1.frozen? ⟨tb + 1, 2, none⟩ = false := HG1.out.frozen 2
        have gf3 : w1.frozen? ⟨tb + 1, 3, none⟩ = false := HG1.out.frozen 3
        have f5 : w1.cell? ⟨tb, 5, none⟩ = some (.int .u8 (s.flag : Int)) := HB1.out.cell 5
        have f6 : w1.cell? ⟨tb, 6, none⟩ = some (.slice s.q1 s.k1 s.c1) := HB1.out.cell 6
        have f7 : w1.cell? ⟨tb, 7, none⟩ = some (.slice s.q2 s.k2 s.c2) := HB1.out.cell 7
        have HE := Lib.hid (show wantP s = ⟨s.q1, s.k1, s.c1, s.q2, s.k2, s.c2⟩ ∧ wantV s = ⟨s.ys, s.zs, (s.flag : Int), noText⟩ from by simp [wantP, wantV, h6])
        obtain ⟨v', w5, hr, hcc, hkk⟩ := one_got w.heap.size (((w1.setCell ⟨tb + 1, 1, none⟩ (.slice s.q1 s.k1 s.c1)).setCell ⟨tb + 1, 2, none⟩ (.slice s.q2 s.k2 s.c2)).setCell ⟨tb + 1, 3, none⟩ (.int .i64 (s.flag : Int))).drew k v _ (own_below HCL.out (((HK1.out.set (p := ⟨tb + 1, 1, none⟩) (by have := HTB.out; show _ ≤ tb + 1; omega) (.slice s.q1 s.k1 s.c1)).set (p := ⟨tb + 1, 2, none⟩) (by have := HTB.out; show _ ≤ tb + 1; omega) (.slice s.q2 s.k2 s.c2)).set (p := ⟨tb + 1, 3, none⟩) (by have := HTB.out; show _ ≤ tb + 1; omega) (.int .i64 (s.flag : Int))).drew) (by have := HK.out.size; have := ((((HK1.out.set (p := ⟨tb + 1, 1, none⟩) (by have := HTB.out; show _ ≤ tb + 1; omega) (.slice s.q1 s.k1 s.c1)).set (p := ⟨tb + 1, 2, none⟩) (by have := HTB.out; show _ ≤ tb + 1; omega) (.slice s.q2 s.k2 s.c2)).set (p := ⟨tb + 1, 3, none⟩) (by have := HTB.out; show _ ≤ tb + 1; omega) (.int .i64 (s.flag : Int))).drew).size; omega) (wantP s) (wantV s) (by have := HLT.out; omega)
        have HR := Lib.hid (show (Builtin.append_ #[34, 34] 34 #[v, .slice (some ⟨w1.heap.size, 0, none⟩) 1 1]).run Tryd.prog ((((w1.setCell ⟨tb + 1, 1, none⟩ (.slice s.q1 s.k1 s.c1)).setCell ⟨tb + 1, 2, none⟩ (.slice s.q2 s.k2 s.c2)).setCell ⟨tb + 1, 3, none⟩ (.int .i64 (s.flag : Int))).alloc (.cells #[.bool true, .slice s.q1 s.k1 s.c1, .slice s.q2 s.k2 s.c2, .int .i64 (s.flag : Int), .string ⟨#[]⟩] 39)).drew = .ok v' w5 from by rw [HE.out.1, HE.out.2] at hr; have h9 : (((w1.setCell ⟨tb + 1, 1, none⟩ (.slice s.q1 s.k1 s.c1)).setCell ⟨tb + 1, 2, none⟩ (.slice s.q2 s.k2 s.c2)).setCell ⟨tb + 1, 3, none⟩ (.int .i64 (s.flag : Int))).drew.heap.size = w1.heap.size := (by simp); rw [h9] at hr; exact hr)
        have HCC := Lib.hid (HNX.out v' w5 hcc)
        have HKE := Lib.hid (hkk w (HK.out.trans (((HK1.out.set (p := ⟨tb + 1, 1, none⟩) (by have := HTB.out; show _ ≤ tb + 1; omega) (.slice s.q1 s.k1 s.c1)).set (p := ⟨tb + 1, 2, none⟩) (by have := HTB.out; show _ ≤ tb + 1; omega) (.slice s.q2 s.k2 s.c2)).set (p := ⟨tb + 1, 3, none⟩) (by have := HTB.out; show _ ≤ tb + 1; omega) (.int .i64 (s.flag : Int))).drew) (Nat.le_refl _))
        clear hr hcc hkk h6
        have ne1 : tb ≠ tb + 1 := by omega
        have ew : IntKind.i64.wrap (s.flag : Int) = (s.flag : Int) := IntWalk.i64_in _ (by omega)
        go_wp2_with fail
        go_region_held3 (fun w' => w'.cell? ⟨tb, 5, none⟩ = some (.int .u8 (s.flag : Int)) ∧ w'.cell? ⟨tb, 6, none⟩ = some (.slice s.q1 s.k1 s.c1) ∧ w'.cell? ⟨tb, 7, none⟩ = some (.slice s.q2 s.k2 s.c2)) (first | (refine ⟨?_, ?_, ?_⟩ <;> with_reducible assumption) | (refine ⟨?_, ?_, ?_⟩ <;> (refine sc_other (by with_reducible assumption) ?_; with_reducible assumption)) | (refine ⟨?_, ?_, ?_⟩ <;> (refine sc_other (by with_reducible assumption) ?_; refine sc_other (by with_reducible assumption) ?_; with_reducible assumption)) | (refine ⟨?_, ?_, ?_⟩ <;> (refine sc_other (by with_reducible assumption) ?_; refine sc_other (by with_reducible assumption) ?_; refine sc_other (by with_reducible assumption) ?_; with_reducible assumption)) | go_keep)
          (fail)
        all_goals
          go_wp2_with (at_builtin; refine Lib.wpList_append_run _ rfl _ _ _ _ rfl _ _ rfl rfl _ _ HR.out ?_)
          go_roundg (n - (k + 1))
          case measure => have := HLT.out; omega
          case rel => exact ⟨k + 1, v', rfl, HLT.out, by go_num, rfl, HCC.out, HKE.out⟩
      · have e6 : (s.kd : Int) % 6 = 5 := by omega
        have f0 : w1.cell? ⟨tb, 0, none⟩ = some (.int .u8 (s.kd : Int)) := HB1.out.cell 0
        have g0 : w1.cell? ⟨tb + 1, 0, none⟩ = some (.bool true) := HG1.out.cell 0
        have g1 : w1.cell? ⟨tb + 1, 1, none⟩ = some (.slice none 0 0) := HG1.out.cell 1
        have g2 : w1.cell? ⟨tb + 1, 2, none⟩ = some (.slice none 0 0) := HG1.out.cell 2
        have g3 : w1.cell? ⟨tb + 1, 3, none⟩ = some (.int .i64 0) := HG1.out.cell 3
        have g4 : w1.cell? ⟨tb + 1, 4, none⟩ = some (.string ⟨#[]⟩) := HG1.out.cell 4
        have gf1 : w1.frozen? ⟨tb + 1, 1, none⟩ = false := HG1.out.frozen 1
        have gf2 : w1.frozen? ⟨tb + 1, 2, none⟩ = false := HG1.out.frozen 2
        have gf3 : w1.frozen? ⟨tb + 1, 3, none⟩ = false := HG1.out.frozen 3
        have f6 : w1.cell? ⟨tb, 6, none⟩ = some (.slice s.q1 s.k1 s.c1) := HB1.out.cell 6
        have HE := Lib.hid (show wantP s = ⟨s.q1, s.k1, s.c1, none, 0, 0⟩ ∧ wantV s = ⟨s.ys, [], 0, noText⟩ from by simp [wantP, wantV, h6])
        obtain ⟨v', w5, hr, hcc, hkk⟩ := one_got w.heap.size (w1.setCell ⟨tb + 1, 1, none⟩ (.slice s.q1 s.k1 s.c1)) k v _ (own_below HCL.out (HK1.out.set (p := ⟨tb + 1, 1, none⟩) (by have := HTB.out; show _ ≤ tb + 1; omega) (.slice s.q1 s.k1 s.c1))) (by have := HK.out.size; have := ((HK1.out.set (p := ⟨tb + 1, 1, none⟩) (by have := HTB.out; show _ ≤ tb + 1; omega) (.slice s.q1 s.k1 s.c1))).size; omega) (wantP s) (wantV s) (by have := HLT.out; omega)
        have HR := Lib.hid (show (Builtin.append_ #[34, 34] 34 #[v, .slice (some ⟨w1.heap.size, 0, none⟩) 1 1]).run Tryd.prog ((w1.setCell ⟨tb + 1, 1, none⟩ (.slice s.q1 s.k1 s.c1)).alloc (.cells #[.bool true, .slice s.q1 s.k1 s.c1, .slice none 0 0, .int .i64 0, .string ⟨#[]⟩] 39)) = .ok v' w5 from by rw [HE.out.1, HE.out.2] at hr; have h9 : (w1.setCell ⟨tb + 1, 1, none⟩ (.slice s.q1 s.k1 s.c1)).heap.size = w1.heap.size := (by simp); rw [h9] at hr; exact hr)
        have HCC := Lib.hid (HNX.out v' w5 hcc)
        have HKE := Lib.hid (hkk w (HK.out.trans (HK1.out.set (p := ⟨tb + 1, 1, none⟩) (by have := HTB.out; show _ ≤ tb + 1; omega) (.slice s.q1 s.k1 s.c1))) (Nat.le_refl _))
        clear hr hcc hkk h6
        go_wp2_with (at_builtin; refine Lib.wpList_append_run _ rfl _ _ _ _ rfl _ _ rfl rfl _ _ HR.out ?_)
        go_roundg (n - (k + 1))
        case measure => have := HLT.out; omega
        case rel => exact ⟨k + 1, v', rfl, HLT.out, by go_num, rfl, HCC.out, HKE.out⟩
    · obtain rfl : k = n := by have := HKN.out; omega
      clear hlt
      go_wp2_with fail
      go_ret
      exact ⟨v, rfl, HCL.out, HK.out⟩
end Go.Proofs.YtgjfejalinkohaaDoor
