/-
  sessionGets: the steps that read parts.
-/
import Derived.Test.YtgjfejalinkohaaDoorSes22
namespace Go.Proofs.YtgjfejalinkohaaDoor
open Go Go.RowKit

/-- The step that reads a part. -/
def getOf (s : LPart) : GStep :=
  if s.kd % 6 = 0 then ⟨1, s.k1, false, false⟩ else if s.kd % 6 = 1 then ⟨2, 0, false, false⟩ else if s.kd % 6 = 4 then ⟨6, 0, false, false⟩ else if s.kd % 6 = 5 then ⟨8, 0, false, false⟩ else
  ⟨4, partSize s.sz, s.big, s.comp && (decide (s.kd % 6 = 2) || decide (1 < partSize s.sz))⟩
set_option maxRecDepth 100000 in
theorem one_get (B : Nat) (W : World) (k : Nat) (v : Value) (R : Nat → GStep) (hc : GColl B W k v R) (hB : B ≤ W.heap.size) (x : GStep) (hk : k ≤ 1000) :
    ∃ v' w5, (Builtin.append_ #[27, 27] 27 #[v, .slice (some ⟨W.heap.size, 0, none⟩) 1 1]).run Tryd.prog (W.alloc (.cells x.cells.toArray 33)) = .ok v' w5 ∧
      GColl B w5 (k + 1) v' (fun r => if r = k then x else R r) ∧ (∀ U, Kp U W → U.heap.size ≤ B → Kp U w5) := by
  generalize hW : W.alloc (.cells x.cells.toArray 33) = W4
  have hkW : Kp W W4 := hW ▸ (Kp.refl W).alloc _
  have hs : W4.heap.size = W.heap.size + 1 := by rw [← hW]; simp
  have hcW : GColl B W4 k v R := Coll.kp hc hkW
  obtain ⟨v', w5, r1, r2, r5, r6⟩ := app_rec Tryd.underlying27 infoGet rfl (by decide) (by decide) W4 B v k _ hcW.own W.heap.size x.cells (hW ▸ Blk.new W _ _) rfl (GStep.one _) (by omega) (by omega)
  exact ⟨v', w5, r1, Coll.app hcW r2 r5 r6 (fun t ht => absurd ht List.not_mem_nil) (fun t ht => absurd ht List.not_mem_nil), fun U hU hUB => (hU.trans hkW).grown r5 (fun b hb => by have := (own_lt' hc.own b hb).1; omega)⟩

set_option maxRecDepth 100000 in
set_option maxHeartbeats 16000000 in
theorem sessionGets_any (a : Option Addr) (n c : Nat) (P : Nat → LPart) (w : World) (h : PartsIn w a n P) (hn : n ≤ 20) :
    Calls Tryd.prog 26 #[.slice a n c] w fun e w' => ∃ v, e = .returned v ∧ GColl w.heap.size w' n v (fun r => getOf (P r)) ∧ Kp w w' := by
  have i0 : (0 : Int) ≤ (n : Int) := by omega
  have i1 : (n : Int) ≤ 20 := by omega
  have HP := Lib.hid h
  clear h hn
  go_enter Tryd.func26, Tryd.ntmps26
  go_wp2_with fail
  go_loopg [3, 10] n (fun G v st wr => ∃ (k : Nat) (v0 : Value), G = n - k ∧ k ≤ n ∧ st = .int .i64 (k : Int) ∧ v0 = v ∧ GColl w.heap.size wr k v0 (fun r => getOf (P r)) ∧ Kp w wr)
  case atStart => exact ⟨0, _, rfl, Nat.zero_le _, rfl, rfl, Coll.start _, Kp.refl w⟩
  case round =>
    obtain ⟨k, v, rfl, hk, rfl, rfl, hcl, hkp⟩ := hrel
    have HCL := Lib.hid hcl
    have HK := Lib.hid hkp
    have HKN := Lib.hid hk
    have j0 : (0 : Int) ≤ (k : Int) := by omega
    have j1 : (k : Int) ≤ (n : Int) := by omega
    clear hkp hk hcl
    by_cases hlt : k < n
    · have j2 : (k : Int) < (n : Int) := by omega
      obtain ⟨b, o, rfl, hc, _, _, hok⟩ := HP.out.kp HK.out k hlt
      have HLT := Lib.hid hlt
      have HNX := Lib.hid (show (fun r => if r = k then getOf (P k) else getOf (P r)) = fun r => getOf (P r) from by funext r; by_cases e : r = k <;> simp [e])
      clear hlt
      generalize P k = s at hc hok HNX
      have a0 : (0 : Int) ≤ (s.kd : Int) := by omega
      have a1 : (s.kd : Int) < 256 := by have := hok.kd; omega
      have a2 : (0 : Int) ≤ (s.flag : Int) := by omega
      have a3 : (s.flag : Int) < 256 := by have := hok.flag; omega
      have a4 : (0 : Int) ≤ (s.k1 : Int) := by omega
      have a5 : (s.k1 : Int) ≤ 9223372036854775807 := by have := hok.n1; have := hok.m1; unfold maxLen at this; omega
      have d0 : wr.cell? ⟨b, o + k * 8, none⟩ = some (.int .u8 (s.kd : Int)) := hc 0 _ rfl
      have d1 : wr.cell? ⟨b, o + k * 8 + 1, none⟩ = some (.int .u8 (s.sz : Int)) := hc 1 _ rfl
      have d2 : wr.cell? ⟨b, o + k * 8 + 2, none⟩ = some (.int .u64 (s.num : Int)) := hc 2 _ rfl
      have d3 : wr.cell? ⟨b, o + k * 8 + 3, none⟩ = some (.bool s.big) := hc 3 _ rfl
      have d4 : wr.cell? ⟨b, o + k * 8 + 4, none⟩ = some (.bool s.comp) := hc 4 _ rfl
      have d5 : wr.cell? ⟨b, o + k * 8 + 5, none⟩ = some (.int .u8 (s.flag : Int)) := hc 5 _ rfl
      have d6 : wr.cell? ⟨b, o + k * 8 + 6, none⟩ = some (.slice s.q1 s.k1 s.c1) := hc 6 _ rfl
      have d7 : wr.cell? ⟨b, o + k * 8 + 7, none⟩ = some (.slice s.q2 s.k2 s.c2) := hc 7 _ rfl
      obtain ⟨sz, hsz⟩ : ∃ sz, sz = partSize s.sz := ⟨_, rfl⟩
      obtain ⟨pn, hpn⟩ : ∃ pn, pn = partNum s.kd s.sz s.num := ⟨_, rfl⟩
      have HSS := Lib.hid (fun w => sessionSize_any s.kd s.sz s.num s.big s.comp (s.flag : Int) s.q1 s.q2 s.k1 s.c1 s.k2 s.c2 w hok.kd hok.sz hok.num)
      rw [← hsz, ← hpn] at HSS
      have b0 : (0 : Int) ≤ (sz : Int) := by omega
      have b1 : (sz : Int) ≤ 8 := by have := partSize_or s.sz; omega
      have b2 : (0 : Int) ≤ (pn : Int) := by omega
      have b3 : (pn : Int) ≤ 18446744073709551615 := by have := partNum_max s.kd s.sz s.num; omega
      have HSZ := Lib.hid hsz
      have HPN := Lib.hid hpn
      clear hc hok hsz hpn
      go_wp2_with fail
      generalize hX : (wr.alloc (.cells #[.int .u8 (s.kd : Int), .int .u8 (s.sz : Int), .int .u64 (s.num : Int), .bool s.big, .bool s.comp, .int .u8 (s.flag : Int), .slice s.q1 s.k1 s.c1, .slice s.q2 s.k2 s.c2] 50)) = X
      obtain ⟨tb, htb⟩ : ∃ tb, tb = wr.heap.size := ⟨_, rfl⟩
      have HB := Lib.hid (show Blk X tb 50 #[.int .u8 (s.kd : Int), .int .u8 (s.sz : Int), .int .u64 (s.num : Int), .bool s.big, .bool s.comp, .int .u8 (s.flag : Int), .slice s.q1 s.k1 s.c1, .slice s.q2 s.k2 s.c2] from by rw [htb, ← hX]; exact Blk.new wr _ _)
      have HKX := Lib.hid (show Kp wr X from hX ▸ (Kp.refl wr).alloc _)
      have HTB := Lib.hid (show wr.heap.size ≤ tb from by omega)
      rw [← htb]
      clear hX htb d0 d1 d2 d3 d4 d5 d6 d7
      refine (HSS.out _).mono ?_
      rintro e w1 ⟨rfl, hb1⟩
      have hk1 : Kp wr w1 := HKX.out.trans hb1
      have HK1 := Lib.hid hk1
      have HB1 := Lib.hid (HB.out.kp hb1)
      clear hb1 hk1 HSS
      obtain h6 | h6 | h6 | h6 | h6 | h6 : s.kd % 6 = 0 ∨ s.kd % 6 = 1 ∨ s.kd % 6 = 2 ∨ s.kd % 6 = 3 ∨ s.kd % 6 = 4 ∨ s.kd % 6 = 5 := by omega
      · have e6 : (s.kd : Int) % 6 = 0 := by omega
        have f0 : w1.cell? ⟨tb, 0, none⟩ = some (.int .u8 (s.kd : Int)) := HB1.out.cell 0
        have f6 : w1.cell? ⟨tb, 6, none⟩ = some (.slice s.q1 s.k1 s.c1) := HB1.out.cell 6
        have HE := Lib.hid (show getOf s = ⟨1, s.k1, false, false⟩ from by simp [getOf, h6])
        obtain ⟨v', w5, hr, hcc, hkk⟩ := one_get w.heap.size w1 k v _ (Coll.kp HCL.out HK1.out) (by have := HK.out.size; have := HK1.out.size; omega) (getOf s) (by have := HLT.out; omega)
        have HR := Lib.hid (show (Builtin.append_ #[27, 27] 27 #[v, .slice (some ⟨w1.heap.size, 0, none⟩) 1 1]).run Tryd.prog (w1.alloc (.cells #[.int .i64 1, .int .i64 (s.k1 : Int), .bool false, .bool false] 33)) = .ok v' w5 from by rw [HE.out] at hr; exact hr)
        have HCC := Lib.hid (HNX.out ▸ hcc)
        have HKE := Lib.hid (hkk w (HK.out.trans HK1.out) (Nat.le_refl _))
        clear hr hcc hkk h6 
        go_wp2_with (at_builtin; refine Lib.wpList_append_run _ rfl _ _ _ _ rfl _ _ rfl rfl _ _ HR.out ?_)
        go_roundg (n - (k + 1))
        case measure => have := HLT.out; omega
        case rel => exact ⟨k + 1, v', rfl, HLT.out, by go_num, rfl, HCC.out, HKE.out⟩
      · have e6 : (s.kd : Int) % 6 = 1 := by omega
        have f0 : w1.cell? ⟨tb, 0, none⟩ = some (.int .u8 (s.kd : Int)) := HB1.out.cell 0
        have HE := Lib.hid (show getOf s = ⟨2, 0, false, false⟩ from by simp [getOf, h6])
        obtain ⟨v', w5, hr, hcc, hkk⟩ := one_get w.heap.size w1 k v _ (Coll.kp HCL.out HK1.out) (by have := HK.out.size; have := HK1.out.size; omega) (getOf s) (by have := HLT.out; omega)
        have HR := Lib.hid (show (Builtin.append_ #[27, 27] 27 #[v, .slice (some ⟨w1.heap.size, 0, none⟩) 1 1]).run Tryd.prog (w1.alloc (.cells #[.int .i64 2, .int .i64 0, .bool false, .bool false] 33)) = .ok v' w5 from by rw [HE.out] at hr; exact hr)
        have HCC := Lib.hid (HNX.out ▸ hcc)
        have HKE := Lib.hid (hkk w (HK.out.trans HK1.out) (Nat.le_refl _))
        clear hr hcc hkk h6 
        go_wp2_with (at_builtin; refine Lib.wpList_append_run _ rfl _ _ _ _ rfl _ _ rfl rfl _ _ HR.out ?_)
        go_roundg (n - (k + 1))
        case measure => have := HLT.out; omega
        case rel => exact ⟨k + 1, v', rfl, HLT.out, by go_num, rfl, HCC.out, HKE.out⟩
      · have e6 : (s.kd : Int) % 6 = 2 := by omega
        have f0 : w1.cell? ⟨tb, 0, none⟩ = some (.int .u8 (s.kd : Int)) := HB1.out.cell 0
        obtain ⟨cm, hcm⟩ : ∃ cm, s.comp = cm := ⟨_, rfl⟩
        have f3 : w1.cell? ⟨tb, 3, none⟩ = some (.bool s.big) := HB1.out.cell 3
        have f4 : w1.cell? ⟨tb, 4, none⟩ = some (.bool cm) := hcm ▸ HB1.out.cell 4
        cases cm
        · have HE := Lib.hid (show getOf s = ⟨4, sz, s.big, false⟩ from by rw [HSZ.out]; simp [getOf, h6, hcm])
          obtain ⟨v', w5, hr, hcc, hkk⟩ := one_get w.heap.size w1 k v _ (Coll.kp HCL.out HK1.out) (by have := HK.out.size; have := HK1.out.size; omega) (getOf s) (by have := HLT.out; omega)
          have HR := Lib.hid (show (Builtin.append_ #[27, 27] 27 #[v, .slice (some ⟨w1.heap.size, 0, none⟩) 1 1]).run Tryd.prog (w1.alloc (.cells #[.int .i64 4, .int .i64 (sz : Int), .bool s.big, .bool false] 33)) = .ok v' w5 from by rw [HE.out] at hr; exact hr)
          have HCC := Lib.hid (HNX.out ▸ hcc)
          have HKE := Lib.hid (hkk w (HK.out.trans HK1.out) (Nat.le_refl _))
          clear hr hcc hkk h6 hcm
          go_wp2_with (at_builtin; refine Lib.wpList_append_run _ rfl _ _ _ _ rfl _ _ rfl rfl _ _ HR.out ?_)
          go_roundg (n - (k + 1))
          case measure => have := HLT.out; omega
          case rel => exact ⟨k + 1, v', rfl, HLT.out, by go_num, rfl, HCC.out, HKE.out⟩
        · have HE := Lib.hid (show getOf s = ⟨4, sz, s.big, true⟩ from by rw [HSZ.out]; simp [getOf, h6, hcm])
          obtain ⟨v', w5, hr, hcc, hkk⟩ := one_get w.heap.size w1 k v _ (Coll.kp HCL.out HK1.out) (by have := HK.out.size; have := HK1.out.size; omega) (getOf s) (by have := HLT.out; omega)
          have HR := Lib.hid (show (Builtin.append_ #[27, 27] 27 #[v, .slice (some ⟨w1.heap.size, 0, none⟩) 1 1]).run Tryd.prog (w1.alloc (.cells #[.int .i64 4, .int .i64 (sz : Int), .bool s.big, .bool true] 33)) = .ok v' w5 from by rw [HE.out] at hr; exact hr)
          have HCC := Lib.hid (HNX.out ▸ hcc)
          have HKE := Lib.hid (hkk w (HK.out.trans HK1.out) (Nat.le_refl _))
          clear hr hcc hkk h6 hcm
          go_wp2_with (at_builtin; refine Lib.wpList_append_run _ rfl _ _ _ _ rfl _ _ rfl rfl _ _ HR.out ?_)
          go_roundg (n - (k + 1))
          case measure => have := HLT.out; omega
          case rel => exact ⟨k + 1, v', rfl, HLT.out, by go_num, rfl, HCC.out, HKE.out⟩
      · have e6 : (s.kd : Int) % 6 = 3 := by omega
        have f0 : w1.cell? ⟨tb, 0, none⟩ = some (.int .u8 (s.kd : Int)) := HB1.out.cell 0
        obtain ⟨cm, hcm⟩ : ∃ cm, s.comp = cm := ⟨_, rfl⟩
        have f3 : w1.cell? ⟨tb, 3, none⟩ = some (.bool s.big) := HB1.out.cell 3
        have f4 : w1.cell? ⟨tb, 4, none⟩ = some (.bool cm) := hcm ▸ HB1.out.cell 4
        cases cm
        · have HE := Lib.hid (show getOf s = ⟨4, sz, s.big, false⟩ from by rw [HSZ.out]; simp [getOf, h6, hcm])
          obtain ⟨v', w5, hr, hcc, hkk⟩ := one_get w.heap.size w1 k v _ (Coll.kp HCL.out HK1.out) (by have := HK.out.size; have := HK1.out.size; omega) (getOf s) (by have := HLT.out; omega)
          have HR := Lib.hid (show (Builtin.append_ #[27, 27] 27 #[v, .slice (some ⟨w1.heap.size, 0, none⟩) 1 1]).run Tryd.prog (w1.alloc (.cells #[.int .i64 4, .int .i64 (sz : Int), .bool s.big, .bool false] 33)) = .ok v' w5 from by rw [HE.out] at hr; exact hr)
          have HCC := Lib.hid (HNX.out ▸ hcc)
          have HKE := Lib.hid (hkk w (HK.out.trans HK1.out) (Nat.le_refl _))
          clear hr hcc hkk h6 hcm
          go_wp2_with (at_builtin; refine Lib.wpList_append_run _ rfl _ _ _ _ rfl _ _ rfl rfl _ _ HR.out ?_)
          go_roundg (n - (k + 1))
          case measure => have := HLT.out; omega
          case rel => exact ⟨k + 1, v', rfl, HLT.out, by go_num, rfl, HCC.out, HKE.out⟩
        · by_cases h1 : 1 < sz
          · have m1 : (1 : Int) < (sz : Int) := by omega
            have HE := Lib.hid (show getOf s = ⟨4, sz, s.big, true⟩ from by rw [HSZ.out]; simp [getOf, h6, hcm, ← HSZ.out, h1])
            obtain ⟨v', w5, hr, hcc, hkk⟩ := one_get w.heap.size w1 k v _ (Coll.kp HCL.out HK1.out) (by have := HK.out.size; have := HK1.out.size; omega) (getOf s) (by have := HLT.out; omega)
            have HR := Lib.hid (show (Builtin.append_ #[27, 27] 27 #[v, .slice (some ⟨w1.heap.size, 0, none⟩) 1 1]).run Tryd.prog (w1.alloc (.cells #[.int .i64 4, .int .i64 (sz : Int), .bool s.big, .bool true] 33)) = .ok v' w5 from by rw [HE.out] at hr; exact hr)
            have HCC := Lib.hid (HNX.out ▸ hcc)
            have HKE := Lib.hid (hkk w (HK.out.trans HK1.out) (Nat.le_refl _))
            clear hr hcc hkk h6 hcm h1
            go_wp2_with (at_builtin; refine Lib.wpList_append_run _ rfl _ _ _ _ rfl _ _ rfl rfl _ _ HR.out ?_)
            go_roundg (n - (k + 1))
            case measure => have := HLT.out; omega
            case rel => exact ⟨k + 1, v', rfl, HLT.out, by go_num, rfl, HCC.out, HKE.out⟩
          · have m1 : (sz : Int) ≤ 1 := by omega
            have m2 : decide ((1 : Int) < (sz : Int)) = false := by simp; omega
            have HE := Lib.hid (show getOf s = ⟨4, sz, s.big, false⟩ from by rw [HSZ.out]; simp [getOf, h6, hcm, ← HSZ.out, h1])
            obtain ⟨v', w5, hr, hcc, hkk⟩ := one_get w.heap.size w1 k v _ (Coll.kp HCL.out HK1.out) (by have := HK.out.size; have := HK1.out.size; omega) (getOf s) (by have := HLT.out; omega)
            have HR := Lib.hid (show (Builtin.append_ #[27, 27] 27 #[v, .slice (some ⟨w1.heap.size, 0, none⟩) 1 1]).run Tryd.prog (w1.alloc (.cells #[.int .i64 4, .int .i64 (sz : Int), .bool s.big, .bool false] 33)) = .ok v' w5 from by rw [HE.out] at hr; exact hr)
            have HCC := Lib.hid (HNX.out ▸ hcc)
            have HKE := Lib.hid (hkk w (HK.out.trans HK1.out) (Nat.le_refl _))
            clear hr hcc hkk h6 hcm h1
            go_wp2_with (at_builtin; refine Lib.wpList_append_run _ rfl _ _ _ _ rfl _ _ rfl rfl _ _ HR.out ?_)
            go_roundg (n - (k + 1))
            case measure => have := HLT.out; omega
            case rel => exact ⟨k + 1, v', rfl, HLT.out, by go_num, rfl, HCC.out, HKE.out⟩
      · have e6 : (s.kd : Int) % 6 = 4 := by omega
        have f0 : w1.cell? ⟨tb, 0, none⟩ = some (.int .u8 (s.kd : Int)) := HB1.out.cell 0
        have HE := Lib.hid (show getOf s = ⟨6, 0, false, false⟩ from by simp [getOf, h6])
        obtain ⟨v', w5, hr, hcc, hkk⟩ := one_get w.heap.size w1 k v _ (Coll.kp HCL.out HK1.out) (by have := HK.out.size; have := HK1.out.size; omega) (getOf s) (by have := HLT.out; omega)
        have HR := Lib.hid (show (Builtin.append_ #[27, 27] 27 #[v, .slice (some ⟨w1.heap.size, 0, none⟩) 1 1]).run Tryd.prog (w1.alloc (.cells #[.int .i64 6, .int .i64 0, .bool false, .bool false] 33)) = .ok v' w5 from by rw [HE.out] at hr; exact hr)
        have HCC := Lib.hid (HNX.out ▸ hcc)
        have HKE := Lib.hid (hkk w (HK.out.trans HK1.out) (Nat.le_refl _))
        clear hr hcc hkk h6 
        go_wp2_with (at_builtin; refine Lib.wpList_append_run _ rfl _ _ _ _ rfl _ _ rfl rfl _ _ HR.out ?_)
        go_roundg (n - (k + 1))
        case measure => have := HLT.out; omega
        case rel => exact ⟨k + 1, v', rfl, HLT.out, by go_num, rfl, HCC.out, HKE.out⟩
      · have e6 : (s.kd : Int) % 6 = 5 := by omega
        have f0 : w1.cell? ⟨tb, 0, none⟩ = some (.int .u8 (s.kd : Int)) := HB1.out.cell 0
        have HE := Lib.hid (show getOf s = ⟨8, 0, false, false⟩ from by simp [getOf, h6])
        obtain ⟨v', w5, hr, hcc, hkk⟩ := one_get w.heap.size w1 k v _ (Coll.kp HCL.out HK1.out) (by have := HK.out.size; have := HK1.out.size; omega) (getOf s) (by have := HLT.out; omega)
        have HR := Lib.hid (show (Builtin.append_ #[27, 27] 27 #[v, .slice (some ⟨w1.heap.size, 0, none⟩) 1 1]).run Tryd.prog (w1.alloc (.cells #[.int .i64 8, .int .i64 0, .bool false, .bool false] 33)) = .ok v' w5 from by rw [HE.out] at hr; exact hr)
        have HCC := Lib.hid (HNX.out ▸ hcc)
        have HKE := Lib.hid (hkk w (HK.out.trans HK1.out) (Nat.le_refl _))
        clear hr hcc hkk h6 
        go_wp2_with (at_builtin; refine Lib.wpList_append_run _ rfl _ _ _ _ rfl _ _ rfl rfl _ _ HR.out ?_)
        go_roundg (n - (k + 1))
        case measure => have := HLT.out; omega
        case rel => exact ⟨k + 1, v', rfl, HLT.out, by go_num, rfl, HCC.out, HKE.out⟩
    · obtain rfl : k = n := by have := HKN.out; omega
      clear hlt
      go_wp2_with fail
      go_ret
      exact ⟨v, rfl, HCL.out, HK.out⟩
end Go.Proofs.YtgjfejalinkohaaDoor
