/-
  The reference's reader: slices.Clone of bytes, number, packed.
-/
import Derived.Test.YtacmnibhdmeidaaDoorRdr0
import Derived.Test.YtacmnibhdmeidaaDoorSes17
import Derived.Laws.BitsAllLaws
import Derived.LoopN
import Derived.Lib.SliceRun
namespace Go.Proofs.YtacmnibhdmeidaaDoor
open Go Go.RowKit

set_option maxRecDepth 100000 in
set_option maxHeartbeats 1000000 in
/-- slices.Clone of bytes. -/
theorem sclone_any (w : World) (q : Option Addr) (m d : Nat) (ys : List Int) (hi : Lib.BytesIn w q m ys) (hy : ys.length = m) (hm : m ≤ 1000000) (hq : q = none → m = 0 ∧ d = 0) :
    Calls Tryd.prog 31 #[.slice q m d] w fun e w' => ∃ q' d', e = .returned (.slice q' m d') ∧ w'.ownsRow w.heap.size 5 1 (.slice q' m d') m (ys.map (Value.int .u8)) ∧ Kp w w' := by
  have HI := Lib.hid hi
  have HY := Lib.hid hy
  have HM := Lib.hid hm
  have q22 : ∀ (w : World) (a : Option Addr) (n c n' c' : Nat), (binOp .eql 26 (.slice a n c) (.slice none n' c')).run Tryd.prog w = .ok (.bool a.isNone) w := fun w a n c n' c' => Lib.run_eql_slice_nil w _ _ a n c n' c' Tryd.underlying26
  clear hi hy hm
  cases q with
  | none =>
    obtain ⟨rfl, rfl⟩ := hq rfl
    have hy0 : ys = [] := List.eq_nil_of_length_eq_zero HY.out
    subst hy0
    go_enter Tryd.func31, Tryd.ntmps31
    go_wp2_with fail
    go_ret
    exact ⟨none, 0, rfl, World.ownsRow_nil _ _ _ _, Kp.refl w⟩
  | some a =>
    have hown : (w.alloc (.cells #[] 5)).ownsRow w.heap.size 5 1 (.slice (some ⟨w.heap.size, 0, none⟩) 0 0) 0 (([] : List Int).map (Value.int .u8)) := by
      exact own_new w [] _ (by simp [maxLen])
    obtain ⟨v', w', hrun, hov, hgr, _⟩ := run_append_bytes (w.alloc (.cells #[] 5)) w.heap.size _ 0 [] hown (some a) m d ys (bin_alloc HI.out _) HY.out (by have := HM.out; omega) (by simp)
    have HR := Lib.hid hrun
    have HK := Lib.hid (show Kp w w' from ((Kp.refl w).alloc _).grown hgr (own_ge hown))
    obtain ⟨q', d', rfl, _⟩ := bin_own hov
    have HO := Lib.hid hov
    clear hrun hov hgr hown hq
    go_enter Tryd.func31, Tryd.ntmps31
    go_wp2_with (at_builtin; refine Lib.wpList_append_run _ rfl _ _ _ _ rfl _ _ rfl rfl _ _ HR.out ?_)
    go_ret
    have h := HO.out
    rw [Nat.zero_add] at h
    exact ⟨q', d', rfl, h, HK.out⟩

/-- What number gives. -/
def NumP (R : Nat) (p : Option Addr) (l : List Int) (t o : Bool) (size : Nat) (big : Bool) (w : World) (e : Ending) (w' : World) : Prop :=
  ∃ v p' n' c' l' t', e = .returned (.int .u64 v) ∧ Rd w' R p' n' c' l' t' o ∧ w.grownBy w' (some R) ∧ Sub p p' ∧ 0 ≤ v ∧ v < 18446744073709551616 ∧ l'.length ≤ l.length ∧
    (t' = true ∨ t' = false ∧ t = false ∧ o = false ∧ size ≤ l.length ∧ v = valB big (l.take size) ∧ l' = l.drop size)
theorem leZ_take_succ (ys : List Int) (k : Nat) (h : k < ys.length) : Lib.leZ (ys.take (k + 1)) = Lib.leZ (ys.take k) + ys.getD k 0 * (256 : Int) ^ k := by
  rw [List.take_succ_eq_append_getElem h, leZ_snoc]
  rw [show (ys.take k).length = k from by simp; omega]
  rw [List.getD_eq_getElem?_getD, List.getElem?_eq_getElem h]
  rfl
theorem getDb {xs : List Int} (h : ∀ x ∈ xs, 0 ≤ x ∧ x < 256) (i : Nat) : 0 ≤ xs.getD i 0 ∧ xs.getD i 0 < 256 := by
  rcases Nat.lt_or_ge i xs.length with hl | hl
  · rw [List.getD_eq_getElem?_getD, List.getElem?_eq_getElem hl]; exact h _ (List.getElem_mem hl)
  · rw [List.getD_eq_getElem?_getD, List.getElem?_eq_none hl]; exact ⟨by decide, by decide⟩
theorem or_pow (a x k : Nat) (ha : a < 256 ^ k) (hx : x < 256) (hk : k < 8) : bits .or .u64 (a : Int) ((x * 256 ^ k : Nat) : Int) = ((a + x * 256 ^ k : Nat) : Int) := by
  have h8 : 256 ^ k = 2 ^ (8 * k) := by rw [Nat.pow_mul]
  have hb : 256 ^ (k + 1) ≤ 256 ^ 8 := Nat.pow_le_pow_right (by omega) (by omega)
  have h1 : x * 256 ^ k < 256 ^ (k + 1) := by rw [Nat.pow_succ, Nat.mul_comm (256 ^ k)]; exact Nat.mul_lt_mul_of_pos_right hx (Nat.pow_pos (by omega))
  have h2 : 256 ^ k ≤ 256 ^ (k + 1) := Nat.pow_le_pow_right (by omega) (by omega)
  rw [u64_or_nat a (x * 256 ^ k) (by omega) (by omega)]
  rw [Nat.or_comm, h8, Nat.mul_comm x, ← Nat.two_pow_add_eq_or_of_lt (by rw [← h8]; exact ha), Nat.add_comm]

theorem grown_new {a b c : World} {R : Nat} {r : Option Nat} (h : a.grownBy b (some R)) (k : b.grownBy c r) (hr : ∀ x, r = some x → a.heap.size ≤ x) : a.grownBy c (some R) :=
  ⟨k.os.trans h.os, k.tape.trans h.tape, k.output.trans h.output, Nat.le_trans h.size k.size, fun i hi hne => (k.block i (Nat.lt_of_lt_of_le hi h.size) (fun e => by have := hr i e.symm; omega)).trans (h.block i hi hne)⟩
def NumMid (w : World) (R : Nat) (p' : Option Addr) (n' c' : Nat) (l' : List Int) (t' o big : Bool) (q2 : Option Addr) (m : Nat) (ys : List Int) (wx : World) : Prop :=
  ∃ zs, Lib.BytesIn wx q2 m zs ∧ zs.length = m ∧ (∀ x ∈ zs, 0 ≤ x ∧ x < 256) ∧ Lib.leZ zs = valB big ys ∧ Rd wx R p' n' c' l' t' o ∧ w.grownBy wx (some R)
theorem reverse_zero (q : Option Addr) (d : Nat) (w : World) : Calls Tryd.prog 48 #[.slice q 0 d] w fun e w' => e = .returned (.tuple #[]) ∧ Kp w w' := by
  go_enter Tryd.func48, Tryd.ntmps48
  go_wp2_with fail
  refine wp_loop_rounds 1 ?_
  rw [rounds_succ]
  go_wp2
  go_end0
  exact ⟨rfl, Kp.refl w⟩
set_option maxRecDepth 100000 in
set_option maxHeartbeats 4000000 in
theorem number_any (R : Nat) (p : Option Addr) (n c : Nat) (l : List Int) (t o : Bool) (size : Nat) (big : Bool) (w : World) (h : Rd w R p n c l t o) (hs : size ≤ 8) :
    Calls Tryd.prog 29 #[.pointer (some ⟨R, 0, none⟩), .int .i64 (size : Int), .bool big] w (NumP R p l t o size big w) := by
  have C := Lib.hid (take_any R p n c l t o (size : Int) w h)
  have hRw := h.blk.lt
  have HS := Lib.hid hs
  clear h hs
  go_enter Tryd.func29, Tryd.ntmps29
  go_wp2_with fail
  refine C.out.mono ?_
  rintro e w1 ⟨q, m, d, p', n', c', l', t', ys, rfl, hrd, hg, hin, hys, hmd, hdm, hfar, hq, hyb, hll, hsz, hsub, hres⟩
  have hm8 : m ≤ 8 := by
    rcases hres with ⟨_, rfl, _⟩ | ⟨_, _, _, kn, hk, _, rfl, _⟩
    · simp at hys; omega
    · have := HS.out; rw [List.length_take] at hys; omega
  have HRD := Lib.hid hrd
  have HG := Lib.hid hg
  have HIN := Lib.hid hin
  have HYS := Lib.hid hys
  have HYB := Lib.hid hyb
  have HRES := Lib.hid hres
  have HLL := Lib.hid hll
  have HSZ := Lib.hid hsz
  have HM8 := Lib.hid hm8
  have HSUB := Lib.hid hsub
  clear hrd hg hin hys hmd hdm hfar hyb hll hsz hsub hres hm8 C
  go_wp2_with fail
  refine (sclone_any w1 q m d ys HIN.out HYS.out (by have := HM8.out; omega) hq).mono ?_
  rintro e w2 ⟨q2, d2, rfl, hown, hk2⟩
  have HO := Lib.hid hown
  have HK2 := Lib.hid hk2
  have HRD2 := Lib.hid (HRD.out.kp hk2)
  have HOLD := Lib.hid HRD.out.old
  clear hown hk2 HRD HIN hq
  have HG2 := Lib.hid (grown_trans HG.out (grown_below HK2.out _))
  clear HG
  go_upto_if 15 with fail
  go_cut [7] (fun s7 wx => s7 = .slice q2 m d2 ∧ NumMid w R p' n' c' l' t' o big q2 m ys wx)
  case first =>
    cases big with
    | false =>
      go_wp2_with fail
      go_meet
      exact ⟨rfl, ys, bin_of_own HO.out, HYS.out, HYB.out, rfl, HRD2.out, HG2.out⟩
    | true =>
      rcases Nat.eq_zero_or_pos m with h0 | h0
      · subst h0
        have hy0 : ys = [] := List.eq_nil_of_length_eq_zero HYS.out
        go_wp2_with fail
        refine (reverse_zero q2 d2 w2).mono ?_
        rintro e w3 ⟨rfl, hk3⟩
        have HK3 := Lib.hid hk3
        clear hk3
        go_wp2_with fail
        go_meet
        exact ⟨rfl, [], Lib.BytesIn.nil _ _ _, rfl, (fun _ h => by cases h), by rw [hy0]; rfl, HRD2.out.kp HK3.out, grown_trans HG2.out (grown_below HK3.out _)⟩
      · go_wp2_with fail
        refine (reverse_own w2 w1.heap.size _ m ys HO.out HYS.out h0 (by have := HM8.out; omega)).mono ?_
        rintro e w3 ⟨rfl, hown3, hg3⟩
        have hRlt : R < w1.heap.size := by rw [HSZ.out]; exact hRw
        have HN := Lib.hid (show ∀ k, (Value.slice q2 m d2).ownBlock = some k → w1.heap.size ≤ k from own_ge HO.out)
        have HO3 := Lib.hid hown3
        have HG3 := Lib.hid hg3
        clear hown3 hg3
        go_wp2_with fail
        go_meet
        refine ⟨rfl, ys.reverse, bin_of_own HO3.out, by simp [HYS.out], fun x hx => HYB.out x (by simpa using hx), by simp [valB, beZ_leZ], HRD2.out.grown HG3.out (fun k hk => .inr ⟨fun e => by have := HN.out k hk; omega, fun a ha => by obtain ⟨b, o, rfl, h1, _⟩ := HOLD.out a ha; have := HN.out k hk; dsimp only; omega⟩), grown_new HG2.out HG3.out (fun k hk => by have := HN.out k hk; have := HSZ.out; omega)⟩
  case rest =>
    obtain ⟨rfl, zs, hin, hzl, hzb, hzv, hrd, hg⟩ := hcut
    have HIN := Lib.hid hin
    have HZL := Lib.hid hzl
    have HZB := Lib.hid hzb
    have HZV := Lib.hid hzv
    have HRD3 := Lib.hid hrd
    have HG3 := Lib.hid hg
    have j1 : (m : Int) ≤ 8 := by have := HM8.out; omega
    clear hin hzl hzb hzv hrd hg HO HK2 HRD2 HOLD HG2
    go_wp2_with fail
    go_loopg [20, 8] m (fun G st so wr => ∃ k : Nat, G = m - k ∧ k ≤ m ∧ st = .int .i64 (k : Int) ∧ so = .int .u64 (Lib.leZ (zs.take k)) ∧ wr = wc)
    case atStart => exact ⟨0, rfl, Nat.zero_le _, rfl, rfl, rfl⟩
    case round =>
      obtain ⟨k, rfl, hk, rfl, rfl, rfl⟩ := hrel
      have HK := Lib.hid hk
      have j2 : (0 : Int) ≤ (k : Int) := by omega
      have j3 : (k : Int) ≤ (m : Int) := by omega
      have hrg := leZ_range (zs.take k) (fun x hx => HZB.out x (List.mem_of_mem_take hx))
      obtain ⟨a, ha⟩ := Int.eq_ofNat_of_zero_le hrg.1
      have HA := Lib.hid ha
      have HRG := Lib.hid hrg.2
      rw [ha]
      by_cases hlt : k < m
      · obtain ⟨b, o1, rfl, hc⟩ := HIN.out (by omega)
        have d0 := hc k hlt
        have hxb := getDb HZB.out k
        obtain ⟨x, hx⟩ := Int.eq_ofNat_of_zero_le hxb.1
        rw [hx] at d0
        have HX := Lib.hid hx
        have hx2 : x < 256 := by omega
        have j4 : (x : Int) < 256 := by omega
        have j5 : (0 : Int) ≤ (x : Int) := by omega
        have j6 : (k : Int) < (m : Int) := by omega
        have j7 : (0 : Int) ≤ (a : Int) := by omega
        have HLT := Lib.hid hlt
        clear hc hxb hx ha hrg hk
        have hk8 : k < 8 := by have := HM8.out; omega
        go_wp2_with fail
        have hnew : bits .or .u64 (a : Int) (IntKind.u64.wrap ((x : Int) * 2 ^ (8 * k))) = Lib.leZ (zs.take (k + 1)) := by
          have hpw : 256 ^ k = 2 ^ (8 * k) := by rw [Nat.pow_mul]
          have hkl : (zs.take k).length = k := by rw [List.length_take, HZL.out]; omega
          have h1 : a < 256 ^ k := by have h := HRG.out; rw [HA.out, hkl] at h; exact_mod_cast h
          have h2 : 256 ^ k * 256 ≤ 256 ^ 8 := by rw [← Nat.pow_succ]; exact Nat.pow_le_pow_right (by omega) (by omega)
          have h3 : x * 256 ^ k < 18446744073709551616 := Nat.lt_of_lt_of_le (Nat.mul_lt_mul_of_pos_right hx2 (Nat.pow_pos (by omega))) (by rw [Nat.mul_comm]; exact h2)
          have h4 : ((x : Int) * 2 ^ (8 * k)) = ((x * 256 ^ k : Nat) : Int) := by rw [hpw]; push_cast; rfl
          rw [h4, IntKind.wrap_u64, Int.emod_eq_of_lt (by omega) (by omega), or_pow a x k h1 hx2 hk8, leZ_take_succ zs k (by rw [HZL.out]; exact HLT.out), HA.out, HX.out]
          push_cast
          rfl
        rw [hnew]
        go_roundg (m - (k + 1))
        case measure => have := HLT.out; omega
        case rel => exact ⟨k + 1, rfl, HLT.out, by go_num, rfl, rfl⟩
      · obtain rfl : k = m := by omega
        clear ha hrg hk hlt
        go_wp2_with fail
        go_ret
        have hv : Lib.leZ (zs.take k) = valB big ys := by rw [List.take_of_length_le (by rw [HZL.out]; exact Nat.le_refl _)]; exact HZV.out
        have hb := HRG.out
        have hl8 : (zs.take k).length ≤ 8 := by rw [List.length_take]; have := HM8.out; omega
        have hp8 : (256 : Int) ^ (zs.take k).length ≤ 256 ^ 8 := by exact_mod_cast Nat.pow_le_pow_right (show 0 < 256 by omega) hl8
        rw [HA.out] at hv hb
        refine ⟨(a : Int), p', n', c', l', t', rfl, HRD3.out, HG3.out, HSUB.out, by omega, by omega, HLL.out, ?_⟩
        rcases HRES.out with ⟨h1, _⟩ | ⟨h1, h2, h3, kn, h4, h5, h6, h7⟩
        · exact .inl h1
        · obtain rfl : size = kn := by omega
          exact .inr ⟨h1, h2, h3, h5, by rw [hv, h6], h7⟩
end Go.Proofs.YtacmnibhdmeidaaDoor
