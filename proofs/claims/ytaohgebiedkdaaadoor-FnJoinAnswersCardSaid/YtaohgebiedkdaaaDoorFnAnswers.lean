/-
  FnJoinAnswers: the law returns true for every context and every list of lists of bytes.
-/
import Derived.Test.YtaohgebiedkdaaaDoorRowsIn
namespace Go.Proofs.YtaohgebiedkdaaaDoor
open Go Go.RowKit

def MarkOk (kd : Int) (w : World) (e : Ending) (w' : World) : Prop := e = .returned (.tuple #[.agg #[.int .u32 11, .int .u8 12, .int .u8 0, .int .u16 0], .int .u8 kd, .bool true]) ∧ Below w.heap.size w w'
theorem markRead_ok (c : Cx) (kd : Int) (h : 0 ≤ kd ∧ kd < 256) (q : Option Addr) (d : Nat) (w : World) (hi : Lib.BytesIn w q 11 (markL c.long kd)) : Calls Tryd.prog 35 #[c.val, .slice q 11 d] w (MarkOk kd w) := by
  have := markerRead_eleven c q d (markL c.long kd) w hi (by cases c.long <;> rfl) (markL_byte c.long kd h)
  generalize c.long = long at *
  cases long <;> exact this
theorem markL_at4 (long : Bool) (k : Int) : (markL long k).getD 4 0 = 12 := by cases long <;> rfl
theorem markL_len (long : Bool) (k : Int) : (markL long k).length = 11 := by cases long <;> rfl
theorem dataL_at4 (long : Bool) (len : Int) (xs : List Int) : (dataL long len xs).getD 4 0 = 6 := by cases long <;> rfl

set_option maxHeartbeats 8000000 in
set_option maxRecDepth 100000 in
theorem fnJoinAnswers_few (c : Cx) (a : Option Addr) (n cc : Nat) (A : Nat → Option Addr) (L C : Nat → Nat) (X : Nat → List Int) (w : World) (hr : RowsIn w a n A L C X) (hn : n ≤ 16) (hL : ∀ r, r < n → L r ≤ 2147483647) :
    Calls Tryd.prog 10 #[c.val, .slice a n cc] w fun e w' => e = .returned (.bool true) ∧ Below w.heap.size w w' := by
  have HZ := Lib.hid (fun w1 hk => zzFits9_yes a n cc A L C X w1 (hr.kp hk) (by omega) hL)
  have HR := Lib.hid hr
  have HL := Lib.hid hL
  have i0 : ((n : Nat) : Int) ≤ 16 := by omega
  have DB := Lib.hid (fun q m d ys w1 h hx hm => dataBytes_any c q m d ys w1 h hx hm)
  have MB := Lib.hid (fun kd w1 => markerBytes_any c kd w1)
  have MR := Lib.hid (fun kd hkd q d w1 h => markRead_ok c kd hkd q d w1 h)
  have DR0 : ∀ (m : Nat) (ys : List Int) (_ : ys.length = m) (_ : m ≤ 500) (_ : ∀ x ∈ ys, 0 ≤ x ∧ x < 256) (q : Option Addr) (d : Nat) (w1 : World), Lib.BytesIn w1 q (10 + m) (dataL c.long ((m : Int) + 10) ys) → Calls Tryd.prog 18 #[c.val, .slice q (10 + m) d] w1 (DRM ((m : Int) + 10) 0 0 m ys w1) := fun m ys hx hm hy q d w1 h => by
    obtain ⟨f1, f2, f3, f4, f5, f6, f7⟩ := dataL_facts c.long m ys hx (by omega) hy
    have := dataRead_ok c q (10 + m) d (dataL c.long ((m : Int) + 10) ys) w1 h f1 f2 (by omega) (by omega) f3
    rw [f4, f5, f7, show (if c.long = true then g32 (dataL c.long ((m : Int) + 10) ys) 0 else g16 (dataL c.long ((m : Int) + 10) ys) 0) = (m : Int) + 10 from f6, drm_eq] at this
    exact this
  have DR := Lib.hid DR0
  have DL := Lib.hid (fun (m : Nat) (ys : List Int) (hx : ys.length = m) (hm : m ≤ 500) (hy : ∀ x ∈ ys, 0 ≤ x ∧ x < 256) => (dataL_facts c.long m ys hx (by omega) hy).1)
  clear DR0 hr hL
  generalize hlong : c.long = long at *
  clear hlong
  unfold Cx.val at *
  go_enter Tryd.func10, Tryd.ntmps10
  go_wp2_with (go_at_call 33; refine (HZ.out _ (by exact (Kp.refl w).alloc _)).mono ?_; rintro e w1 ⟨rfl, rfl⟩)
  generalize hW : w.alloc (.cells #[.int .u16 c.v, .int .u16 c.lo, .int .u16 c.op, .int .u16 c.oo, .int .u16 c.hi, .int .u8 c.a0, .int .u8 c.a1, .int .u32 c.su, .int .u32 c.tu, .bool c.cp] 35) = W
  have HKB := Lib.hid (show Blk W w.heap.size 35 #[.int .u16 c.v, .int .u16 c.lo, .int .u16 c.op, .int .u16 c.oo, .int .u16 c.hi, .int .u8 c.a0, .int .u8 c.a1, .int .u32 c.su, .int .u32 c.tu, .bool c.cp] from hW ▸ Blk.new _ _ _)
  have HW0 := Lib.hid (show Below w.heap.size w W from hW ▸ (Below.refl _ w).alloc (Nat.le_refl _) _)
  have HKB0 := HKB
  have HRW := Lib.hid (HR.out.kp HW0.out)
  clear hW
  obtain ⟨b0, b1, b2, b3, b4, b5, b6, b7, b8, b9⟩ := cx_cells HKB.out
  have hlt := HKB.out.lt
  have hlt1 : w.heap.size < W.heap.size + 1 := by omega
  have hn1 := Nat.ne_of_lt hlt
  have hn2 := Nat.ne_of_gt hlt
  clear b0 b1 b2 b3 b4 b5 b6 b7 b8 b9 hlt hlt1 hn1 hn2
  go_loopg [25] n (fun g i wr => ∃ k : Nat, k ≤ n ∧ g = n - k ∧ i = .int .i64 k ∧ Kp W wr)
  case atStart => exact ⟨0, Nat.zero_le _, rfl, rfl, Kp.refl _⟩
  case round =>
    obtain ⟨k, hk, rfl, rfl, hkw⟩ := hrel
    have HWR := Lib.hid hkw
    clear hkw
    by_cases hlt : k < n
    · obtain ⟨b, o, rfl, hc, hin, hlen, hby, hlc, hcm⟩ := (HRW.out.kp HWR.out) k hlt
      have hm2 := HL.out k hlt
      have i2 : ((k : Nat) : Int) < (n : Int) := by omega
      generalize L k = m at *
      generalize C k = cp at *
      generalize A k = q at *
      generalize X k = ys at *
      have HIN := Lib.hid hin
      have HLN := Lib.hid hlen
      have HBY := Lib.hid hby
      have HC := Lib.hid hcm
      have i3 : ((m : Nat) : Int) ≤ 2147483647 := by omega
      clear hin hlen hby hcm
      have HKB := Lib.hid (HKB0.out.kp HWR.out)
      by_cases h5 : 500 < m
      · have i4 : (500 : Int) < ((m : Nat) : Int) := by omega
        go_wp2_with fail
        refine (packetAwake_any _).mono ?_
        rintro e w9 ⟨rfl, hb⟩
        have hk9 := Kp.call HWR.out hb
        have HF := Lib.hid (HW0.out.trans (hk9.below.mono HW0.out.size))
        clear hb hk9
        go_wp2_with fail
        go_ret
        exact ⟨rfl, HF.out⟩
      have i4 : ((m : Nat) : Int) ≤ 500 := by omega
      obtain ⟨b0, b1, b2, b3, b4, b5, b6, b7, b8, b9⟩ := cx_cells HKB.out
      have hlw := HKB.out.lt
      by_cases h1 : m = 1
      · subst h1
        obtain ⟨g, go, rfl, hcell⟩ := HIN.out (by omega)
        have e0 : wr.cell? ⟨g, go, none⟩ = some (.int .u8 (ys.getD 0 0)) := hcell 0 (by omega)
        have HX0 := Lib.hid (show 0 ≤ ys.getD 0 0 ∧ ys.getD 0 0 < 256 from getD_byte HBY.out 0)
        generalize ys.getD 0 0 = x0 at *
        clear hcell
        go_wp2_with fail
        go_region_held3 (fun w' => w'.cell? ⟨g, go, none⟩ = some (.int .u8 x0) ∧ w'.cell? ⟨w.heap.size, 0, none⟩ = some (.int .u16 c.v) ∧ w'.cell? ⟨w.heap.size, 1, none⟩ = some (.int .u16 c.lo) ∧ w'.cell? ⟨w.heap.size, 2, none⟩ = some (.int .u16 c.op) ∧ w'.cell? ⟨w.heap.size, 3, none⟩ = some (.int .u16 c.oo) ∧ w'.cell? ⟨w.heap.size, 4, none⟩ = some (.int .u16 c.hi) ∧ w'.cell? ⟨w.heap.size, 5, none⟩ = some (.int .u8 c.a0) ∧ w'.cell? ⟨w.heap.size, 6, none⟩ = some (.int .u8 c.a1) ∧ w'.cell? ⟨w.heap.size, 7, none⟩ = some (.int .u32 c.su) ∧ w'.cell? ⟨w.heap.size, 8, none⟩ = some (.int .u32 c.tu) ∧ w'.cell? ⟨w.heap.size, 9, none⟩ = some (.bool c.cp)) (first | with_reducible exact ⟨e1, cx_cells HKB.out⟩ | go_keep)
          (first | (go_at_call 34; refine (MB.out _ _).mono ?_; rintro e w1 ⟨g1, rfl, hov, hb⟩; have HQ1 := Lib.hid (bin_of_own hov); have e1 := below_some hb (a := ⟨g, go, none⟩) (v := .int .u8 x0) (by simp [*]); clear hov; obtain ⟨hcl1, hfz1⟩ := bcell hb; have HB1 := Lib.hid hb; have hsz1 := hb.size; (try simp only [World.size_drew] at hcl1 hfz1 hsz1); (try simp only [World.size_alloc] at hcl1 hfz1 hsz1); have hs1 : w.heap.size < w1.heap.size := (by omega); have ht1 : w.heap.size < w1.heap.size + 1 := (by omega); have hn1 := Nat.ne_of_lt hs1; have hm1 := Nat.ne_of_gt hs1; (try (have hx1_0 : wr.heap.size < w1.heap.size := (by omega))); have HKB := Lib.hid (show Blk w1 w.heap.size 35 #[.int .u16 c.v, .int .u16 c.lo, .int .u16 c.op, .int .u16 c.oo, .int .u16 c.hi, .int .u8 c.a0, .int .u8 c.a1, .int .u32 c.su, .int .u32 c.tu, .bool c.cp] from (by first | exact HKB.out.old hb | exact HKB.out.drew.old hb | exact (HKB.out.alloc _).old hb | exact (HKB.out.alloc _).drew.old hb)); clear hb))
        clear hcl1 hfz1 b0 b1 b2 b3 b4 b5 b6 b7 b8 b9 hlw
        have HK1 := Lib.hid (Kp.call HWR.out.drew HB1.out)
        have HE1 := Lib.hid e1
        have HKB1 := HKB
        have HW := Lib.hid (Kp.refl w1)
        clear e0 e1 hc
        obtain ⟨b0, b1, b2, b3, b4, b5, b6, b7, b8, b9⟩ := cx_cells HKB.out
        have hlt := HKB.out.lt
        have hlt1 : w.heap.size < w1.heap.size + 1 := by omega
        have hn1 := Nat.ne_of_lt hlt
        have hn2 := Nat.ne_of_gt hlt
        go_wp2_with fail
        go_cut [8, 9, 10] (fun s8 s9 s10 wx => s9 = .int .u8 x0 ∧ s10 = .bool true ∧ Kp w1 wx)
        case first =>
          go_region_held3 (fun w' => w'.cell? ⟨w.heap.size, 0, none⟩ = some (.int .u16 c.v) ∧ w'.cell? ⟨w.heap.size, 1, none⟩ = some (.int .u16 c.lo) ∧ w'.cell? ⟨w.heap.size, 2, none⟩ = some (.int .u16 c.op) ∧ w'.cell? ⟨w.heap.size, 3, none⟩ = some (.int .u16 c.oo) ∧ w'.cell? ⟨w.heap.size, 4, none⟩ = some (.int .u16 c.hi) ∧ w'.cell? ⟨w.heap.size, 5, none⟩ = some (.int .u8 c.a0) ∧ w'.cell? ⟨w.heap.size, 6, none⟩ = some (.int .u8 c.a1) ∧ w'.cell? ⟨w.heap.size, 7, none⟩ = some (.int .u32 c.su) ∧ w'.cell? ⟨w.heap.size, 8, none⟩ = some (.int .u32 c.tu) ∧ w'.cell? ⟨w.heap.size, 9, none⟩ = some (.bool c.cp)) (first | with_reducible exact cx_cells HKB.out | with_reducible exact cx_cells HKB.out.drew | with_reducible exact cx_cells (HKB.out.alloc _) | with_reducible exact cx_cells (HKB.out.alloc _).drew | go_keep)
            (first
              | (go_at_call 14; refine (clone_any _ _ _ _ (markL long x0) (bin_kp HQ1.out (by first | exact HW.out.drew | exact (HW.out.alloc _).drew | exact HW.out | exact HW.out.alloc _)) (markL_len _ _) (by decide)).mono ?_; rintro e w5 ⟨q5, d5, rfl, hown, hb⟩; have HQ5 := Lib.hid (bin_of_own hown); clear hown; obtain ⟨hcl5, hfz5⟩ := bcell hb; have HB5 := Lib.hid hb; have hsz5 := hb.size; (try simp only [World.size_drew] at hcl5 hfz5 hsz5); (try simp only [World.size_alloc] at hcl5 hfz5 hsz5); have hs5 : w.heap.size < w5.heap.size := (by omega); have ht5 : w.heap.size < w5.heap.size + 1 := (by omega); have hn5 := Nat.ne_of_lt hs5; have hm5 := Nat.ne_of_gt hs5; (try (have hx5_0 : w1.heap.size < w5.heap.size := (by omega))); (try (have hx5_1 : w1.heap.size < w5.heap.size := (by omega))); (try (have hx5_2 : w2.heap.size < w5.heap.size := (by omega))); (try (have hx5_3 : w3.heap.size < w5.heap.size := (by omega))); (try (have hx5_4 : w4.heap.size < w5.heap.size := (by omega))); have HKB := Lib.hid (show Blk w5 w.heap.size 35 #[.int .u16 c.v, .int .u16 c.lo, .int .u16 c.op, .int .u16 c.oo, .int .u16 c.hi, .int .u8 c.a0, .int .u8 c.a1, .int .u32 c.su, .int .u32 c.tu, .bool c.cp] from (by first | exact HKB.out.old hb | exact HKB.out.drew.old hb | exact (HKB.out.alloc _).old hb | exact (HKB.out.alloc _).drew.old hb)); clear hb)
              | (go_at_call 35; refine (MR.out _ HX0.out _ _ _ (by first | exact HQ5.out | exact bin_alloc HQ5.out _)).mono ?_; rintro e w6 ⟨rfl, hb⟩; obtain ⟨hcl6, hfz6⟩ := bcell hb; have HB6 := Lib.hid hb; have hsz6 := hb.size; (try simp only [World.size_drew] at hcl6 hfz6 hsz6); (try simp only [World.size_alloc] at hcl6 hfz6 hsz6); have hs6 : w.heap.size < w6.heap.size := (by omega); have ht6 : w.heap.size < w6.heap.size + 1 := (by omega); have hn6 := Nat.ne_of_lt hs6; have hm6 := Nat.ne_of_gt hs6; (try (have hx6_0 : w1.heap.size < w6.heap.size := (by omega))); (try (have hx6_1 : w1.heap.size < w6.heap.size := (by omega))); (try (have hx6_2 : w2.heap.size < w6.heap.size := (by omega))); (try (have hx6_3 : w3.heap.size < w6.heap.size := (by omega))); (try (have hx6_4 : w4.heap.size < w6.heap.size := (by omega))); (try (have hx6_5 : w5.heap.size < w6.heap.size := (by omega))); have HKB := Lib.hid (show Blk w6 w.heap.size 35 #[.int .u16 c.v, .int .u16 c.lo, .int .u16 c.op, .int .u16 c.oo, .int .u16 c.hi, .int .u8 c.a0, .int .u8 c.a1, .int .u32 c.su, .int .u32 c.tu, .bool c.cp] from (by first | exact HKB.out.old hb | exact HKB.out.drew.old hb | exact (HKB.out.alloc _).old hb | exact (HKB.out.alloc _).drew.old hb)); clear hb))
          all_goals
            clear hcl5 hfz5 hcl6 hfz6
            go_wp2_with fail
            go_meet
            refine ⟨rfl, rfl, ?_⟩
            repeat (first | with_reducible exact HW.out | with_reducible apply Kp.drew | with_reducible apply Kp.alloc | with_reducible refine Kp.call ?_ HB6.out | with_reducible refine Kp.call ?_ HB5.out | with_reducible refine Kp.set ?_ ?_ _)
            all_goals (have hz0 := Below.size HW.out; dsimp only; omega)
        case rest =>
          obtain ⟨rfl, rfl, hkw⟩ := hcut
          have HWN := Lib.hid hkw
          clear hkw HW HKB b0 b1 b2 b3 b4 b5 b6 b7 b8 b9 hlt hlt1 hn1 hn2
          have HW := HWN
          have HKB := Lib.hid (HKB1.out.kp HW.out)
          clear HWN
          obtain ⟨b0, b1, b2, b3, b4, b5, b6, b7, b8, b9⟩ := cx_cells HKB.out
          have hlt := HKB.out.lt
          have hlt1 : w.heap.size < wc.heap.size + 1 := by omega
          have hn1 := Nat.ne_of_lt hlt
          have hn2 := Nat.ne_of_gt hlt
          have e2 : wc.cell? ⟨g, go, none⟩ = some (.int .u8 x0) := (HW.out.below.cell (p := ⟨g, go, none⟩) (heap_lt_of_cell HE1.out)).trans HE1.out
          have e4 : wc.cell? ⟨g1, 4, none⟩ = some (.int .u8 12) := by
            have h := bin_cells (bin_kp HQ1.out HW.out) 4 (by omega)
            rw [markL_at4, Nat.zero_add] at h
            exact h
          clear b0 b1 b2 b3 b4 b5 b6 b7 b8 b9
          go_wp2_with fail
          go_roundg (n - (k + 1))
          case measure => omega
          case rel => exact ⟨k + 1, by omega, rfl, by go_num, HK1.out.trans HW.out⟩
      · have i5 : ¬ ((m : Nat) : Int) = 1 := by omega
        have i6 : (((m : Nat) : Int) == 1) = false := by simp; omega
        have hd4 := dataL_at4 long ((m : Int) + 10) ys
        have HD4 := Lib.hid hd4
        have HDL := Lib.hid (DL.out m ys HLN.out (by omega) HBY.out)
        clear hd4
        go_wp2_with fail
        go_region_held3 (fun w' => w'.cell? ⟨w.heap.size, 0, none⟩ = some (.int .u16 c.v) ∧ w'.cell? ⟨w.heap.size, 1, none⟩ = some (.int .u16 c.lo) ∧ w'.cell? ⟨w.heap.size, 2, none⟩ = some (.int .u16 c.op) ∧ w'.cell? ⟨w.heap.size, 3, none⟩ = some (.int .u16 c.oo) ∧ w'.cell? ⟨w.heap.size, 4, none⟩ = some (.int .u16 c.hi) ∧ w'.cell? ⟨w.heap.size, 5, none⟩ = some (.int .u8 c.a0) ∧ w'.cell? ⟨w.heap.size, 6, none⟩ = some (.int .u8 c.a1) ∧ w'.cell? ⟨w.heap.size, 7, none⟩ = some (.int .u32 c.su) ∧ w'.cell? ⟨w.heap.size, 8, none⟩ = some (.int .u32 c.tu) ∧ w'.cell? ⟨w.heap.size, 9, none⟩ = some (.bool c.cp)) (first | with_reducible exact cx_cells HKB.out | with_reducible exact cx_cells HKB.out.drew | with_reducible exact cx_cells (HKB.out.alloc _) | with_reducible exact cx_cells (HKB.out.alloc _).drew | go_keep)
          (first | (go_at_call 14; refine (clone_any _ _ _ _ ys (by exact HIN.out) HLN.out (by omega)).mono ?_; rintro e w1 ⟨q1, d1, rfl, hown, hb⟩; have HQ1 := Lib.hid (bin_of_own hown); clear hown; obtain ⟨hcl1, hfz1⟩ := bcell hb; have HB1 := Lib.hid hb; have hsz1 := hb.size; (try simp only [World.size_drew] at hcl1 hfz1 hsz1); (try simp only [World.size_alloc] at hcl1 hfz1 hsz1); have hs1 : w.heap.size < w1.heap.size := (by omega); have ht1 : w.heap.size < w1.heap.size + 1 := (by omega); have hn1 := Nat.ne_of_lt hs1; have hm1 := Nat.ne_of_gt hs1; (try (have hx1_0 : wr.heap.size < w1.heap.size := (by omega))); have HKB := Lib.hid (show Blk w1 w.heap.size 35 #[.int .u16 c.v, .int .u16 c.lo, .int .u16 c.op, .int .u16 c.oo, .int .u16 c.hi, .int .u8 c.a0, .int .u8 c.a1, .int .u32 c.su, .int .u32 c.tu, .bool c.cp] from (by first | exact HKB.out.old hb | exact HKB.out.drew.old hb | exact (HKB.out.alloc _).old hb | exact (HKB.out.alloc _).drew.old hb)); clear hb) | (go_at_call 17; refine (DB.out _ _ _ _ _ (by exact HQ1.out) HLN.out (by omega)).mono ?_; rintro e w2 ⟨v, rfl, hov, hb⟩; obtain ⟨g2, d2, rfl, hnd, hdm, hin⟩ := own_pos hov (by omega); have HQ2 := Lib.hid hin; clear hov hin hnd hdm; obtain ⟨hcl2, hfz2⟩ := bcell hb; have HB2 := Lib.hid hb; have hsz2 := hb.size; (try simp only [World.size_drew] at hcl2 hfz2 hsz2); (try simp only [World.size_alloc] at hcl2 hfz2 hsz2); have hs2 : w.heap.size < w2.heap.size := (by omega); have ht2 : w.heap.size < w2.heap.size + 1 := (by omega); have hn2 := Nat.ne_of_lt hs2; have hm2 := Nat.ne_of_gt hs2; (try (have hx2_0 : wr.heap.size < w2.heap.size := (by omega))); (try (have hx2_1 : w1.heap.size < w2.heap.size := (by omega))); have HKB := Lib.hid (show Blk w2 w.heap.size 35 #[.int .u16 c.v, .int .u16 c.lo, .int .u16 c.op, .int .u16 c.oo, .int .u16 c.hi, .int .u8 c.a0, .int .u8 c.a1, .int .u32 c.su, .int .u32 c.tu, .bool c.cp] from (by first | exact HKB.out.old hb | exact HKB.out.drew.old hb | exact (HKB.out.alloc _).old hb | exact (HKB.out.alloc _).drew.old hb)); clear hb))
        clear hcl1 hfz1 hcl2 hfz2 b0 b1 b2 b3 b4 b5 b6 b7 b8 b9 hlw
        have HK2 := Lib.hid (Kp.call (Kp.call HWR.out.drew HB1.out) HB2.out)
        have HKB1 := HKB
        have HW := Lib.hid (Kp.refl w2)
        have HIN2 := Lib.hid (bin_below (bin_below (w := wr.drew) HIN.out HB1.out) HB2.out)
        clear hc HIN
        obtain ⟨b0, b1, b2, b3, b4, b5, b6, b7, b8, b9⟩ := cx_cells HKB.out
        have hlt := HKB.out.lt
        have hlt1 : w.heap.size < w2.heap.size + 1 := by omega
        have hn1 := Nat.ne_of_lt hlt
        have hn2 := Nat.ne_of_gt hlt
        go_wp2_with fail
        go_cut [12, 13, 14, 15] (fun s12 s13 s14 s15 wx => ∃ r d, s14 = .slice r m d ∧ s15 = .bool true ∧ Lib.BytesIn wx r m ys ∧ Kp w2 wx)
        case first =>
          go_region_held3 (fun w' => w'.cell? ⟨w.heap.size, 0, none⟩ = some (.int .u16 c.v) ∧ w'.cell? ⟨w.heap.size, 1, none⟩ = some (.int .u16 c.lo) ∧ w'.cell? ⟨w.heap.size, 2, none⟩ = some (.int .u16 c.op) ∧ w'.cell? ⟨w.heap.size, 3, none⟩ = some (.int .u16 c.oo) ∧ w'.cell? ⟨w.heap.size, 4, none⟩ = some (.int .u16 c.hi) ∧ w'.cell? ⟨w.heap.size, 5, none⟩ = some (.int .u8 c.a0) ∧ w'.cell? ⟨w.heap.size, 6, none⟩ = some (.int .u8 c.a1) ∧ w'.cell? ⟨w.heap.size, 7, none⟩ = some (.int .u32 c.su) ∧ w'.cell? ⟨w.heap.size, 8, none⟩ = some (.int .u32 c.tu) ∧ w'.cell? ⟨w.heap.size, 9, none⟩ = some (.bool c.cp)) (first | with_reducible exact cx_cells HKB.out | with_reducible exact cx_cells HKB.out.drew | with_reducible exact cx_cells (HKB.out.alloc _) | with_reducible exact cx_cells (HKB.out.alloc _).drew | go_keep)
            (first
              | (go_at_call 14; refine (clone_any _ _ _ _ (dataL long ((m : Int) + 10) ys) (bin_kp HQ2.out (by first | exact HW.out.drew | exact (HW.out.alloc _).drew | exact HW.out | exact HW.out.alloc _)) HDL.out (by omega)).mono ?_; rintro e w5 ⟨q5, d5, rfl, hown, hb⟩; have HQ5 := Lib.hid (bin_of_own hown); clear hown; obtain ⟨hcl5, hfz5⟩ := bcell hb; have HB5 := Lib.hid hb; have hsz5 := hb.size; (try simp only [World.size_drew] at hcl5 hfz5 hsz5); (try simp only [World.size_alloc] at hcl5 hfz5 hsz5); have hs5 : w.heap.size < w5.heap.size := (by omega); have ht5 : w.heap.size < w5.heap.size + 1 := (by omega); have hn5 := Nat.ne_of_lt hs5; have hm5 := Nat.ne_of_gt hs5; (try (have hx5_0 : w2.heap.size < w5.heap.size := (by omega))); (try (have hx5_1 : w1.heap.size < w5.heap.size := (by omega))); (try (have hx5_2 : w2.heap.size < w5.heap.size := (by omega))); (try (have hx5_3 : w3.heap.size < w5.heap.size := (by omega))); (try (have hx5_4 : w4.heap.size < w5.heap.size := (by omega))); have HKB := Lib.hid (show Blk w5 w.heap.size 35 #[.int .u16 c.v, .int .u16 c.lo, .int .u16 c.op, .int .u16 c.oo, .int .u16 c.hi, .int .u8 c.a0, .int .u8 c.a1, .int .u32 c.su, .int .u32 c.tu, .bool c.cp] from (by first | exact HKB.out.old hb | exact HKB.out.drew.old hb | exact (HKB.out.alloc _).old hb | exact (HKB.out.alloc _).drew.old hb)); clear hb)
              | (go_at_call 18; refine (DR.out m ys HLN.out (by omega) HBY.out _ _ _ (by first | exact HQ5.out | exact bin_alloc HQ5.out _)).mono ?_; rintro e w6 ⟨q6, d6, rfl, hown, hb⟩; have HO6 := Lib.hid hown; clear hown; obtain ⟨hcl6, hfz6⟩ := bcell hb; have HB6 := Lib.hid hb; have hsz6 := hb.size; (try simp only [World.size_drew] at hcl6 hfz6 hsz6); (try simp only [World.size_alloc] at hcl6 hfz6 hsz6); have hs6 : w.heap.size < w6.heap.size := (by omega); have ht6 : w.heap.size < w6.heap.size + 1 := (by omega); have hn6 := Nat.ne_of_lt hs6; have hm6 := Nat.ne_of_gt hs6; (try (have hx6_0 : w2.heap.size < w6.heap.size := (by omega))); (try (have hx6_1 : w1.heap.size < w6.heap.size := (by omega))); (try (have hx6_2 : w2.heap.size < w6.heap.size := (by omega))); (try (have hx6_3 : w3.heap.size < w6.heap.size := (by omega))); (try (have hx6_4 : w4.heap.size < w6.heap.size := (by omega))); (try (have hx6_5 : w5.heap.size < w6.heap.size := (by omega))); have HKB := Lib.hid (show Blk w6 w.heap.size 35 #[.int .u16 c.v, .int .u16 c.lo, .int .u16 c.op, .int .u16 c.oo, .int .u16 c.hi, .int .u8 c.a0, .int .u8 c.a1, .int .u32 c.su, .int .u32 c.tu, .bool c.cp] from (by first | exact HKB.out.old hb | exact HKB.out.drew.old hb | exact (HKB.out.alloc _).old hb | exact (HKB.out.alloc _).drew.old hb)); clear hb))
          all_goals
            clear hcl5 hfz5 hcl6 hfz6
            go_wp2_with fail
            go_meet
            refine ⟨_, _, rfl, rfl, ?hin, ?_⟩
            case hin => first | with_reducible exact bin_alloc (bin_of_own HO6.out) _ | (with_reducible refine bin_of_own (own_set4 HO6.out ?_ _ _ _ _); first | omega | (simp only [World.size_alloc]; omega))
            repeat (first | with_reducible exact HW.out | with_reducible apply Kp.drew | with_reducible apply Kp.alloc | with_reducible refine Kp.call ?_ HB6.out | with_reducible refine Kp.call ?_ HB5.out | with_reducible refine Kp.set ?_ ?_ _)
            all_goals (have hz0 := Below.size HW.out; dsimp only; omega)
        case rest =>
          obtain ⟨r, d, rfl, rfl, hgot, hkw⟩ := hcut
          have HG := Lib.hid hgot
          clear hgot
          have HWN := Lib.hid hkw
          clear hkw HW HKB b0 b1 b2 b3 b4 b5 b6 b7 b8 b9 hlt hlt1 hn1 hn2
          have HW := HWN
          have HKB := Lib.hid (HKB1.out.kp HW.out)
          clear HWN
          obtain ⟨b0, b1, b2, b3, b4, b5, b6, b7, b8, b9⟩ := cx_cells HKB.out
          have hlt := HKB.out.lt
          have hlt1 : w.heap.size < wc.heap.size + 1 := by omega
          have hn1 := Nat.ne_of_lt hlt
          have hn2 := Nat.ne_of_gt hlt
          have e4 : wc.cell? ⟨g2, 4, none⟩ = some (.int .u8 6) := by
            have h := bin_cells (bin_kp HQ2.out HW.out) 4 (by omega)
            rw [HD4.out, Nat.zero_add] at h
            exact h
          clear b0 b1 b2 b3 b4 b5 b6 b7 b8 b9
          have i7 : (4 : Int) < 10 + ((m : Nat) : Int) := by omega
          have i8 : (5 : Int) ≤ 10 + ((m : Nat) : Int) := by omega
          go_wp2_with (go_at_call 19; refine (bytes_equal_same _ _ _ _ _ _ ys HLN.out HG.out (bin_kp HIN2.out HW.out)).mono ?_; rintro e w8 ⟨rfl, rfl⟩)
          go_roundg (n - (k + 1))
          case measure => omega
          case rel => exact ⟨k + 1, by omega, rfl, by go_num, HK2.out.trans HW.out⟩
    · go_wp2_with fail
      refine (packetAwake_any _).mono ?_
      rintro e w9 ⟨rfl, hb⟩
      have hk9 := Kp.call HWR.out hb
      have HF := Lib.hid (HW0.out.trans (hk9.below.mono HW0.out.size))
      clear hb hk9
      go_wp2_with fail
      go_ret
      exact ⟨rfl, HF.out⟩

theorem fnJoinAnswers_any (c : Cx) (a : Option Addr) (n cc : Nat) (A : Nat → Option Addr) (L C : Nat → Nat) (X : Nat → List Int) (w : World) (hr : RowsIn w a n A L C X) (hmax : n ≤ maxLen) :
    Calls Tryd.prog 10 #[c.val, .slice a n cc] w fun e w' => e = .returned (.bool true) ∧ Below w.heap.size w w' := by
  by_cases hf : 2147483647 < n ∨ ∃ r, r < n ∧ 2147483647 < L r
  · have HZ := Lib.hid (fun w1 hk => zzFits9_no a n cc A L C X w1 (hr.kp hk) hmax hf)
    clear hr hf hmax
    unfold Cx.val
    go_enter Tryd.func10, Tryd.ntmps10
    go_wp2_with (go_at_call 33; refine (HZ.out _ (by exact (Kp.refl w).alloc _)).mono ?_; rintro e w1 ⟨rfl, rfl⟩)
    go_ret
    exact ⟨rfl, (Below.refl _ w).alloc (Nat.le_refl _) _⟩
  · have hL : ∀ r, r < n → L r ≤ 2147483647 := fun r h => by
      rcases Nat.lt_or_ge 2147483647 (L r) with h1 | h1
      · exact absurd (Or.inr ⟨r, h, h1⟩) hf
      · exact h1
    have hn : n ≤ 2147483647 := by
      rcases Nat.lt_or_ge 2147483647 n with h1 | h1
      · exact absurd (Or.inl h1) hf
      · exact h1
    by_cases h16 : n ≤ 16
    · exact fnJoinAnswers_few c a n cc A L C X w hr h16 hL
    · have HZ := Lib.hid (fun w1 hk => zzFits9_yes a n cc A L C X w1 (hr.kp hk) hn hL)
      have i0 : (16 : Int) < (n : Int) := by omega
      clear hr hf hmax hL hn h16
      unfold Cx.val
      go_enter Tryd.func10, Tryd.ntmps10
      go_wp2_with (first | (go_at_call 33; refine (HZ.out _ (by exact (Kp.refl w).alloc _)).mono ?_; rintro e w1 ⟨rfl, rfl⟩) | (go_at_call 12; refine (packetAwake_any _).mono ?_; rintro e w3 ⟨rfl, hb⟩; have HB3 := Lib.hid (((Below.refl _ w).alloc (Nat.le_refl _) _).trans (hb.mono (by simp))); clear hb))
      go_ret
      exact ⟨rfl, HB3.out⟩
end Go.Proofs.YtaohgebiedkdaaaDoor
