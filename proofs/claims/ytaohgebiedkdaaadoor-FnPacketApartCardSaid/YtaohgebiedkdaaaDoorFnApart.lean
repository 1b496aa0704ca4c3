/-
  FnPacketApart: the law returns true for every context, kind, list of bytes and string.
-/
import Derived.Test.YtaohgebiedkdaaaDoorConn2
import Derived.Test.YtaohgebiedkdaaaDoorSpecConn
import Derived.Test.YtaohgebiedkdaaaDoorKeep
namespace Go.Proofs.YtaohgebiedkdaaaDoor
open Go Go.RowKit

def NoMark (w : World) (e : Ending) (w' : World) : Prop := e = .returned (.tuple #[.agg #[.int .u32 0, .int .u8 0, .int .u8 0, .int .u16 0], .int .u8 0, .bool false]) ∧ Below w.heap.size w w'
theorem noMark_of {ok : Bool} (h : ok = false) (len x4 x5 k : Int) (w : World) : MarkReadV ok len x4 x5 k w = NoMark w := by subst h; rfl

theorem connAx_four (long : Bool) (v lo op oo n1 n2 su tu len m : Int) (ys : List Int) : (connAx long v lo op oo n1 n2 su tu len m ++ ys).getD 4 0 = 1 := by
  cases long
  · kernel_rfl
  · kernel_rfl
theorem connL_four (c : Cx) (s : ByteArray) : (connL c s).getD 4 0 = 1 := connAx_four c.long c.v c.lo c.op c.oo (min c.su 65535) (min c.tu 65535) c.su c.tu (connLen s.size) s.size _
theorem dataL_four (long : Bool) (len : Int) (xs : List Int) : (dataL long len xs).getD 4 0 = 6 := by cases long <;> rfl
theorem markL_four (long : Bool) (k : Int) : (markL long k).getD 4 0 = 12 := by cases long <;> rfl
theorem markL_length (long : Bool) (k : Int) : (markL long k).length = 11 := by cases long <;> rfl

theorem apart_mark (c : Cx) (n : Nat) (xs : List Int) (hx : xs.length = n) (hn : n ≤ 1000) (hr : ∀ x ∈ xs, 0 ≤ x ∧ x < 256) (q : Option Addr) (d : Nat) (w : World) (h : Lib.BytesIn w q (10 + n) (dataL c.long ((n : Int) + 10) xs)) :
    Calls Tryd.prog 35 #[c.val, .slice q (10 + n) d] w (NoMark w) := by
  obtain ⟨f1, f2, _⟩ := dataL_facts c.long n xs hx (by omega) hr
  by_cases h1 : n = 1
  · subst h1
    have := markerRead_eleven c q d _ w h f1 f2
    rwa [noMark_of (by rw [dataL_four]; rfl)] at this
  · exact markerRead_len c q (10 + n) d _ w h f1 (by omega) (by omega)

set_option maxHeartbeats 8000000 in
set_option maxRecDepth 100000 in
theorem fnPacketApart_few (c : Cx) (kd : Int) (p : Option Addr) (n k : Nat) (xs : List Int) (s : ByteArray) (w : World) (ok : c.Ok) (hi : Lib.BytesIn w p n xs) (hx : xs.length = n) (hr : ∀ x ∈ xs, 0 ≤ x ∧ x < 256) (hn : n ≤ 1000) (hm : s.size ≤ 200) :
    Calls Tryd.prog 11 #[c.val, .int .u8 kd, .slice p n k, .string s] w fun e w' => e = .returned (.bool true) ∧ Below w.heap.size w w' := by
  have i0 : ((s.size : Nat) : Int) ≤ 200 := by omega
  have i1 : ((n : Nat) : Int) ≤ 1000 := by omega
  have DB := Lib.hid (fun q d w1 h => dataBytes_any c q n d xs w1 h hx (by omega))
  have MD := Lib.hid (fun q d w1 h => apart_mark c n xs hx hn hr q d w1 h)
  have MB := Lib.hid (fun w1 => markerBytes_any c kd w1)
  have DM := Lib.hid (fun (q : Option Addr) (d : Nat) (w1 : World) (h : Lib.BytesIn w1 q 11 (markL c.long kd)) => dataRead_other c q 11 d (markL c.long kd) w1 h (markL_length _ _) (by decide) (by decide) (by rw [markL_four]; decide))
  have CB := Lib.hid (fun w1 => connectBytes_any c s w1 ok (by omega))
  have hk : 70 ≤ (70 + if s.size ≤ 230 then s.size else 0) ∧ (70 + if s.size ≤ 230 then s.size else 0) ≤ 1000 := by split <;> omega
  have hl : ∀ (w1 : World) (B : Nat) (v : Value), w1.ownsRow B 5 1 v (70 + if s.size ≤ 230 then s.size else 0) ((connL c s).map (Value.int .u8)) → (connL c s).length = (70 + if s.size ≤ 230 then s.size else 0) := fun _ _ _ h => by simpa using h.1
  have hc4 := connL_four c s
  generalize (70 + if s.size ≤ 230 then s.size else 0) = kc at *
  generalize connL c s = zs at *
  have CD := Lib.hid (fun (q : Option Addr) (d : Nat) (w1 : World) (h : Lib.BytesIn w1 q kc zs) (hz : zs.length = kc) => dataRead_other c q kc d zs w1 h hz (by omega) (by omega) (by rw [hc4]; decide))
  have CM := Lib.hid (fun (q : Option Addr) (d : Nat) (w1 : World) (h : Lib.BytesIn w1 q kc zs) (hz : zs.length = kc) => show Calls Tryd.prog 35 #[c.val, .slice q kc d] w1 (NoMark w1) from markerRead_len c q kc d zs w1 h hz (by omega) (by omega))
  have HL := Lib.hid hl
  have HX := Lib.hid hx
  have HI := Lib.hid hi
  generalize dataL c.long ((n : Int) + 10) xs = ds at *
  clear hi hx hr hn hm hk hl hc4 ok
  unfold Cx.val at *
  go_enter Tryd.func11, Tryd.ntmps11
  go_wp2_with fail
  generalize hW : w.alloc (.cells #[.int .u16 c.v, .int .u16 c.lo, .int .u16 c.op, .int .u16 c.oo, .int .u16 c.hi, .int .u8 c.a0, .int .u8 c.a1, .int .u32 c.su, .int .u32 c.tu, .bool c.cp] 35) = W
  have HKB := Lib.hid (show Blk W w.heap.size 35 #[.int .u16 c.v, .int .u16 c.lo, .int .u16 c.op, .int .u16 c.oo, .int .u16 c.hi, .int .u8 c.a0, .int .u8 c.a1, .int .u32 c.su, .int .u32 c.tu, .bool c.cp] from hW ▸ Blk.new _ _ _)
  have HW0 := Lib.hid (show Below w.heap.size w W from hW ▸ (Below.refl _ w).alloc (Nat.le_refl _) _)
  have HKB0 := HKB
  have HP := Lib.hid (bin_below HI.out HW0.out)
  clear hW
  obtain ⟨b0, b1, b2, b3, b4, b5, b6, b7, b8, b9⟩ := cx_cells HKB.out
  have hlt := HKB.out.lt
  have hlt1 : w.heap.size < W.heap.size + 1 := by omega
  have hn1 := Nat.ne_of_lt hlt
  have hn2 := Nat.ne_of_gt hlt
  have HW := Lib.hid (Kp.refl W)
  go_wp2_with fail
  go_cut [9, 10, 11] (fun s9 s10 s11 wx => s11 = .bool false ∧ Kp W wx)
  case first =>
    go_region_held3 (fun w' => w'.cell? ⟨w.heap.size, 0, none⟩ = some (.int .u16 c.v) ∧ w'.cell? ⟨w.heap.size, 1, none⟩ = some (.int .u16 c.lo) ∧ w'.cell? ⟨w.heap.size, 2, none⟩ = some (.int .u16 c.op) ∧ w'.cell? ⟨w.heap.size, 3, none⟩ = some (.int .u16 c.oo) ∧ w'.cell? ⟨w.heap.size, 4, none⟩ = some (.int .u16 c.hi) ∧ w'.cell? ⟨w.heap.size, 5, none⟩ = some (.int .u8 c.a0) ∧ w'.cell? ⟨w.heap.size, 6, none⟩ = some (.int .u8 c.a1) ∧ w'.cell? ⟨w.heap.size, 7, none⟩ = some (.int .u32 c.su) ∧ w'.cell? ⟨w.heap.size, 8, none⟩ = some (.int .u32 c.tu) ∧ w'.cell? ⟨w.heap.size, 9, none⟩ = some (.bool c.cp)) (first | with_reducible exact cx_cells HKB.out | with_reducible exact cx_cells HKB.out.drew | with_reducible exact cx_cells (HKB.out.alloc _) | with_reducible exact cx_cells (HKB.out.alloc _).drew | go_keep)
      (first
        | (go_at_call 14; refine (clone_any _ _ _ _ xs (bin_kp HP.out (by first | exact HW.out.drew | exact (HW.out.alloc _).drew | exact HW.out | exact HW.out.alloc _)) HX.out (by omega)).mono ?_; rintro e w1 ⟨q1, d1, rfl, hown, hb⟩; have HQ1 := Lib.hid (bin_of_own hown); clear hown; obtain ⟨hcl1, hfz1⟩ := bcell hb; have HB1 := Lib.hid hb; have hsz1 := hb.size; (try simp only [World.size_drew] at hcl1 hfz1 hsz1); (try simp only [World.size_alloc] at hcl1 hfz1 hsz1); have hs1 : w.heap.size < w1.heap.size := (by omega); have ht1 : w.heap.size < w1.heap.size + 1 := (by omega); have hn1 := Nat.ne_of_lt hs1; have hm1 := Nat.ne_of_gt hs1; (try (have hx1_0 : W.heap.size < w1.heap.size := (by omega))); have HKB := Lib.hid (show Blk w1 w.heap.size 35 #[.int .u16 c.v, .int .u16 c.lo, .int .u16 c.op, .int .u16 c.oo, .int .u16 c.hi, .int .u8 c.a0, .int .u8 c.a1, .int .u32 c.su, .int .u32 c.tu, .bool c.cp] from (by first | exact HKB.out.old hb | exact HKB.out.drew.old hb | exact (HKB.out.alloc _).old hb | exact (HKB.out.alloc _).drew.old hb)); clear hb)
        | (go_at_call 17; refine (DB.out _ _ _ (by first | exact HQ1.out | exact bin_alloc HQ1.out _)).mono ?_; rintro e w2 ⟨v, rfl, hov, hb⟩; obtain ⟨q2, d2, rfl, hin⟩ := bin_own hov; have HQ2 := Lib.hid hin; clear hov hin; obtain ⟨hcl2, hfz2⟩ := bcell hb; have HB2 := Lib.hid hb; have hsz2 := hb.size; (try simp only [World.size_drew] at hcl2 hfz2 hsz2); (try simp only [World.size_alloc] at hcl2 hfz2 hsz2); have hs2 : w.heap.size < w2.heap.size := (by omega); have ht2 : w.heap.size < w2.heap.size + 1 := (by omega); have hn2 := Nat.ne_of_lt hs2; have hm2 := Nat.ne_of_gt hs2; (try (have hx2_0 : W.heap.size < w2.heap.size := (by omega))); (try (have hx2_1 : w1.heap.size < w2.heap.size := (by omega))); have HKB := Lib.hid (show Blk w2 w.heap.size 35 #[.int .u16 c.v, .int .u16 c.lo, .int .u16 c.op, .int .u16 c.oo, .int .u16 c.hi, .int .u8 c.a0, .int .u8 c.a1, .int .u32 c.su, .int .u32 c.tu, .bool c.cp] from (by first | exact HKB.out.old hb | exact HKB.out.drew.old hb | exact (HKB.out.alloc _).old hb | exact (HKB.out.alloc _).drew.old hb)); clear hb)
        | (go_at_call 35; refine (MD.out _ _ _ (by first | exact HQ2.out | exact bin_alloc HQ2.out _)).mono ?_; rintro e w3 ⟨rfl, hb⟩; obtain ⟨hcl3, hfz3⟩ := bcell hb; have HB3 := Lib.hid hb; have hsz3 := hb.size; (try simp only [World.size_drew] at hcl3 hfz3 hsz3); (try simp only [World.size_alloc] at hcl3 hfz3 hsz3); have hs3 : w.heap.size < w3.heap.size := (by omega); have ht3 : w.heap.size < w3.heap.size + 1 := (by omega); have hn3 := Nat.ne_of_lt hs3; have hm3 := Nat.ne_of_gt hs3; (try (have hx3_0 : W.heap.size < w3.heap.size := (by omega))); (try (have hx3_1 : w1.heap.size < w3.heap.size := (by omega))); (try (have hx3_2 : w2.heap.size < w3.heap.size := (by omega))); have HKB := Lib.hid (show Blk w3 w.heap.size 35 #[.int .u16 c.v, .int .u16 c.lo, .int .u16 c.op, .int .u16 c.oo, .int .u16 c.hi, .int .u8 c.a0, .int .u8 c.a1, .int .u32 c.su, .int .u32 c.tu, .bool c.cp] from (by first | exact HKB.out.old hb | exact HKB.out.drew.old hb | exact (HKB.out.alloc _).old hb | exact (HKB.out.alloc _).drew.old hb)); clear hb))
    all_goals
      clear hcl1 hfz1 hcl2 hfz2 hcl3 hfz3
      go_wp2_with fail
      go_meet
      refine ⟨rfl, ?_⟩
      repeat (first | with_reducible exact HW.out | with_reducible apply Kp.drew | with_reducible apply Kp.alloc | with_reducible refine Kp.call ?_ HB3.out | with_reducible refine Kp.call ?_ HB2.out | with_reducible refine Kp.call ?_ HB1.out | with_reducible refine Kp.set ?_ ?_ _)
      all_goals (have hz0 := Below.size HW.out; dsimp only; omega)
  case rest =>
    obtain ⟨rfl, hkw⟩ := hcut
    have HWN := Lib.hid hkw
    clear hkw HW b0 b1 b2 b3 b4 b5 b6 b7 b8 b9 hlt hlt1 hn1 hn2
    have HW := HWN
    have HKB := Lib.hid (HKB0.out.kp HW.out)
    clear HWN
    obtain ⟨b0, b1, b2, b3, b4, b5, b6, b7, b8, b9⟩ := cx_cells HKB.out
    have hlt := HKB.out.lt
    have hlt1 : w.heap.size < wc.heap.size + 1 := by omega
    have hn1 := Nat.ne_of_lt hlt
    have hn2 := Nat.ne_of_gt hlt
    go_wp2_with fail
    go_cut [12, 13, 14, 15] (fun s12 s13 s14 s15 wx => s15 = .bool false ∧ Kp W wx)
    case first =>
      go_region_held3 (fun w' => w'.cell? ⟨w.heap.size, 0, none⟩ = some (.int .u16 c.v) ∧ w'.cell? ⟨w.heap.size, 1, none⟩ = some (.int .u16 c.lo) ∧ w'.cell? ⟨w.heap.size, 2, none⟩ = some (.int .u16 c.op) ∧ w'.cell? ⟨w.heap.size, 3, none⟩ = some (.int .u16 c.oo) ∧ w'.cell? ⟨w.heap.size, 4, none⟩ = some (.int .u16 c.hi) ∧ w'.cell? ⟨w.heap.size, 5, none⟩ = some (.int .u8 c.a0) ∧ w'.cell? ⟨w.heap.size, 6, none⟩ = some (.int .u8 c.a1) ∧ w'.cell? ⟨w.heap.size, 7, none⟩ = some (.int .u32 c.su) ∧ w'.cell? ⟨w.heap.size, 8, none⟩ = some (.int .u32 c.tu) ∧ w'.cell? ⟨w.heap.size, 9, none⟩ = some (.bool c.cp)) (first | with_reducible exact cx_cells HKB.out | with_reducible exact cx_cells HKB.out.drew | with_reducible exact cx_cells (HKB.out.alloc _) | with_reducible exact cx_cells (HKB.out.alloc _).drew | go_keep)
        (first
          | (go_at_call 34; refine (MB.out _).mono ?_; rintro e w1 ⟨g1, rfl, hov, hb⟩; have HQ1 := Lib.hid (bin_of_own hov); clear hov; obtain ⟨hcl1, hfz1⟩ := bcell hb; have HB1 := Lib.hid hb; have hsz1 := hb.size; (try simp only [World.size_drew] at hcl1 hfz1 hsz1); (try simp only [World.size_alloc] at hcl1 hfz1 hsz1); have hs1 : w.heap.size < w1.heap.size := (by omega); have ht1 : w.heap.size < w1.heap.size + 1 := (by omega); have hn1 := Nat.ne_of_lt hs1; have hm1 := Nat.ne_of_gt hs1; (try (have hx1_0 : wc.heap.size < w1.heap.size := (by omega))); have HKB := Lib.hid (show Blk w1 w.heap.size 35 #[.int .u16 c.v, .int .u16 c.lo, .int .u16 c.op, .int .u16 c.oo, .int .u16 c.hi, .int .u8 c.a0, .int .u8 c.a1, .int .u32 c.su, .int .u32 c.tu, .bool c.cp] from (by first | exact HKB.out.old hb | exact HKB.out.drew.old hb | exact (HKB.out.alloc _).old hb | exact (HKB.out.alloc _).drew.old hb)); clear hb)
          | (go_at_call 18; refine (DM.out _ _ _ (by first | exact HQ1.out | exact bin_alloc HQ1.out _)).mono ?_; rintro e w2 ⟨rfl, hb⟩; obtain ⟨hcl2, hfz2⟩ := bcell hb; have HB2 := Lib.hid hb; have hsz2 := hb.size; (try simp only [World.size_drew] at hcl2 hfz2 hsz2); (try simp only [World.size_alloc] at hcl2 hfz2 hsz2); have hs2 : w.heap.size < w2.heap.size := (by omega); have ht2 : w.heap.size < w2.heap.size + 1 := (by omega); have hn2 := Nat.ne_of_lt hs2; have hm2 := Nat.ne_of_gt hs2; (try (have hx2_0 : wc.heap.size < w2.heap.size := (by omega))); (try (have hx2_1 : w1.heap.size < w2.heap.size := (by omega))); have HKB := Lib.hid (show Blk w2 w.heap.size 35 #[.int .u16 c.v, .int .u16 c.lo, .int .u16 c.op, .int .u16 c.oo, .int .u16 c.hi, .int .u8 c.a0, .int .u8 c.a1, .int .u32 c.su, .int .u32 c.tu, .bool c.cp] from (by first | exact HKB.out.old hb | exact HKB.out.drew.old hb | exact (HKB.out.alloc _).old hb | exact (HKB.out.alloc _).drew.old hb)); clear hb))
      all_goals
        clear hcl1 hfz1 hcl2 hfz2
        go_wp2_with fail
        go_meet
        refine ⟨rfl, ?_⟩
        repeat (first | with_reducible exact HW.out | with_reducible apply Kp.drew | with_reducible apply Kp.alloc | with_reducible refine Kp.call ?_ HB2.out | with_reducible refine Kp.call ?_ HB1.out | with_reducible refine Kp.set ?_ ?_ _)
        all_goals (have hz0 := Below.size HW.out; dsimp only; omega)
    case rest =>
      obtain ⟨rfl, hkw⟩ := hcut
      have HWN := Lib.hid hkw
      clear hkw HW b0 b1 b2 b3 b4 b5 b6 b7 b8 b9 hlt hlt1 hn1 hn2
      have HW := HWN
      have HKB := Lib.hid (HKB0.out.kp HW.out)
      clear HWN
      obtain ⟨b0, b1, b2, b3, b4, b5, b6, b7, b8, b9⟩ := cx_cells HKB.out
      have hlt := HKB.out.lt
      have hlt1 : w.heap.size < wc.heap.size + 1 := by omega
      have hn1 := Nat.ne_of_lt hlt
      have hn2 := Nat.ne_of_gt hlt
      go_wp2_with fail
      go_cut [16, 17, 18, 19] (fun s16 s17 s18 s19 wx => s19 = .bool false ∧ Kp W wx)
      case first =>
        go_region_held3 (fun w' => w'.cell? ⟨w.heap.size, 0, none⟩ = some (.int .u16 c.v) ∧ w'.cell? ⟨w.heap.size, 1, none⟩ = some (.int .u16 c.lo) ∧ w'.cell? ⟨w.heap.size, 2, none⟩ = some (.int .u16 c.op) ∧ w'.cell? ⟨w.heap.size, 3, none⟩ = some (.int .u16 c.oo) ∧ w'.cell? ⟨w.heap.size, 4, none⟩ = some (.int .u16 c.hi) ∧ w'.cell? ⟨w.heap.size, 5, none⟩ = some (.int .u8 c.a0) ∧ w'.cell? ⟨w.heap.size, 6, none⟩ = some (.int .u8 c.a1) ∧ w'.cell? ⟨w.heap.size, 7, none⟩ = some (.int .u32 c.su) ∧ w'.cell? ⟨w.heap.size, 8, none⟩ = some (.int .u32 c.tu) ∧ w'.cell? ⟨w.heap.size, 9, none⟩ = some (.bool c.cp)) (first | with_reducible exact cx_cells HKB.out | with_reducible exact cx_cells HKB.out.drew | with_reducible exact cx_cells (HKB.out.alloc _) | with_reducible exact cx_cells (HKB.out.alloc _).drew | go_keep)
          (first
            | (go_at_call 23; refine (CB.out _).mono ?_; rintro e w1 ⟨v, rfl, hov, hb⟩; have HZ := Lib.hid (HL.out _ _ _ hov); obtain ⟨q1, d1, rfl, hin⟩ := bin_own hov; have HQ1 := Lib.hid hin; clear hov hin; obtain ⟨hcl1, hfz1⟩ := bcell hb; have HB1 := Lib.hid hb; have hsz1 := hb.size; (try simp only [World.size_drew] at hcl1 hfz1 hsz1); (try simp only [World.size_alloc] at hcl1 hfz1 hsz1); have hs1 : w.heap.size < w1.heap.size := (by omega); have ht1 : w.heap.size < w1.heap.size + 1 := (by omega); have hn1 := Nat.ne_of_lt hs1; have hm1 := Nat.ne_of_gt hs1; (try (have hx1_0 : wc.heap.size < w1.heap.size := (by omega))); have HKB := Lib.hid (show Blk w1 w.heap.size 35 #[.int .u16 c.v, .int .u16 c.lo, .int .u16 c.op, .int .u16 c.oo, .int .u16 c.hi, .int .u8 c.a0, .int .u8 c.a1, .int .u32 c.su, .int .u32 c.tu, .bool c.cp] from (by first | exact HKB.out.old hb | exact HKB.out.drew.old hb | exact (HKB.out.alloc _).old hb | exact (HKB.out.alloc _).drew.old hb)); clear hb)
            | (go_at_call 18; refine (CD.out _ _ _ (by first | exact HQ1.out | exact bin_alloc HQ1.out _) HZ.out).mono ?_; rintro e w2 ⟨rfl, hb⟩; obtain ⟨hcl2, hfz2⟩ := bcell hb; have HB2 := Lib.hid hb; have hsz2 := hb.size; (try simp only [World.size_drew] at hcl2 hfz2 hsz2); (try simp only [World.size_alloc] at hcl2 hfz2 hsz2); have hs2 : w.heap.size < w2.heap.size := (by omega); have ht2 : w.heap.size < w2.heap.size + 1 := (by omega); have hn2 := Nat.ne_of_lt hs2; have hm2 := Nat.ne_of_gt hs2; (try (have hx2_0 : wc.heap.size < w2.heap.size := (by omega))); (try (have hx2_1 : w1.heap.size < w2.heap.size := (by omega))); have HKB := Lib.hid (show Blk w2 w.heap.size 35 #[.int .u16 c.v, .int .u16 c.lo, .int .u16 c.op, .int .u16 c.oo, .int .u16 c.hi, .int .u8 c.a0, .int .u8 c.a1, .int .u32 c.su, .int .u32 c.tu, .bool c.cp] from (by first | exact HKB.out.old hb | exact HKB.out.drew.old hb | exact (HKB.out.alloc _).old hb | exact (HKB.out.alloc _).drew.old hb)); clear hb))
        all_goals
          clear hcl1 hfz1 hcl2 hfz2
          go_wp2_with fail
          go_meet
          refine ⟨rfl, ?_⟩
          repeat (first | with_reducible exact HW.out | with_reducible apply Kp.drew | with_reducible apply Kp.alloc | with_reducible refine Kp.call ?_ HB2.out | with_reducible refine Kp.call ?_ HB1.out | with_reducible refine Kp.set ?_ ?_ _)
          all_goals (have hz0 := Below.size HW.out; dsimp only; omega)
      case rest =>
        obtain ⟨rfl, hkw⟩ := hcut
        have HWN := Lib.hid hkw
        clear hkw HW b0 b1 b2 b3 b4 b5 b6 b7 b8 b9 hlt hlt1 hn1 hn2
        have HW := HWN
        have HKB := Lib.hid (HKB0.out.kp HW.out)
        clear HWN
        obtain ⟨b0, b1, b2, b3, b4, b5, b6, b7, b8, b9⟩ := cx_cells HKB.out
        have hlt := HKB.out.lt
        have hlt1 : w.heap.size < wc.heap.size + 1 := by omega
        have hn1 := Nat.ne_of_lt hlt
        have hn2 := Nat.ne_of_gt hlt
        go_wp2_with fail
        go_cut [20, 21, 22] (fun s20 s21 s22 wx => s22 = .bool false ∧ Kp W wx)
        case first =>
          go_region_held3 (fun w' => w'.cell? ⟨w.heap.size, 0, none⟩ = some (.int .u16 c.v) ∧ w'.cell? ⟨w.heap.size, 1, none⟩ = some (.int .u16 c.lo) ∧ w'.cell? ⟨w.heap.size, 2, none⟩ = some (.int .u16 c.op) ∧ w'.cell? ⟨w.heap.size, 3, none⟩ = some (.int .u16 c.oo) ∧ w'.cell? ⟨w.heap.size, 4, none⟩ = some (.int .u16 c.hi) ∧ w'.cell? ⟨w.heap.size, 5, none⟩ = some (.int .u8 c.a0) ∧ w'.cell? ⟨w.heap.size, 6, none⟩ = some (.int .u8 c.a1) ∧ w'.cell? ⟨w.heap.size, 7, none⟩ = some (.int .u32 c.su) ∧ w'.cell? ⟨w.heap.size, 8, none⟩ = some (.int .u32 c.tu) ∧ w'.cell? ⟨w.heap.size, 9, none⟩ = some (.bool c.cp)) (first | with_reducible exact cx_cells HKB.out | with_reducible exact cx_cells HKB.out.drew | with_reducible exact cx_cells (HKB.out.alloc _) | with_reducible exact cx_cells (HKB.out.alloc _).drew | go_keep)
            (first
              | (go_at_call 23; refine (CB.out _).mono ?_; rintro e w1 ⟨v, rfl, hov, hb⟩; have HZ := Lib.hid (HL.out _ _ _ hov); obtain ⟨q1, d1, rfl, hin⟩ := bin_own hov; have HQ1 := Lib.hid hin; clear hov hin; obtain ⟨hcl1, hfz1⟩ := bcell hb; have HB1 := Lib.hid hb; have hsz1 := hb.size; (try simp only [World.size_drew] at hcl1 hfz1 hsz1); (try simp only [World.size_alloc] at hcl1 hfz1 hsz1); have hs1 : w.heap.size < w1.heap.size := (by omega); have ht1 : w.heap.size < w1.heap.size + 1 := (by omega); have hn1 := Nat.ne_of_lt hs1; have hm1 := Nat.ne_of_gt hs1; (try (have hx1_0 : wc.heap.size < w1.heap.size := (by omega))); have HKB := Lib.hid (show Blk w1 w.heap.size 35 #[.int .u16 c.v, .int .u16 c.lo, .int .u16 c.op, .int .u16 c.oo, .int .u16 c.hi, .int .u8 c.a0, .int .u8 c.a1, .int .u32 c.su, .int .u32 c.tu, .bool c.cp] from (by first | exact HKB.out.old hb | exact HKB.out.drew.old hb | exact (HKB.out.alloc _).old hb | exact (HKB.out.alloc _).drew.old hb)); clear hb)
              | (go_at_call 35; refine (CM.out _ _ _ (by first | exact HQ1.out | exact bin_alloc HQ1.out _) HZ.out).mono ?_; rintro e w2 ⟨rfl, hb⟩; obtain ⟨hcl2, hfz2⟩ := bcell hb; have HB2 := Lib.hid hb; have hsz2 := hb.size; (try simp only [World.size_drew] at hcl2 hfz2 hsz2); (try simp only [World.size_alloc] at hcl2 hfz2 hsz2); have hs2 : w.heap.size < w2.heap.size := (by omega); have ht2 : w.heap.size < w2.heap.size + 1 := (by omega); have hn2 := Nat.ne_of_lt hs2; have hm2 := Nat.ne_of_gt hs2; (try (have hx2_0 : wc.heap.size < w2.heap.size := (by omega))); (try (have hx2_1 : w1.heap.size < w2.heap.size := (by omega))); have HKB := Lib.hid (show Blk w2 w.heap.size 35 #[.int .u16 c.v, .int .u16 c.lo, .int .u16 c.op, .int .u16 c.oo, .int .u16 c.hi, .int .u8 c.a0, .int .u8 c.a1, .int .u32 c.su, .int .u32 c.tu, .bool c.cp] from (by first | exact HKB.out.old hb | exact HKB.out.drew.old hb | exact (HKB.out.alloc _).old hb | exact (HKB.out.alloc _).drew.old hb)); clear hb))
          all_goals
            clear hcl1 hfz1 hcl2 hfz2
            go_wp2_with fail
            go_meet
            refine ⟨rfl, ?_⟩
            repeat (first | with_reducible exact HW.out | with_reducible apply Kp.drew | with_reducible apply Kp.alloc | with_reducible refine Kp.call ?_ HB2.out | with_reducible refine Kp.call ?_ HB1.out | with_reducible refine Kp.set ?_ ?_ _)
            all_goals (have hz0 := Below.size HW.out; dsimp only; omega)
        case rest =>
          obtain ⟨rfl, hkw⟩ := hcut
          have HWN := Lib.hid hkw
          clear hkw HW b0 b1 b2 b3 b4 b5 b6 b7 b8 b9 hlt hlt1 hn1 hn2
          have HW := HWN
          have HKB := Lib.hid (HKB0.out.kp HW.out)
          clear HWN
          obtain ⟨b0, b1, b2, b3, b4, b5, b6, b7, b8, b9⟩ := cx_cells HKB.out
          have hlt := HKB.out.lt
          have hlt1 : w.heap.size < wc.heap.size + 1 := by omega
          have hn1 := Nat.ne_of_lt hlt
          have hn2 := Nat.ne_of_gt hlt
          go_wp2_with fail
          refine (packetAwake_any _).mono ?_
          rintro e w9 ⟨rfl, hb⟩
          have hk := Kp.call HW.out hb
          have HF := Lib.hid (HW0.out.trans (hk.below.mono HW0.out.size))
          clear hb hk
          go_wp2_with fail
          go_ret
          exact ⟨rfl, HF.out⟩

theorem fnPacketApart_any (c : Cx) (kd : Int) (p : Option Addr) (n k : Nat) (xs : List Int) (s : ByteArray) (w : World) (ok : c.Ok) (hi : Lib.BytesIn w p n xs) (hx : xs.length = n) (hr : ∀ x ∈ xs, 0 ≤ x ∧ x < 256) :
    Calls Tryd.prog 11 #[c.val, .int .u8 kd, .slice p n k, .string s] w fun e w' => e = .returned (.bool true) ∧ Below w.heap.size w w' := by
  by_cases hf : n ≤ 1000 ∧ s.size ≤ 200
  · exact fnPacketApart_few c kd p n k xs s w ok hi hx hr hf.1 hf.2
  clear hi hx hr ok
  by_cases hn : n ≤ 2147483647 ∧ s.size ≤ 2147483647
  · have g1 : decide ((2147483647 : Int) < ((n : Nat) : Int)) = false := by simp; omega
    have g2 : decide ((2147483647 : Int) < ((s.size : Nat) : Int)) = false := by simp; omega
    have g3 : (decide ((1000 : Int) < ((n : Nat) : Int)) || decide ((200 : Int) < ((s.size : Nat) : Int))) = true := by simp; omega
    by_cases h1 : n ≤ 1000
    · have g4 : decide ((1000 : Int) < ((n : Nat) : Int)) = false := by simp; omega
      have g5 : decide ((200 : Int) < ((s.size : Nat) : Int)) = true := by simp; omega
      clear hf hn h1 g3
      unfold Cx.val
      go_enter Tryd.func11, Tryd.ntmps11
      go_wp2_with fail
      refine (packetAwake_any _).mono ?_
      rintro e w3 ⟨rfl, hb⟩
      have HB3 := Lib.hid (((Below.refl _ w).alloc (Nat.le_refl _) _).trans (hb.mono (by simp)))
      clear hb
      go_wp2_with fail
      go_ret
      exact ⟨rfl, HB3.out⟩
    · have g4 : decide ((1000 : Int) < ((n : Nat) : Int)) = true := by simp; omega
      clear hf hn h1 g3
      unfold Cx.val
      go_enter Tryd.func11, Tryd.ntmps11
      go_wp2_with fail
      refine (packetAwake_any _).mono ?_
      rintro e w3 ⟨rfl, hb⟩
      have HB3 := Lib.hid (((Below.refl _ w).alloc (Nat.le_refl _) _).trans (hb.mono (by simp)))
      clear hb
      go_wp2_with fail
      go_ret
      exact ⟨rfl, HB3.out⟩
  · by_cases h1 : n ≤ 2147483647
    · have g4 : decide ((2147483647 : Int) < ((n : Nat) : Int)) = false := by simp; omega
      have g5 : decide ((2147483647 : Int) < ((s.size : Nat) : Int)) = true := by simp; omega
      clear hf hn h1
      unfold Cx.val
      go_enter Tryd.func11, Tryd.ntmps11
      go_wp2_with fail
      go_ret
      exact ⟨rfl, (Below.refl _ w).alloc (Nat.le_refl _) _⟩
    · have g4 : decide ((2147483647 : Int) < ((n : Nat) : Int)) = true := by simp; omega
      clear hf hn h1
      unfold Cx.val
      go_enter Tryd.func11, Tryd.ntmps11
      go_wp2_with fail
      go_ret
      exact ⟨rfl, (Below.refl _ w).alloc (Nat.le_refl _) _⟩
end Go.Proofs.YtaohgebiedkdaaaDoor
