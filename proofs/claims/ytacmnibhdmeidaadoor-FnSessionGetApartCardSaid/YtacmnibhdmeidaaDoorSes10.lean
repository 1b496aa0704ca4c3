/-
  A session reads lengths with CLRs, keys with values, fixed CLRs; it peeks, and gives what is left.
-/
import Derived.Test.YtacmnibhdmeidaaDoorSes9
namespace Go.Proofs.YtacmnibhdmeidaaDoor
open Go Go.RowKit

theorem and127b (v : Int) (h0 : 0 ≤ v) (h1 : v < 256) : bits .and .u8 v 127 = v % 128 := by
  obtain ⟨n, rfl⟩ := Int.eq_ofNat_of_zero_le h0
  have key : ∀ i : Fin 256, bits .and .u8 (i.val : Int) 127 = (i.val : Int) % 128 := by decide +kernel
  exact key ⟨n, by omega⟩

set_option maxRecDepth 100000 in
set_option maxHeartbeats 4000000 in
theorem getDlc_zero (g : Nat) (p : Option Addr) (n c : Nat) (xs : List Int) (big : Bool) (i : Nat) (r : List Int) (w : World) (h : RS w g p n c xs big i) (hx : RdPacked (xs.drop i) 0 r) :
    Calls Tryd.prog 53 #[.pointer (some ⟨g, 0, none⟩)] w (GotB g p n c xs big r [] w) := by
  have C := Lib.hid (getInt_packed g p n c xs big true i 4 0 r w h hx)
  clear h hx
  go_enter Tryd.func53, Tryd.ntmps53
  go_wp2_with fail
  refine C.out.mono ?_
  rintro e w1 ⟨i', rfl, hR, hr, hg1⟩
  have HR := Lib.hid hR
  have HRR := Lib.hid hr
  have HG := Lib.hid hg1
  clear hR hr hg1 C
  go_wp2_with fail
  go_ret2
  exact gotB_mk rfl rfl (Lib.BytesIn.nil _ _ _) (Nat.zero_le _) (by decide) HR.out HRR.out HG.out

set_option maxRecDepth 100000 in
set_option maxHeartbeats 4000000 in
theorem getDlc_pos (g : Nat) (p : Option Addr) (n c : Nat) (xs : List Int) (big : Bool) (i v : Nat) (t d r : List Int) (w : World) (h : RS w g p n c xs big i) (hx : RdPacked (xs.drop i) v t) (hv0 : 0 < v) (hv1 : v ≤ 1073741824) (hd : RdClr big t d r) :
    Calls Tryd.prog 53 #[.pointer (some ⟨g, 0, none⟩)] w (GotB g p n c xs big r (d.take v) w) := by
  have C := Lib.hid (getInt_packed g p n c xs big true i 4 v t w h hx)
  have HD := Lib.hid hd
  have i0 : (0 : Int) < (v : Int) := by omega
  have i1 : (v : Int) ≤ 1073741824 := by omega
  have HV := Lib.hid hv0
  clear h hx hd hv0
  go_enter Tryd.func53, Tryd.ntmps53
  go_wp2_with fail
  refine C.out.mono ?_
  rintro e w1 ⟨i', rfl, hR, hr, hg1⟩
  have HR := Lib.hid hR
  have HRR := Lib.hid hr
  have HG := Lib.hid hg1
  clear hR hr hg1 C
  go_wp2_with fail
  refine (getClr_any g p n c xs big i' d r w1 HR.out (by rw [← HRR.out]; exact HD.out)).mono ?_
  rintro e w2 ⟨q, l, m, i2, rfl, hl, hin, hlm, hmm, hR, hr, hg2⟩
  have HL := Lib.hid hl
  have HIN := Lib.hid hin
  have HR2 := Lib.hid hR
  have HRR2 := Lib.hid hr
  have HG2 := Lib.hid hg2
  have HMM := Lib.hid hmm
  have j0 : (l : Int) ≤ (m : Int) := by omega
  have j1 : (m : Int) ≤ 9223372036854775807 := by unfold maxLen at hmm; omega
  clear hl hin hR hr hg2 hmm
  by_cases hlv : v < l
  · obtain ⟨b, o, rfl, _⟩ := HIN.out (by omega)
    have j2 : (v : Int) < (l : Int) := by omega
    have HLV := Lib.hid hlv
    have e0 : (m = 0) = False := by simp; omega
    clear hlv
    go_wp2_with fail
    go_ret2
    exact gotB_mk rfl (by rw [List.length_take, HL.out]; have := HLV.out; omega) (by simpa using bin_take HIN.out (Nat.le_of_lt HLV.out)) (by have := HLV.out; omega) HMM.out HR2.out HRR2.out (grown_trans HG.out HG2.out)
  · have j2 : (l : Int) ≤ (v : Int) := by omega
    have HLV := Lib.hid hlv
    clear hlv
    go_wp2_with fail
    go_ret2
    have ht : d.take v = d := List.take_of_length_le (by rw [HL.out]; have := HLV.out; omega)
    rw [ht]
    exact gotB_mk rfl HL.out HIN.out hlm HMM.out HR2.out HRR2.out (grown_trans HG.out HG2.out)

theorem getDlc_any (g : Nat) (p : Option Addr) (n c : Nat) (xs : List Int) (big : Bool) (i : Nat) (d r : List Int) (w : World) (h : RS w g p n c xs big i) (hx : RdDlc big (xs.drop i) d r) :
    Calls Tryd.prog 53 #[.pointer (some ⟨g, 0, none⟩)] w (GotB g p n c xs big r d w) := by
  obtain ⟨v, t, hp, h0, h1, ⟨rfl, rfl, rfl⟩ | ⟨hv, d', hc, rfl⟩⟩ := hx
  · exact getDlc_zero g p n c xs big i r w h hp
  · obtain ⟨v', rfl⟩ : ∃ v' : Nat, v = v' := ⟨v.toNat, by omega⟩
    rw [Int.toNat_natCast]
    exact getDlc_pos g p n c xs big i v' t d' r w h hp (by omega) (by omega) hc

/-- A key, a value, a flag. -/
def GotKv (g : Nat) (p : Option Addr) (n c : Nat) (xs : List Int) (big : Bool) (r d1 d2 : List Int) (x : Int) (w : World) (e : Ending) (w' : World) : Prop :=
  ∃ q1 k1 m1 q2 k2 m2 i, e = .returned (.tuple #[.slice q1 k1 m1, .slice q2 k2 m2, .int .i64 x, .nilIface]) ∧ d1.length = k1 ∧ Lib.BytesIn w' q1 k1 d1 ∧ d2.length = k2 ∧ Lib.BytesIn w' q2 k2 d2 ∧ RS w' g p n c xs big i ∧ r = xs.drop i ∧ w.grownBy w' (some g)

theorem results_tmp4 {fn : Func} {t u v x : Tmp} (h : fn.results = #[.tmp t, .tmp u, .tmp v, .tmp x]) (tmps : Array Value) (P : Program) (w : World) :
    (results fn tmps).run P w = .ok (.tuple #[tmps.getD t undef, tmps.getD u undef, tmps.getD v undef, tmps.getD x undef]) w := by simp [results, h]

theorem RS.far {w : World} {g n c i : Nat} {p : Option Addr} {xs : List Int} {big : Bool} {k : Nat} {b o : Nat} {d : List Int} (h : RS w g p n c xs big i) (hin : Lib.BytesIn w (some ⟨b, o, none⟩) k d) (hk : 0 < k) : b ≠ g := by
  obtain ⟨b', o', he, hc⟩ := hin hk
  injection he with he
  injection he with h1 h2
  subst h1 h2
  rintro rfl
  have hc0 := hc 0 hk
  rw [Nat.add_zero, h.blk.cell o] at hc0
  match o, hc0 with
  | 0, hc0 => simp [sesC] at hc0
  | 1, hc0 => simp [sesC] at hc0
  | 2, hc0 => simp [sesC] at hc0
  | 3, hc0 => simp [sesC] at hc0
  | 4, hc0 => simp [sesC] at hc0
  | 5, hc0 => simp [sesC] at hc0
  | 6, hc0 => simp [sesC] at hc0
  | o + 7, hc0 => simp [sesC] at hc0
theorem RS.bin_on {w w' : World} {g n c i : Nat} {p q : Option Addr} {xs : List Int} {big : Bool} {k : Nat} {d : List Int} (h : RS w g p n c xs big i) (hin : Lib.BytesIn w q k d) (hg : w.grownBy w' (some g)) : Lib.BytesIn w' q k d := fun hk => by
  obtain ⟨b, o, rfl, hc⟩ := hin hk
  exact ⟨b, o, rfl, fun j hj => grown_cell hg (hc j hj) (h.far hin hk)⟩

set_option maxRecDepth 100000 in
set_option maxHeartbeats 4000000 in
theorem getKv_any (g : Nat) (p : Option Addr) (n c : Nat) (xs : List Int) (big : Bool) (i : Nat) (d1 d2 r : List Int) (x : Int) (w : World) (h : RS w g p n c xs big i) (hx : RdKv big (xs.drop i) d1 d2 x r) :
    Calls Tryd.prog 56 #[.pointer (some ⟨g, 0, none⟩)] w (GotKv g p n c xs big r d1 d2 x w) := by
  obtain ⟨t, u, h1, h2, h3⟩ := hx
  have H1 := Lib.hid h1
  have H2 := Lib.hid h2
  have H3 := Lib.hid h3
  have H := Lib.hid h
  clear h h1 h2 h3
  go_enter Tryd.func56, Tryd.ntmps56
  go_wp2_with fail
  refine (getDlc_any g p n c xs big i d1 t w H.out H1.out).mono ?_
  rintro e w1 ⟨q1, k1, m1, i1, rfl, hl1, hin1, _, _, hR1, hr1, hg1⟩
  have HL1 := Lib.hid hl1
  have HIN1 := Lib.hid hin1
  have HR1 := Lib.hid hR1
  have HRR1 := Lib.hid hr1
  have HG1 := Lib.hid hg1
  clear hl1 hin1 hR1 hr1 hg1
  go_wp2_with fail
  refine (getDlc_any g p n c xs big i1 d2 u w1 HR1.out (by rw [← HRR1.out]; exact H2.out)).mono ?_
  rintro e w2 ⟨q2, k2, m2, i2, rfl, hl2, hin2, _, _, hR2, hr2, hg2⟩
  have HL2 := Lib.hid hl2
  have HIN2 := Lib.hid hin2
  have HR2 := Lib.hid hR2
  have HRR2 := Lib.hid hr2
  have HG2 := Lib.hid hg2
  clear hl2 hin2 hR2 hr2 hg2
  go_wp2_with fail
  refine (getInt_packed g p n c xs big true i2 4 x r w2 HR2.out (by rw [← HRR2.out]; exact H3.out)).mono ?_
  rintro e w3 ⟨i3, rfl, hR3, hr3, hg3⟩
  have HR3 := Lib.hid hR3
  have HRR3 := Lib.hid hr3
  have HG3 := Lib.hid hg3
  clear hR3 hr3 hg3
  go_wp2_with fail
  refine bodyPost_ret (results_tmp4 rfl _ _ _) rfl ?_
  exact ⟨q1, k1, m1, q2, k2, m2, i3, rfl, HL1.out, HR2.out.bin_on (HR1.out.bin_on HIN1.out HG2.out) HG3.out, HL2.out, HR2.out.bin_on HIN2.out HG3.out, HR3.out, HRR3.out, grown_trans (grown_trans HG1.out HG2.out) HG3.out⟩

theorem gotB_of_R {g : Nat} {p : Option Addr} {n c : Nat} {xs : List Int} {big : Bool} {r d : List Int} {w : World} {e : Ending} {w' : World} (h : GotR g p n c xs big r d w e w') : GotB g p n c xs big r d w e w' := by
  obtain ⟨q, k, m, i, h1, h2, h3, h4, h5, _, h6, h7, h8⟩ := h
  exact ⟨q, k, m, i, h1, h2, h3, h4, h5, h6, h7, h8⟩

set_option maxRecDepth 100000 in
set_option maxHeartbeats 4000000 in
theorem getFixed_none (g : Nat) (p : Option Addr) (n c : Nat) (xs : List Int) (big : Bool) (i : Nat) (b : Int) (t : List Int) (w : World) (h : RS w g p n c xs big i) (hx : xs.drop i = b :: t) (hb : b = 0 ∨ b = 253 ∨ b = 255) :
    Calls Tryd.prog 58 #[.pointer (some ⟨g, 0, none⟩)] w (GotB g p n c xs big t [] w) := by
  have C := Lib.hid (getByte_any g p n c xs big i b t w h hx)
  clear h hx
  rcases hb with rfl | rfl | rfl
  all_goals
    go_enter Tryd.func58, Tryd.ntmps58
    go_wp2_with fail
    refine C.out.mono ?_
    rintro e w1 ⟨i', rfl, hR, hr, hg1⟩
    have HR := Lib.hid hR
    have HRR := Lib.hid hr
    have HG := Lib.hid hg1
    clear hR hr hg1 C
    go_wp2_with fail
    go_ret2
    exact gotB_mk rfl rfl (Lib.BytesIn.nil _ _ _) (Nat.zero_le _) (by decide) HR.out HRR.out HG.out

set_option maxRecDepth 100000 in
set_option maxHeartbeats 4000000 in
theorem getFixed_short (g : Nat) (p : Option Addr) (n c : Nat) (xs : List Int) (big : Bool) (i : Nat) (b : Int) (t : List Int) (w : World) (h : RS w g p n c xs big i) (hx : xs.drop i = b :: t) (hb : 0 < b ∧ b < 253) (hl : b.toNat ≤ t.length) :
    Calls Tryd.prog 58 #[.pointer (some ⟨g, 0, none⟩)] w (GotB g p n c xs big (t.drop b.toNat) (t.take b.toNat) w) := by
  have C := Lib.hid (getByte_any g p n c xs big i b t w h hx)
  obtain ⟨s, rfl⟩ : ∃ s : Nat, b = s := ⟨b.toNat, by omega⟩
  rw [Int.toNat_natCast] at *
  have HL := Lib.hid hl
  have i0 : (0 : Int) < (s : Int) := by omega
  have i1 : (s : Int) < 253 := by omega
  have e0 : ((s : Int) == 0) = false := by simp; omega
  have e1 : ((s : Int) == 253) = false := by simp; omega
  have e2 : ((s : Int) == 255) = false := by simp; omega
  have e3 : ((s : Int) == 254) = false := by simp; omega
  clear h hx hb hl
  go_enter Tryd.func58, Tryd.ntmps58
  go_wp2_with fail
  refine C.out.mono ?_
  rintro e w1 ⟨i', rfl, hR, hr, hg1⟩
  have HR := Lib.hid hR
  have HRR := Lib.hid hr
  have HG := Lib.hid hg1
  clear hR hr hg1 C
  go_wp2_with fail
  have hi' : i' + s ≤ n := by
    have h1 := congrArg List.length HRR.out
    have h2 := HR.out.len
    have h3 := HL.out
    simp at h1
    have h4 := HR.out.le
    omega
  have C2 := getBytes_any g p n c xs big i' s _ HR.out hi'
  rw [← List.drop_drop, ← HRR.out] at C2
  refine C2.mono ?_
  rintro e w2 H0
  obtain ⟨q, k', m, i2, rfl, H1⟩ := gotB_of_R H0
  have HH := Lib.hid H1
  clear H0 H1 C2
  go_wp2_with fail
  go_ret2
  exact ⟨q, k', m, i2, rfl, HH.out.1, HH.out.2.1, HH.out.2.2.1, HH.out.2.2.2.1, HH.out.2.2.2.2.1, HH.out.2.2.2.2.2.1, grown_trans HG.out HH.out.2.2.2.2.2.2⟩

set_option maxRecDepth 100000 in
set_option maxHeartbeats 4000000 in
theorem getFixed_long (g : Nat) (p : Option Addr) (n c : Nat) (xs : List Int) (big : Bool) (i s : Nat) (t : List Int) (w : World) (h : RS w g p n c xs big i) (hx : xs.drop i = 254 :: t) (h4 : 4 ≤ t.length) (hs : Lib.beZ (t.take 4) = (s : Int)) (hl : s ≤ (t.drop 4).length) :
    Calls Tryd.prog 58 #[.pointer (some ⟨g, 0, none⟩)] w (GotB g p n c xs big ((t.drop 4).drop s) ((t.drop 4).take s) w) := by
  have C := Lib.hid (getByte_any g p n c xs big i 254 t w h hx)
  have hsn : s ≤ 1099511627776 := by
    have h1 := congrArg List.length hx
    have h2 := h.len
    have h3 := h.nm
    simp at h1 hl
    omega
  have HI := Lib.hid (show RdInt 4 false true t (s : Int) (t.drop 4) from by
    refine ⟨h4, rfl, ?_⟩
    show (s : Int) = w64 (Lib.beZ (t.take 4))
    rw [hs, w64_in (by omega) (by omega)])
  have HL := Lib.hid hl
  have i0 : (0 : Int) ≤ (s : Int) := by omega
  have i1 : (s : Int) ≤ 1099511627776 := by omega
  clear h hx h4 hs hl hsn
  go_enter Tryd.func58, Tryd.ntmps58
  go_wp2_with fail
  refine C.out.mono ?_
  rintro e w1 ⟨i', rfl, hR, hr, hg1⟩
  have HR := Lib.hid hR
  have HRR := Lib.hid hr
  have HG := Lib.hid hg1
  clear hR hr hg1 C
  go_wp2_with fail
  refine (getInt_any g p n c xs big false true i' 4 (s : Int) (t.drop 4) w1 HR.out (fun _ => by omega) (by rw [← HRR.out]; exact HI.out)).mono ?_
  rintro e w2 ⟨i2, rfl, hR, hr, hg2⟩
  have HR2 := Lib.hid hR
  have HRR2 := Lib.hid hr
  have HG2 := Lib.hid hg2
  clear hR hr hg2
  go_wp2_with fail
  have hi' : i2 + s ≤ n := by
    have h1 := congrArg List.length HRR2.out
    have h2 := HR2.out.len
    have h3 := HL.out
    simp at h1 h3
    have h4 := HR2.out.le
    omega
  have C2 := getBytes_any g p n c xs big i2 s _ HR2.out hi'
  rw [← List.drop_drop, ← HRR2.out] at C2
  refine C2.mono ?_
  rintro e w3 H0
  obtain ⟨q, k', m, i3, rfl, H1⟩ := gotB_of_R H0
  have HH := Lib.hid H1
  clear H0 H1 C2
  go_wp2_with fail
  go_ret2
  exact ⟨q, k', m, i3, rfl, HH.out.1, HH.out.2.1, HH.out.2.2.1, HH.out.2.2.2.1, HH.out.2.2.2.2.1, HH.out.2.2.2.2.2.1, grown_trans (grown_trans HG.out HG2.out) HH.out.2.2.2.2.2.2⟩

theorem getFixed_any (g : Nat) (p : Option Addr) (n c : Nat) (xs : List Int) (big : Bool) (i : Nat) (d r : List Int) (w : World) (h : RS w g p n c xs big i) (hx : RdFixed (xs.drop i) d r) :
    Calls Tryd.prog 58 #[.pointer (some ⟨g, 0, none⟩)] w (GotB g p n c xs big r d w) := by
  obtain ⟨b, t, hbt, h1 | h1 | h1⟩ := hx
  · obtain ⟨hb, rfl, rfl⟩ := h1
    exact getFixed_none g p n c xs big i b r w h hbt hb
  · obtain ⟨rfl, h4, hl, rfl, rfl⟩ := h1
    have hz := beZ_range (t.take 4) (fun x hx => h.byt x (List.mem_of_mem_drop (i := i) (by rw [hbt]; exact List.mem_cons_of_mem _ (List.mem_of_mem_take hx))))
    exact getFixed_long g p n c xs big i _ t w h hbt h4 (by omega) hl
  · obtain ⟨hb, hl, rfl, rfl⟩ := h1
    exact getFixed_short g p n c xs big i b t w h hbt hb hl

set_option maxRecDepth 100000 in
set_option maxHeartbeats 4000000 in
/-- Peek: some bytes that are there. -/
theorem peek_any (g : Nat) (p : Option Addr) (n c : Nat) (xs : List Int) (big : Bool) (i k : Nat) (w : World) (h : RS w g p n c xs big i) (hk : i + k ≤ n) :
    Calls Tryd.prog 59 #[.pointer (some ⟨g, 0, none⟩), .int .i64 k] w (GotB g p n c xs big (xs.drop i) ((xs.drop i).take k) w) := by
  have C := Lib.hid (read_any g p n c xs big i k w h hk)
  have c4 : w.cell? ⟨g, 4, none⟩ = some (.int .i64 i) := h.blk.cell 4
  have HLE := Lib.hid h.le
  clear h hk
  go_enter Tryd.func59, Tryd.ntmps59
  go_wp2_with fail
  refine C.out.mono ?_
  rintro e w1 ⟨q, l, m, i1, rfl, hl, hin, hlm, hmm, _, hR, hr, hg1⟩
  have d4 : w1.cell? ⟨g, 4, none⟩ = some (.int .i64 i1) := hR.blk.cell 4
  have f4 : w1.frozen? ⟨g, 4, none⟩ = false := hR.blk.frozen 4
  have HL := Lib.hid hl
  have HIN := Lib.hid hin
  have HR := Lib.hid hR
  have HG := Lib.hid hg1
  clear hl hin hR hr hg1 c4 C
  go_wp2_with fail
  go_ret2
  have hg2 := Lib.grownBy_setCell w1 g 4 (.int .i64 (i : Int))
  exact gotB_mk rfl HL.out (HR.out.bin_on HIN.out hg2) hlm hmm (HR.out.put HLE.out) rfl (grown_trans HG.out hg2)

set_option maxRecDepth 100000 in
set_option maxHeartbeats 4000000 in
/-- long: no, where the first byte tells at most eight. -/
theorem long_no (g : Nat) (p : Option Addr) (n c : Nat) (xs : List Int) (big : Bool) (i : Nat) (b : Int) (t : List Int) (w : World) (h : RS w g p n c xs big i) (hx : xs.drop i = b :: t) (hb : (b % 128).toNat ≤ 8) :
    Calls Tryd.prog 52 #[.pointer (some ⟨g, 0, none⟩)] w fun e w' => e = .returned (.bool false) ∧ RS w' g p n c xs big i ∧ w.grownBy w' (some g) := by
  have hl : i + 1 ≤ n := by
    have := congrArg List.length hx
    simp at this
    have := h.len
    omega
  have C := Lib.hid (peek_any g p n c xs big i 1 w h hl)
  have hbb := h.byt b (List.mem_of_mem_drop (i := i) (by rw [hx]; simp))
  have hm := and127b b hbb.1 hbb.2
  have HX := Lib.hid hx
  have HI := Lib.hid h.le
  have HN := Lib.hid h.len
  have i0 : (0 : Int) ≤ b % 128 := by omega
  have i1 : b % 128 ≤ 8 := by omega
  clear h hx hb hbb
  go_enter Tryd.func52, Tryd.ntmps52
  go_wp2_with fail
  refine C.out.mono ?_
  rintro e w1 ⟨q, l, m, i1, rfl, hl, hin, hlm, hmm, hR, hr, hg1⟩
  obtain rfl : l = 1 := by rw [← hl, HX.out]; rfl
  obtain ⟨g1, o1, rfl, hc⟩ := hin (by omega)
  have c0 : w1.cell? ⟨g1, o1, none⟩ = some (.int .u8 b) := by have := hc 0 (by omega); rw [HX.out] at this; exact this
  have HR := Lib.hid hR
  have HRR := Lib.hid hr
  have HG := Lib.hid hg1
  clear hl hin hc hR hr hg1 C
  go_wp2
  go_ret
  have e := drop_at HR.out.len HI.out HR.out.le (congrArg List.length HRR.out)
  subst e
  exact ⟨by simp; omega, HR.out, HG.out⟩

set_option maxRecDepth 100000 in
set_option maxHeartbeats 4000000 in
theorem rest_some (g b o n c : Nat) (xs : List Int) (big : Bool) (i : Nat) (w : World) (h : RS w g (some ⟨b, o, none⟩) n c xs big i) (hne : i ≠ c) :
    Calls Tryd.prog 34 #[.pointer (some ⟨g, 0, none⟩)] w fun e w' => e = .returned (.slice (some ⟨b, o + i, none⟩) (n - i) (c - i)) ∧ ∃ nq, w' = w.drewN nq := by
  have c0 : w.cell? ⟨g, 0, none⟩ = some (.slice (some ⟨b, o, none⟩) n c) := h.blk.cell 0
  have c4 : w.cell? ⟨g, 4, none⟩ = some (.int .i64 i) := h.blk.cell 4
  have hnc := h.nc
  have hle := h.le
  have hcm := h.cm
  unfold maxLen at hcm
  have i0 : (0 : Int) ≤ (i : Int) := by omega
  have i2 : ((i : Nat) : Int) ≤ (n : Int) := by omega
  have i3 : ((n : Nat) : Int) ≤ (c : Int) := by omega
  have i4 : ((c : Nat) : Int) ≤ 9223372036854775807 := by omega
  have e4 : (c = i) = False := by simp; omega
  clear h hne hnc hcm hle
  go_enter Tryd.func34, Tryd.ntmps34
  go_wp2
  go_quiet (fail)
  go_wp2
  go_ret
  exact ⟨rfl, _, rfl⟩
set_option maxRecDepth 100000 in
set_option maxHeartbeats 4000000 in
theorem rest_end (g : Nat) (p : Option Addr) (n : Nat) (xs : List Int) (big : Bool) (w : World) (h : RS w g p n n xs big n) :
    Calls Tryd.prog 34 #[.pointer (some ⟨g, 0, none⟩)] w fun e w' => e = .returned (.slice p 0 0) ∧ ∃ nq, w' = w.drewN nq := by
  have c0 : w.cell? ⟨g, 0, none⟩ = some (.slice p n n) := h.blk.cell 0
  have c4 : w.cell? ⟨g, 4, none⟩ = some (.int .i64 n) := h.blk.cell 4
  have hcm := h.nm
  have i0 : (0 : Int) ≤ (n : Int) := by omega
  have i4 : ((n : Nat) : Int) ≤ 1099511627776 := by omega
  clear hcm h
  go_enter Tryd.func34, Tryd.ntmps34
  go_wp2
  go_quiet (fail)
  go_wp2
  go_ret
  exact ⟨by simp, _, rfl⟩
/-- Rest: what is left. -/
theorem rest_any (g : Nat) (p : Option Addr) (n c : Nat) (xs : List Int) (big : Bool) (i : Nat) (w : World) (h : RS w g p n c xs big i) :
    Calls Tryd.prog 34 #[.pointer (some ⟨g, 0, none⟩)] w fun e w' => ∃ q l m nq, e = .returned (.slice q l m) ∧ (xs.drop i).length = l ∧ Lib.BytesIn w' q l (xs.drop i) ∧ w' = w.drewN nq := by
  have h1 := h.nc
  have h2 := h.le
  have h3 := h.len
  by_cases hc : i = c
  · obtain rfl : n = c := by omega
    subst hc
    refine (rest_end g p i xs big w h).mono ?_
    rintro e w' ⟨rfl, nq, rfl⟩
    exact ⟨p, 0, 0, nq, rfl, by simp; omega, Lib.BytesIn.nil _ _ _, rfl⟩
  · cases p with
    | none => have := h.nl rfl; omega
    | some a =>
      obtain ⟨b, o, rfl, hbg⟩ := h.old a rfl
      refine (rest_some g b o n c xs big i w h hc).mono ?_
      rintro e w' ⟨rfl, nq, rfl⟩
      refine ⟨_, n - i, _, nq, rfl, by simp; omega, ?_, rfl⟩
      have := win_bin (w := w.drewN nq) (b := b) (o := o) (n := n) (i := i) (k := n - i) (xs := xs) h.inp h3 (by omega)
      rwa [List.take_of_length_le (by simp; omega)] at this
end Go.Proofs.YtacmnibhdmeidaaDoor
