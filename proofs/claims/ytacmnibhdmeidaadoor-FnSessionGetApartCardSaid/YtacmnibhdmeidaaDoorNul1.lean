/-
  impl.got at a text, and SessionGet with texts (printed by mknul1.py).
-/
import Derived.Test.YtacmnibhdmeidaaDoorNul0
import Derived.Test.YtacmnibhdmeidaaDoorSes12
import Derived.Test.YtacmnibhdmeidaaDoorRdr5
import Derived.Deep.RegionWith
import Derived.Deep.DeepCutAuto
import Derived.Deep.CutBlock
namespace Go.Proofs.YtacmnibhdmeidaaDoor
open Go Go.RowKit

theorem gotC_s {w W wx : World} {g G Rb n c i : Nat} {p : Option Addr} {xs r : List Int} {big : Bool} {s : ByteArray} (h : Pre w W g G Rb) (hRS : RS wx g p n c xs big i) (hr : r = xs.drop i) (hg : W.grownBy wx (some g)) :
    GotC G Rb g p n c xs big r ⟨[], [], 0, s⟩ w (wx.setCell ⟨G, 4, none⟩ (.string s)) := by
  obtain ⟨b1, b2, hw⟩ := h.on hg
  have b3 := b1.set_ 4 (.string s)
  have b4 : Blk (wx.setCell ⟨G, 4, none⟩ (.string s)) Rb 46 _ := (Below.heap_setCell _ _ _ _ h.ne).trans b2
  have hG := h.hG
  have hgw := h.gw
  exact ⟨none, 0, 0, none, 0, 0, i, by simpa [gotA] using b3, b4, rfl, Lib.BytesIn.nil _ _ _, rfl, Lib.BytesIn.nil _ _ _, hRS.grown (Lib.grownBy_setCell wx G 4 _) (by omega), hr, grown_set hw (by exact hG) _, by simp, by simp⟩
/-- A text is read. -/
def RdText (sz : Nat) (l : List Int) (s : ByteArray) (r : List Int) : Prop := sz ≤ l.length ∧ ∃ k, Idx0 (l.take sz) k ∧ (k = -1 ∧ s = textB (l.take sz) ∧ r = l.drop sz ∨ ∃ j : Nat, 0 < j ∧ k = j ∧ s = textB ((l.take sz).take j) ∧ r = l.drop (j + 1))
set_option maxRecDepth 100000 in
set_option maxHeartbeats 64000000 in
theorem got7_any (g : Nat) (p : Option Addr) (n c : Nat) (xs : List Int) (big : Bool) (i kd sz : Nat) (bg cm : Bool) (v : GRec) (r : List Int) (w : World) (h : RS w g p n c xs big i) (hk : kd = 7) (hsz : sz ≤ 255) (tx : ByteArray) (hv : v = ⟨[], [], 0, tx⟩) (hs : RdText sz (xs.drop i) tx r) :
    Calls Tryd.prog 33 #[.pointer (some ⟨g, 0, none⟩), .agg #[.int .i64 (kd : Int), .int .i64 (sz : Int), .bool bg, .bool cm]] w (GotG g p n c xs big r v w) := by
  have hlt := h.blk.lt
  have H := Lib.hid h
  have HS := Lib.hid hs
  have i0 : (0 : Int) ≤ (sz : Int) := by omega
  have HK7 := Lib.hid hk
  have HSZ := Lib.hid hsz
  have HVV := Lib.hid hv
  clear h hs hk hsz hv
  go_enter Tryd.func33, Tryd.ntmps33
  go_upto_block 0 with (fail)
  generalize hW : ((w.alloc (.cells #[.int .i64 (kd : Int), .int .i64 (sz : Int), .bool bg, .bool cm] 44)).alloc (.cells #[.bool false, .slice none 0 0, .slice none 0 0, .int .i64 0, .string { data := #[] }] 46)).alloc (.cells #[.bool false, .slice none 0 0, .slice none 0 0, .int .i64 0, .string { data := #[] }] 46) = W
  obtain ⟨G, hG⟩ : ∃ G, G = w.heap.size + 1 + 1 := ⟨_, rfl⟩
  obtain ⟨Rb, hRb⟩ : ∃ Rb, Rb = w.heap.size + 1 := ⟨_, rfl⟩
  obtain ⟨Sb, hSb⟩ : ∃ Sb, Sb = w.heap.size := ⟨_, rfl⟩
  have HX := Lib.hid (show Blk W Sb 44 #[.int .i64 (kd : Int), .int .i64 (sz : Int), .bool bg, .bool cm] from by rw [hSb, ← hW]; exact ((Blk.new w _ _).alloc _).alloc _)
  have HPre := Lib.hid (show Pre w W g G Rb from ⟨hlt, by omega, by omega, by omega,
    by rw [hG, ← hW]; have := Blk.new2 (w.alloc (.cells #[.int .i64 (kd : Int), .int .i64 (sz : Int), .bool bg, .bool cm] 44)) (.cells #[.bool false, .slice none 0 0, .slice none 0 0, .int .i64 0, .string { data := #[] }] 46) 46 #[.bool false, .slice none 0 0, .slice none 0 0, .int .i64 0, .string { data := #[] }]; rw [World.size_alloc] at this; exact this,
    by rw [hRb, ← hW]; exact (Blk.new2 w _ _ _).alloc _,
    by rw [← hW]; exact (((Kp.refl w).alloc _).alloc _).alloc _⟩)
  have HRS := Lib.hid (H.out.kp HPre.out.kp)
  have hSG : Sb ≠ g := by omega
  have HSG := Lib.hid hSG
  rw [← hG, ← hRb, ← hSb]
  clear hW hG hRb hSb hSG
  go_cut [1, 6, 15] (fun _ s6 _ wx => s6 = .nilIface ∧ GotC G Rb g p n c xs big r v w wx)
  case first =>
    have x1 : W.cell? ⟨Sb, 1, none⟩ = some (.int .i64 (sz : Int)) := HX.out.cell 1
    have x2 : W.cell? ⟨Sb, 2, none⟩ = some (.bool bg) := HX.out.cell 2
    have x3 : W.cell? ⟨Sb, 3, none⟩ = some (.bool cm) := HX.out.cell 3
    have e : (kd : Int) = 7 := by have := HK7.out; omega
    have hv := HVV.out
    subst hv
    obtain ⟨hl, ki, hidx, hres⟩ := HS.out
    have HL := Lib.hid hl
    have HIX := Lib.hid hidx
    have HRE := Lib.hid hres
    clear hl hidx hres
    go_wp2_with fail
    refine (getNull_any g p n c xs big i sz ki W HRS.out (by have := H.out.len; have := H.out.le; have h := HL.out; rw [List.length_drop] at h; omega) HSZ.out HIX.out r tx HRE.out).mono ?_
    rintro e w1 ⟨i1, rfl, hR, hr1, hg1⟩
    have HR := Lib.hid hR
    have HRR := Lib.hid hr1
    have HG1 := Lib.hid hg1
    have y4 : w1.cell? ⟨G, 4, none⟩ = some (.string ⟨#[]⟩) := (HPre.out.on HG1.out).1.cell 4
    have f4 : w1.frozen? ⟨G, 4, none⟩ = false := (HPre.out.on HG1.out).1.frozen 4
    clear hR hr1 hg1 x1 x2 x3
    go_wp2_with fail
    go_meet
    exact ⟨rfl, gotC_s HPre.out HR.out HRR.out HG1.out⟩
  case rest =>
    obtain ⟨rfl, q1, k1, m1, q2, k2, m2, i2, b1, b2, hl1, hin1, hl2, hin2, hR, hr, hg, hd1, hd2⟩ := hcut
    have HB1 := Lib.hid b1
    have HB2 := Lib.hid b2
    have HL1 := Lib.hid hl1
    have HIN1 := Lib.hid hin1
    have HL2 := Lib.hid hl2
    have HIN2 := Lib.hid hin2
    have HR := Lib.hid hR
    have HRR := Lib.hid hr
    have HG := Lib.hid hg
    have HD1 := Lib.hid hd1
    have HD2 := Lib.hid hd2
    have y0 : wc.cell? ⟨G, 0, none⟩ = some (.bool false) := b1.cell 0
    have f0 : wc.frozen? ⟨G, 0, none⟩ = false := b1.frozen 0
    clear b1 b2 hl1 hin1 hl2 hin2 hR hr hg hd1 hd2
    go_wp2_with fail
    generalize hX : wc.setCell ⟨G, 0, none⟩ (.bool true) = X
    have HXB := Lib.hid (show Blk X G 46 (gotA true q1 k1 m1 q2 k2 m2 v.x v.tx) from by have := HB1.out.set_ 0 (.bool true); rw [hX] at this; simpa [gotA] using this)
    have HXR := Lib.hid (show Blk X Rb 46 (gotA false none 0 0 none 0 0 0 noText) from by rw [← hX]; exact (Below.heap_setCell _ ⟨G, 0, none⟩ _ _ HPre.out.ne).trans HB2.out)
    have HX1 := Lib.hid (show Lib.BytesIn X q1 k1 v.d1 from bin_nb HB1.out (gotA_nb _ _ _ _ _ _ _ _ _) HIN1.out (fun b _ hb => by rw [← hX]; exact Below.heap_setCell _ ⟨G, 0, none⟩ _ _ hb))
    have HX2 := Lib.hid (show Lib.BytesIn X q2 k2 v.d2 from bin_nb HB1.out (gotA_nb _ _ _ _ _ _ _ _ _) HIN2.out (fun b _ hb => by rw [← hX]; exact Below.heap_setCell _ ⟨G, 0, none⟩ _ _ hb))
    have HXS := Lib.hid (show RS X g p n c xs big i2 from by rw [← hX]; exact HR.out.grown (Lib.grownBy_setCell wc G 0 _) (by have := HPre.out.gw; have := HPre.out.hG; omega))
    have HXG := Lib.hid (show w.grownBy X (some g) from by rw [← hX]; exact grown_set HG.out (by exact HPre.out.hG) _)
    have x1 : X.cell? ⟨G, 1, none⟩ = some (.slice q1 k1 m1) := HXB.out.cell 1
    have x2 : X.cell? ⟨G, 2, none⟩ = some (.slice q2 k2 m2) := HXB.out.cell 2
    have z1 : X.frozen? ⟨G, 1, none⟩ = false := HXB.out.frozen 1
    have z2 : X.frozen? ⟨G, 2, none⟩ = false := HXB.out.frozen 2
    clear hX y0 f0 HX HRS HB1 HB2 HIN1 HIN2 HR HG
    go_region_with (first
      | (go_at_call 9
         refine (clone_any _ q1 k1 m1 v.d1 ?_ HL1.out (by have := HL1.out; have := HD1.out; omega)).mono ?_
         exact HX1.out
         rintro e w3 ⟨q3, e3, rfl, hown, hb3⟩
         have HO3 := Lib.hid (bin_of_own hown)
         have HF3 := Lib.hid (own_fresh hown)
         have HK3 := Lib.hid (show Kp X w3 from ⟨hb3.os, hb3.tape, hb3.output, hb3.size, hb3.block⟩)
         have x1 : w3.cell? ⟨G, 1, none⟩ = some (.slice q1 k1 m1) := (HXB.out.kp HK3.out).cell 1
         have x2 : w3.cell? ⟨G, 2, none⟩ = some (.slice q2 k2 m2) := (HXB.out.kp HK3.out).cell 2
         have z1 : w3.frozen? ⟨G, 1, none⟩ = false := (HXB.out.kp HK3.out).frozen 1
         have z2 : w3.frozen? ⟨G, 2, none⟩ = false := (HXB.out.kp HK3.out).frozen 2
         clear hown hb3)
      | (go_at_call 9
         refine (clone_any _ q2 k2 m2 v.d2 ?_ HL2.out (by have := HL2.out; have := HD2.out; omega)).mono ?_
         exact bin_kp HX2.out HK3.out
         rintro e w4 ⟨q4, e4, rfl, hown, hb4⟩
         have HO4 := Lib.hid (bin_of_own hown)
         have HF4 := Lib.hid (own_fresh hown)
         have HK34 := Lib.hid (show Kp w3 w4 from ⟨hb4.os, hb4.tape, hb4.output, hb4.size, hb4.block⟩)
         have HK4 := Lib.hid (HK3.out.trans HK34.out)
         have x1 : w4.cell? ⟨G, 1, none⟩ = some (.slice q1 k1 m1) := (HXB.out.kp HK4.out).cell 1
         have x2 : w4.cell? ⟨G, 2, none⟩ = some (.slice q2 k2 m2) := (HXB.out.kp HK4.out).cell 2
         have z1 : w4.frozen? ⟨G, 1, none⟩ = false := (HXB.out.kp HK4.out).frozen 1
         have z2 : w4.frozen? ⟨G, 2, none⟩ = false := (HXB.out.kp HK4.out).frozen 2
         clear hown hb4))
    all_goals
      generalize hY : (w4.setCell ⟨G, 1, none⟩ (.slice q3 k1 e3)).setCell ⟨G, 2, none⟩ (.slice q4 k2 e4) = Y
      have hkY : ∀ b, b ≠ G → Y.heap[b]? = w4.heap[b]? := fun b hb => by rw [← hY]; exact (Below.heap_setCell _ ⟨G, 2, none⟩ _ _ hb).trans (Below.heap_setCell _ ⟨G, 1, none⟩ _ _ hb)
      have hbY : Blk Y G 46 (gotA true q3 k1 e3 q4 k2 e4 v.x v.tx) := by have := ((HXB.out.kp HK4.out).set_ 1 (.slice q3 k1 e3)).set_ 2 (.slice q4 k2 e4); rw [hY] at this; simpa [gotA] using this
      have hrY : Blk Y Rb 46 (gotA false none 0 0 none 0 0 0 noText) := (hkY _ HPre.out.ne).trans (HXR.out.kp HK4.out)
      have HBY := Lib.hid hbY
      have HRY := Lib.hid hrY
      have HGY := Lib.hid (show w.grownBy Y (some g) from by rw [← hY]; exact grown_set (grown_set (grown_trans HXG.out (grown_below HK4.out _)) (by exact HPre.out.hG) _) (by exact HPre.out.hG) _)
      have HSY := Lib.hid (show RS Y g p n c xs big i2 from by rw [← hY]; exact ((HXS.out.kp HK4.out).grown (Lib.grownBy_setCell w4 G 1 _) (by have := HPre.out.gw; have := HPre.out.hG; omega)).grown (Lib.grownBy_setCell _ G 2 _) (by have := HPre.out.gw; have := HPre.out.hG; omega))
      have H3Y := Lib.hid (show Lib.BytesIn Y q3 k1 v.d1 from bin_nb (HXB.out.kp HK4.out) (gotA_nb _ _ _ _ _ _ _ _ _) (bin_kp HO3.out HK34.out) (fun b _ hb => hkY b hb))
      have H4Y := Lib.hid (show Lib.BytesIn Y q4 k2 v.d2 from bin_nb (HXB.out.kp HK4.out) (gotA_nb _ _ _ _ _ _ _ _ _) HO4.out (fun b _ hb => hkY b hb))
      have a0 : Y.cell? ⟨G, 0, none⟩ = some (.bool true) := hbY.cell 0
      have a1 : Y.cell? ⟨G, 1, none⟩ = some (.slice q3 k1 e3) := hbY.cell 1
      have a2 : Y.cell? ⟨G, 2, none⟩ = some (.slice q4 k2 e4) := hbY.cell 2
      have a3 : Y.cell? ⟨G, 3, none⟩ = some (.int .i64 v.x) := hbY.cell 3
      have a4 : Y.cell? ⟨G, 4, none⟩ = some (.string v.tx) := hbY.cell 4
      have r0 : Y.cell? ⟨Rb, 0, none⟩ = some (.bool false) := hrY.cell 0
      have r1 : Y.cell? ⟨Rb, 1, none⟩ = some (.slice none 0 0) := hrY.cell 1
      have r2 : Y.cell? ⟨Rb, 2, none⟩ = some (.slice none 0 0) := hrY.cell 2
      have r3 : Y.cell? ⟨Rb, 3, none⟩ = some (.int .i64 0) := hrY.cell 3
      have r4 : Y.cell? ⟨Rb, 4, none⟩ = some (.string noText) := hrY.cell 4
      have e0 : Y.frozen? ⟨Rb, 0, none⟩ = false := hrY.frozen 0
      have e1 : Y.frozen? ⟨Rb, 1, none⟩ = false := hrY.frozen 1
      have e2 : Y.frozen? ⟨Rb, 2, none⟩ = false := hrY.frozen 2
      have e3' : Y.frozen? ⟨Rb, 3, none⟩ = false := hrY.frozen 3
      have e4' : Y.frozen? ⟨Rb, 4, none⟩ = false := hrY.frozen 4
      have HSZ := Lib.hid (show Y.heap.size = w4.heap.size from by rw [← hY]; simp [World.setCell])
      have HFY3 := Lib.hid (show ∀ a, q3 = some a → w.heap.size ≤ a.block ∧ a.block < Y.heap.size from fun a ha => by
        have h1 := HF3.out a ha; have h2 := HXG.out.size; have h3 := HK34.out.size; (try simp only [World.size_drew] at h1); rw [HSZ.out]; omega)
      have HFY4 := Lib.hid (show ∀ a, q4 = some a → w.heap.size ≤ a.block ∧ a.block < Y.heap.size from fun a ha => by
        have h1 := HF4.out a ha; have h2 := HXG.out.size; have h3 := HK3.out.size; (try simp only [World.size_drew] at h1); rw [HSZ.out]; omega)
      clear hY hkY hbY hrY
      go_wp2_with fail
    all_goals
      have hbl := filled_blk (q1 := q3) (k1 := k1) (m1 := e3) (q2 := q4) (k2 := k2) (m2 := e4) (x := v.x) (s := v.tx) HRY.out
      have hfin := fun e he => filled_got (m1 := e3) (m2 := e4) (v := v) (e := e) he HRY.out HPre.out.gw HPre.out.hR HL1.out H3Y.out HL2.out H4Y.out HSY.out HRR.out HGY.out HFY3.out HFY4.out
      unfold filled at hbl hfin
      generalize ((((Y.setCell ⟨Rb, 0, none⟩ (.bool true)).setCell ⟨Rb, 1, none⟩ (.slice q3 k1 e3)).setCell ⟨Rb, 2, none⟩ (.slice q4 k2 e4)).setCell ⟨Rb, 3, none⟩ (.int .i64 v.x)).setCell ⟨Rb, 4, none⟩ (.string v.tx) = Z at *
      have s0 : Z.cell? ⟨Rb, 0, none⟩ = some (.bool true) := hbl.cell 0
      have s1 : Z.cell? ⟨Rb, 1, none⟩ = some (.slice q3 k1 e3) := hbl.cell 1
      have s2 : Z.cell? ⟨Rb, 2, none⟩ = some (.slice q4 k2 e4) := hbl.cell 2
      have s3 : Z.cell? ⟨Rb, 3, none⟩ = some (.int .i64 v.x) := hbl.cell 3
      have s4 : Z.cell? ⟨Rb, 4, none⟩ = some (.string v.tx) := hbl.cell 4
      exact bodyPost_ret (v := .agg #[.bool true, .slice q3 k1 e3, .slice q4 k2 e4, .int .i64 v.x, .string v.tx]) (by simp [results, Tryd.results33, go_sem, s0, s1, s2, s3, s4]) rfl (hfin _ rfl)

theorem gotT_any (g : Nat) (p : Option Addr) (n c : Nat) (xs : List Int) (big : Bool) (i kd sz : Nat) (bg cm : Bool) (v : GRec) (r : List Int) (w : World) (h : RS w g p n c xs big i) (hs : StepT big kd sz bg cm (xs.drop i) v r) (hz : sz ≤ 255) :
    Calls Tryd.prog 33 #[.pointer (some ⟨g, 0, none⟩), .agg #[.int .i64 (kd : Int), .int .i64 (sz : Int), .bool bg, .bool cm]] w (GotG g p n c xs big r v w) := by
  rcases hs with hs | ⟨hk, hl, k, hi, hr⟩
  · exact got_any g p n c xs big i kd sz bg cm v r w h hs
  · rcases hr with ⟨h1, rfl, h2⟩ | ⟨j, h0, h1, rfl, h2⟩
    · exact got7_any g p n c xs big i kd sz bg cm _ r w h hk hz _ rfl ⟨hl, k, hi, .inl ⟨h1, rfl, h2⟩⟩
    · exact got7_any g p n c xs big i kd sz bg cm _ r w h hk hz _ rfl ⟨hl, k, hi, .inr ⟨j, h0, h1, rfl, h2⟩⟩
/-- What the readings point to is new. -/
def Lo (w : World) (k : Nat) (Q : Nat → GPlace) : Prop := ∀ r, r < k → (∀ a, (Q r).q1 = some a → w.heap.size ≤ a.block) ∧ (∀ a, (Q r).q2 = some a → w.heap.size ≤ a.block)
theorem Lo.next {w : World} {k : Nat} {Q : Nat → GPlace} (h : Lo w k Q) {pl : GPlace} (h1 : ∀ a, pl.q1 = some a → w.heap.size ≤ a.block) (h2 : ∀ a, pl.q2 = some a → w.heap.size ≤ a.block) : Lo w (k + 1) (fun r => if r = k then pl else Q r) := fun r hr => by
  by_cases e : r = k
  · subst e; simp only [if_pos]; exact ⟨h1, h2⟩
  · simp only [if_neg e]; exact h r (by omega)
/-- A run of steps, texts too. -/
def RunT (big : Bool) (n : Nat) (P : Nat → GStep) (L : Nat → List Int) (V : Nat → GRec) : Prop := ∀ r, r < n → StepT big (P r).kind (P r).size (P r).big (P r).comp (L r) (V r) (L (r + 1)) ∧ (P r).size ≤ 255
set_option maxRecDepth 100000 in
set_option maxHeartbeats 16000000 in
theorem sessionGetT_any (p : Option Addr) (m cp : Nat) (xs : List Int) (a : Option Addr) (n c : Nat) (P : Nat → GStep) (L : Nat → List Int) (V : Nat → GRec) (big : Bool) (w : World) (hi : Lib.BytesIn w p m xs) (hx : xs.length = m) (hb : ∀ x ∈ xs, 0 ≤ x ∧ x < 256) (hm : m ≤ 1000000000) (h : GetsIn w a n P) (hn : n ≤ 1000) (hL : L 0 = xs) (hR : RunT big n P L V) :
    Calls Tryd.prog 14 #[.slice p m cp, .slice a n c, .bool big] w fun e w' => ∃ v q l d Q, e = .returned (.tuple #[v, .slice q l d]) ∧ w'.ownsRow w.heap.size 46 5 v n (gotRow Q V n) ∧ GotsIn w' n Q V ∧ Lo w n Q ∧ (L n).length = l ∧ Lib.BytesIn w' q l (L n) ∧ Below w.heap.size w w' ∧ (∀ a, q = some a → w.heap.size ≤ a.block) := by
  have HP := Lib.hid h
  have HR := Lib.hid hR
  have HN := Lib.hid hn
  have HX := Lib.hid hx
  have HB := Lib.hid hb
  have HL := Lib.hid hL
  have HM := Lib.hid hm
  have i0 : (n : Int) ≤ 1000 := by omega
  have CL := Lib.hid (clone_any w p m cp xs hi hx (by omega))
  clear h hR hn hx hb hL hi hm
  go_enter Tryd.func14, Tryd.ntmps14
  go_wp2_with fail
  refine CL.out.mono ?_
  rintro e w1 ⟨q1, d1, rfl, hown, hb1⟩
  have HO := Lib.hid hown
  have HB1 := Lib.hid hb1
  clear hown hb1 CL
  go_wp2_with fail
  refine (newSession_any _ _ ⟨_, _, _, rfl⟩).mono ?_
  rintro e w2 ⟨rfl, rfl⟩
  go_wp2_with fail
  generalize hW : w1.alloc (.cells #[.slice q1 m d1, .slice none 0 0, .int .i64 0, .int .i8 0, .int .i64 0, .bool big, .int .i64 64] 94) = W
  obtain ⟨g, hg⟩ : ∃ g, g = w1.heap.size := ⟨_, rfl⟩
  have hWs : W.heap.size = g + 1 := by rw [← hW, hg]; simp
  have hgw : w.heap.size ≤ g := by rw [hg]; exact HB1.out.size
  have HFR := Lib.hid (own_fresh HO.out)
  have H0 := Lib.hid (show GetRel g q1 m d1 xs big L V w 0 (.slice none 0 0) W (fun _ => ⟨none, 0, 0, none, 0, 0⟩) 0 from
    { own := by rw [← hWs]; exact World.ownsRow_nil _ _ _ _
      gots := fun r hr => absurd hr (by omega)
      far := fun r hr => absurd hr (by omega)
      rs :=
        { blk := by rw [hg, ← hW]; exact Blk.new w1 _ _
          inp := by rw [← hW]; exact bin_alloc (bin_of_own HO.out) _
          old := fun a ha => by
            subst ha
            rcases HO.out.2 with ⟨h, _⟩ | ⟨g', cap, cur, h, _⟩
            · cases h
            · injection h with h1
              injection h1 with h1
              subst h1
              exact ⟨g', 0, rfl, by rw [hg]; exact (HFR.out _ rfl).2⟩
          len := HX.out
          byt := HB.out
          le := Nat.zero_le _
          nc := own_cap HO.out
          nm := by have := HM.out; omega
          cm := by
            rcases HO.out.2 with ⟨h, _⟩ | ⟨_, _, _, h, _, _, _, hm, _⟩
            · injection h with _ _ h3; subst h3; decide
            · injection h with _ _ h3; omega
          nl := fun hq => by
            subst hq
            rcases HO.out.2 with ⟨h, _⟩ | ⟨_, _, _, h, _⟩
            · injection h
            · cases h }
      left := by rw [HL.out]; rfl
      kp := by rw [← hW]; exact HB1.out.alloc HB1.out.size _ })
  have HGW := Lib.hid hgw
  rw [← hg]
  clear hW hg hWs hgw
  go_loopg [22, 9] n (fun G st v wr => ∃ (k : Nat) (v0 : Value) (Q : Nat → GPlace) (i : Nat), G = n - k ∧ k ≤ n ∧ st = .int .i64 (k : Int) ∧ v0 = v ∧ GetRel g q1 m d1 xs big L V w k v0 wr Q i ∧ Lo w k Q)
  case atStart => exact ⟨0, _, _, 0, rfl, Nat.zero_le _, rfl, rfl, H0.out, fun r hr => absurd hr (by omega)⟩
  case round =>
    obtain ⟨k, v, Q, i, rfl, hk, rfl, rfl, hrel, hlo⟩ := hrel
    have HLO := Lib.hid hlo
    clear hlo
    have HREL := Lib.hid hrel
    have HKN := Lib.hid hk
    have i1 : (0 : Int) ≤ (k : Int) := by omega
    have i2 : (k : Int) ≤ (n : Int) := by omega
    clear hrel hk
    by_cases hlt : k < n
    · have i3 : (k : Int) < (n : Int) := by omega
      obtain ⟨b, o, rfl, hc⟩ := (HP.out.kp HREL.out.kp) k hlt
      have HST := Lib.hid (HR.out k hlt)
      have HLT := Lib.hid hlt
      clear hlt
      generalize P k = s at *
      have d0 : wr.cell? ⟨b, o + k * 4, none⟩ = some (.int .i64 s.kind) := hc 0 _ rfl
      have d1' : wr.cell? ⟨b, o + k * 4 + 1, none⟩ = some (.int .i64 s.size) := hc 1 _ rfl
      have d2 : wr.cell? ⟨b, o + k * 4 + 2, none⟩ = some (.bool s.big) := hc 2 _ rfl
      have d3 : wr.cell? ⟨b, o + k * 4 + 3, none⟩ = some (.bool s.comp) := hc 3 _ rfl
      clear hc
      go_wp2_with fail
      have hrs := HREL.out.rs.kp ((Kp.refl wr).alloc (.cells #[.int .i64 (s.kind : Int), .int .i64 (s.size : Int), .bool s.big, .bool s.comp] 44))
      refine (gotT_any g q1 m d1 xs big i s.kind s.size s.big s.comp (V k) (L (k + 1)) _ hrs (by rw [← HREL.out.left]; exact HST.out.1) HST.out.2).mono ?_
      rintro e w3 ⟨qa, ka, ma, qb, kb, mb, i', rfl, hl1, hin1, hl2, hin2, hrs3, hleft, hg3, hf1, hf2⟩
      have hg3' : wr.grownBy w3 (some g) := grown_trans (grown_below ((Kp.refl wr).alloc (.cells #[.int .i64 (s.kind : Int), .int .i64 (s.size : Int), .bool s.big, .bool s.comp] 44)) _) hg3
      have hown4 : ((w3.alloc (.cells #[.bool true, .slice qa ka ma, .slice qb kb mb, .int .i64 (V k).x, .string (V k).tx] 46)).alloc (.cells #[.bool true, .slice qa ka ma, .slice qb kb mb, .int .i64 (V k).x, .string (V k).tx] 46)).ownsRow (g + 1) 46 5 v k (gotRow Q V k) :=
        ((HREL.out.own.kept hg3' (Or.inr (fun e => by have := (own_lt' HREL.out.own _ e).1; omega))).alloc _).alloc _
      obtain ⟨v', w5, happ, h5, hg5, hv5⟩ := app_got _ (g + 1) v k (gotRow Q V k) hown4 (w3.heap.size + 1) ⟨qa, ka, ma, qb, kb, mb⟩ (V k) (Blk.new2 w3 _ _ _) (by have := HN.out; have := HLT.out; omega) (by have := hrs3.blk.lt; simp; omega)
      have b5 : w5.cell? ⟨w3.heap.size, 0, none⟩ = some (.bool true) := by
        have hb := ((Blk.new w3 46 #[.bool true, .slice qa ka ma, .slice qb kb mb, .int .i64 (V k).x, .string (V k).tx]).alloc (.cells #[.bool true, .slice qa ka ma, .slice qb kb mb, .int .i64 (V k).x, .string (V k).tx] 46)).grown hg5 (fun e => by have := (own_lt' HREL.out.own _ e.symm).2; have := hg3'.size; omega)
        exact hb.cell 0
      have HAPP := Lib.hid happ
      have HNX := Lib.hid (HREL.out.next (pl := ⟨qa, ka, ma, qb, kb, mb⟩) HGW.out hg3' hl1 hin1 hl2 hin2 hrs3 hleft (fun a ha => by have := hf1 a ha; simp at this; omega) (fun a ha => by have := hf2 a ha; simp at this; omega) (((Kp.refl w3).alloc _).alloc _) h5 hg5 hv5)
      have HLN := Lib.hid (show Lo w (k + 1) (fun r => if r = k then ⟨qa, ka, ma, qb, kb, mb⟩ else Q r) from HLO.out.next (fun a ha => by have h1 := hf1 a ha; have h2 := HREL.out.kp.size; simp only [World.size_alloc] at h1; omega) (fun a ha => by have h1 := hf2 a ha; have h2 := HREL.out.kp.size; simp only [World.size_alloc] at h1; omega))
      clear hl1 hin1 hl2 hin2 hrs3 hleft hg3 hg3' hf1 hf2 hown4 happ h5 hg5 hv5 hrs d0 d1' d2 d3
      go_wp2_with (at_builtin; refine Lib.wpList_append_run _ rfl _ _ _ _ rfl _ _ rfl rfl _ _ HAPP.out ?_)
      go_roundg (n - (k + 1))
      case measure => have := HLT.out; omega
      case rel => exact ⟨k + 1, v', _, i', rfl, by have := HLT.out; omega, by go_num, rfl, HNX.out, HLN.out⟩
    · obtain rfl : k = n := by have := HKN.out; omega
      go_wp2_with fail
      refine (rest_any g q1 m d1 xs big i wr HREL.out.rs).mono ?_
      rintro e w3 ⟨q3, l3, m3, nq, rfl, hl3, hin3, hw3⟩
      have HL3 := Lib.hid hl3
      have HIN3 := Lib.hid hin3
      have HW3 := Lib.hid hw3
      clear hl3 hin3 hw3
      go_wp2_with fail
      refine (clone_any w3 q3 l3 m3 (xs.drop i) HIN3.out HL3.out (by have h1 := HL3.out; have h2 := HX.out; have h3 := HM.out; rw [List.length_drop] at h1; omega)).mono ?_
      rintro e w4 ⟨q4, d4, rfl, hown, hb4⟩
      have HO4 := Lib.hid hown
      have HB4 := Lib.hid hb4
      clear hown hb4
      go_wp2_with fail
      go_ret2
      have hk4 : Kp wr w4 := (show Kp wr w3 by rw [HW3.out]; exact (Kp.refl wr).drewN nq).call HB4.out
      refine ⟨v, q4, l3, d4, Q, rfl, ?_, ?_, HLO.out, by rw [HREL.out.left]; exact HL3.out, by rw [HREL.out.left]; exact bin_of_own HO4.out, HREL.out.kp.trans hk4, fun a ha => by have h1 := (own_fresh HO4.out a ha).1; have h2 := HREL.out.kp.size; have h3 := ((Kp.refl wr).drewN nq).size; rw [← HW3.out] at h3; omega⟩
      · exact own_base (own_below HREL.out.own hk4) (by have := HGW.out; omega)
      · intro r hr
        obtain ⟨a1, a2, a3, a4⟩ := HREL.out.gots r hr
        exact ⟨a1, bin_kp a2 hk4, a3, bin_kp a4 hk4⟩
end Go.Proofs.YtacmnibhdmeidaaDoor
