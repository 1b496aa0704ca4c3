/-
  AddServer: a server is in the row already, or the row grows by it.
-/
import Derived.Test.YtmojecgmneodlaaDoorSrv2
import Derived.Test.YtmojecgmneodlaaDoorCfg4
import Derived.Great.Walk
namespace Go.Proofs.YtmojecgmneodlaaDoor
open Go Go.RowKit
set_option maxRecDepth 100000 in
set_option maxHeartbeats 4000000 in
theorem addServer_any (b n c base : Nat) (q : Option Addr) (cs : Array Value) (xs : List Value) (SV : Nat → Srv) (s : Srv) (w : World) (hI : Blk w b 72 cs) (hc2 : cs[2]? = some (.slice q n c)) (hown : w.ownsRow base 75 3 (.slice q n c) n xs) (hb : (Value.slice q n c).ownBlock ≠ some b) (hbase : base ≤ w.heap.size)
    (hx : ∀ r, r < n → xs[r * 3 + 1]? = some (.string (SV r).ad) ∧ xs[r * 3 + 2]? = some (.int .i64 (SV r).po) ∧ srvOk (SV r).pr (SV r).ad = true) (ho : srvOk s.pr s.ad = true) (hn : n ≤ 1000) :
    Calls Tryd.prog 41 #[.pointer (some ⟨b, 0, none⟩), .agg #[.string s.pr, .string s.ad, .int .i64 s.po]] w fun e w' => e = .returned (.tuple #[]) ∧ ((∃ r, r < n ∧ sameS s (SV r) = true) ∧ Kp w w' ∨ (∀ r, r < n → sameS s (SV r) = false) ∧ ∃ v' w5, w' = w5.setCell ⟨b, 2, none⟩ v' ∧ Blk w5 b 72 cs ∧ w5.ownsRow base 75 3 v' (n + 1) (xs ++ [.string s.pr, .string s.ad, .int .i64 s.po]) ∧ v'.ownBlock ≠ some b ∧ (∀ g, g < w.heap.size → some g ≠ (Value.slice q n c).ownBlock → w5.heap[g]? = w.heap[g]?) ∧ (∀ U, Kp U w → U.heap.size ≤ base → Kp U w5)) := by
  have i0 : (n : Int) ≤ 1000 := by omega
  have HQ := Lib.hid (show ∀ r, r < n → ∃ g, q = some ⟨g, 0, none⟩ ∧ w.cell? ⟨g, r * 3 + 1, none⟩ = some (.string (SV r).ad) ∧ w.cell? ⟨g, r * 3 + 2, none⟩ = some (.int .i64 (SV r).po) ∧ srvOk (SV r).pr (SV r).ad = true from fun r hr => by
    obtain ⟨g, cap, e, _, _, _, _, hc⟩ := own_form hown (show 0 < n by omega)
    injection e with e1
    exact ⟨g, e1, hc _ _ (hx r hr).1, hc _ _ (hx r hr).2.1, (hx r hr).2.2⟩)
  have HIS := Lib.hid (fun b1 b2 i2 t w1 h1 h2 h3 o2 => isEqS b1 b2 i2 s t w1 h1 h2 h3 ho o2)
  have hi : w.cell? ⟨b, 2, none⟩ = some (.slice q n c) := (hI.cell 2).trans hc2
  have HBI := Lib.hid hI
  have HOWN := Lib.hid hown
  have HNB := Lib.hid hb
  have HBS := Lib.hid hbase
  have HN := Lib.hid hn
  clear hx ho hn hI hc2 hown hb hbase
  obtain ⟨pr, hpr⟩ : ∃ pr, pr = s.pr := ⟨_, rfl⟩
  obtain ⟨ad, had⟩ : ∃ ad, ad = s.ad := ⟨_, rfl⟩
  obtain ⟨po, hpo⟩ : ∃ po, po = s.po := ⟨_, rfl⟩
  rw [← hpr, ← had, ← hpo] at HIS ⊢
  clear hpr had hpo
  go_enter Tryd.func41, Tryd.ntmps41
  go_wp2_with fail
  generalize hX : w.alloc (.cells #[.string pr, .string ad, .int .i64 po] 75) = X
  obtain ⟨b1, hb1⟩ : ∃ b1, b1 = w.heap.size := ⟨_, rfl⟩
  have HB1 := Lib.hid (show Blk X b1 75 #[.string pr, .string ad, .int .i64 po] from by rw [hb1, ← hX]; exact Blk.new w _ _)
  have HKX := Lib.hid (show Kp w X from by rw [← hX]; exact (Kp.refl w).alloc _)
  have y0 := below_some HKX.out hi
  have HFAR := Lib.hid (show some b1 ≠ (Value.slice q n c).ownBlock from fun e => by have := (own_lt' HOWN.out b1 e.symm).2; omega)
  have HNE := Lib.hid (show b1 ≠ b from by have := HBI.out.lt; omega)
  rw [← hb1]
  clear hX hb1 hi
  go_loopg [4] n (fun G st wr => ∃ k : Nat, G = n - k ∧ k ≤ n ∧ st = .int .i64 (k : Int) ∧ (∀ r, r < k → sameS s (SV r) = false) ∧ Kp X wr)
  case atStart => exact ⟨0, rfl, Nat.zero_le _, rfl, fun r hr => absurd hr (by omega), Kp.refl X⟩
  case round =>
    obtain ⟨k, rfl, hk, rfl, hs, hkw⟩ := hrel
    have HS := Lib.hid hs
    have HKN := Lib.hid hk
    have HKW := Lib.hid hkw
    have y1 := below_some HKW.out y0
    have HB2 := Lib.hid (HB1.out.kp HKW.out)
    have j0 : (0 : Int) ≤ (k : Int) := by omega
    have j1 : (k : Int) ≤ (n : Int) := by omega
    clear hs hk hkw
    by_cases hlt : k < n
    · have j2 : (k : Int) < (n : Int) := by omega
      obtain ⟨g, rfl, d1, d2, o2⟩ := HQ.out k hlt
      have HLT := Lib.hid hlt
      have HC := Lib.hid (fun w1 (hk1 : Kp wr w1) => HIS.out b1 g (k * 3) (SV k) w1 (HB2.out.kp hk1) (below_some hk1 (below_some HKW.out (below_some HKX.out d1))) (below_some hk1 (below_some HKW.out (below_some HKX.out d2))) o2)
      clear hlt d1 d2 o2
      go_wp2_with fail
      refine (HC.out _ (Kp.refl _)).mono ?_
      rintro e w1 ⟨rfl, hk⟩
      have HK1 := Lib.hid (HKW.out.trans hk)
      have HNX := Lib.hid (fun (h : sameS s (SV k) = false) => (show ∀ r, r < k + 1 → sameS s (SV r) = false from fun r hr => by
        by_cases e : r = k
        · rw [e]; exact h
        · exact HS.out r (by omega)))
      have HYE := Lib.hid (fun (h : sameS s (SV k) = true) => (show ∃ r, r < n ∧ sameS s (SV r) = true from ⟨k, HLT.out, h⟩))
      clear hk HC
      generalize sameS s (SV k) = sm at HNX HYE
      cases sm
      · go_wp2_with fail
        go_roundg (n - (k + 1))
        case measure => have := HLT.out; omega
        case rel => exact ⟨k + 1, rfl, HLT.out, by go_num, HNX.out trivial, HK1.out⟩
      · go_wp2_with fail
        refine bodyPost_ret (results_none rfl _ _ _) rfl ?_
        exact ⟨rfl, .inl ⟨HYE.out trivial, HKX.out.trans HK1.out⟩⟩
    · obtain rfl : k = n := by have := HKN.out; omega
      clear hlt
      have HKW1 := Lib.hid (show Kp w wr.drew from (HKX.out.trans HKW.out).drew)
      have yd : wr.drew.cell? ⟨b, 2, none⟩ = some (.slice q k c) := y1
      obtain ⟨v', w5, r1, r2, r5, r6⟩ := app_srv wr.drew base (.slice q k c) k xs (own_below HOWN.out HKW1.out) (Nat.le_trans HBS.out HKW1.out.size) HN.out pr ad po
      obtain ⟨g', cap', rfl, _, _, _, _, _⟩ := own_form r2 (Nat.succ_pos k)
      have f0 : wr.cell? ⟨b1, 0, none⟩ = some (.string pr) := HB2.out.cell 0
      have f1 : wr.cell? ⟨b1, 1, none⟩ = some (.string ad) := HB2.out.cell 1
      have f2 : wr.cell? ⟨b1, 2, none⟩ = some (.int .i64 po) := HB2.out.cell 2
      have HR2 := Lib.hid r2
      have HR5 := Lib.hid r5
      have HR6 := Lib.hid r6
      have HB5 := Lib.hid ((HBI.out.kp HKW1.out).grown r5 (fun e => HNB.out e.symm))
      have y5 : w5.cell? ⟨b, 2, none⟩ = some (.slice q k c) := by
        have h := (HBI.out.kp HKW1.out).cell 2
        rw [yd] at h
        exact (HB5.out.cell 2).trans h.symm
      have HB6 := Lib.hid (HB2.out.drew.grown r5 HFAR.out)
      have g0 : w5.cell? ⟨b1, 0, none⟩ = some (.string pr) := HB6.out.cell 0
      have g1 : w5.cell? ⟨b1, 1, none⟩ = some (.string ad) := HB6.out.cell 1
      have g2 : w5.cell? ⟨b1, 2, none⟩ = some (.int .i64 po) := HB6.out.cell 2
      have ya : (wr.drew.alloc (.cells #[.string pr, .string ad, .int .i64 po] 75)).cell? ⟨b, 2, none⟩ = some (.slice q k c) := below_some ((Kp.refl wr.drew).alloc _) yd
      have z5 : w5.frozen? ⟨b, 2, none⟩ = false := HB5.out.frozen 2
      clear r2 r5 r6
      have e0 : (wr.drew.alloc (.cells #[.string pr, .string ad, .int .i64 po] 75)).cell? ⟨b1, 0, none⟩ = some (.string pr) := below_some ((Kp.refl wr.drew).alloc _) f0
      have e1 : (wr.drew.alloc (.cells #[.string pr, .string ad, .int .i64 po] 75)).cell? ⟨b1, 1, none⟩ = some (.string ad) := below_some ((Kp.refl wr.drew).alloc _) f1
      have e2 : (wr.drew.alloc (.cells #[.string pr, .string ad, .int .i64 po] 75)).cell? ⟨b1, 2, none⟩ = some (.int .i64 po) := below_some ((Kp.refl wr.drew).alloc _) f2
      have yz : (wr.alloc (.cells #[.string pr, .string ad, .int .i64 po] 75)).cell? ⟨b, 2, none⟩ = some (.slice q k c) := below_some ((Kp.refl wr).alloc _) y1
      have hbb : b1 ≠ b := fun e => by have h := HNE.out; exact h e
      go_wp2_with fail
      refine wp_region_noPanic ?_
      refine wp_region_held_drew (S := fun w' => w'.cell? ⟨b1, 0, none⟩ = some (.string pr) ∧ w'.cell? ⟨b1, 1, none⟩ = some (.string ad) ∧ w'.cell? ⟨b1, 2, none⟩ = some (.int .i64 po)) (by kernel_rfl) ⟨f0, f1, f2⟩ (fun hHeld => ?_)
      refine wpAnyH_take (i := 0) (v := ?_) (by simp only [List.getElem?_toArray, List.getElem?_cons_zero] <;> rfl) (by kernel_rfl) (by kernel_rfl) (by kernel_rfl) (fun _ _ _ h => h) (.inl ⟨by rfl, ?_⟩) (by assumption) ?_
      rotate_left 1
      · intro wz hSw; (try dsimp only at hSw); go_simp; (try with_reducible rfl)
      try simp only [Act.put, List.setIfInBounds_toArray, List.set_cons_zero, List.set_cons_succ]
      refine wpAnyH_take (i := 1) (v := ?_) (by simp only [List.getElem?_toArray, List.getElem?_cons_zero, List.getElem?_cons_succ] <;> rfl) (by kernel_rfl) (by kernel_rfl) (by kernel_rfl) (fun _ _ _ h => h) (.inl ⟨by rfl, ?_⟩) (by assumption) ?_
      rotate_left 1
      · intro wz hSw; (try dsimp only at hSw); go_simp; (try with_reducible rfl)
      try simp only [Act.put, List.setIfInBounds_toArray, List.set_cons_zero, List.set_cons_succ]
      refine wpAnyH_take (i := 2) (v := ?_) (by simp only [List.getElem?_toArray, List.getElem?_cons_zero, List.getElem?_cons_succ] <;> rfl) (by kernel_rfl) (by kernel_rfl) (by kernel_rfl) (fun _ _ _ h => h) (.inl ⟨by rfl, ?_⟩) (by assumption) ?_
      rotate_left 1
      · intro wz hSw; (try dsimp only at hSw); go_simp; (try with_reducible rfl)
      try simp only [Act.put, List.setIfInBounds_toArray, List.set_cons_zero, List.set_cons_succ]
      refine wpAnyH_take (i := 3) (v := ?_) (by simp only [List.getElem?_toArray, List.getElem?_cons_zero, List.getElem?_cons_succ] <;> rfl) (by kernel_rfl) (by kernel_rfl) (by kernel_rfl) (fun _ _ _ h => h) (.inl ⟨by rfl, ?_⟩) (by assumption) ?_
      rotate_left 1
      · intro wz hSw; (try dsimp only at hSw); go_simp; (try with_reducible rfl)
      try simp only [Act.put, List.setIfInBounds_toArray, List.set_cons_zero, List.set_cons_succ]
      refine wpAnyH_take (i := 5) (v := ?_) (by simp only [List.getElem?_toArray, List.getElem?_cons_zero, List.getElem?_cons_succ] <;> rfl) (by kernel_rfl) (by kernel_rfl) (by kernel_rfl) (fun _ _ _ h => h) (.inl ⟨by rfl, ?_⟩) (by assumption) ?_
      rotate_left 1
      · intro wz hSw; (try dsimp only at hSw); go_simp; (try with_reducible rfl)
      try simp only [Act.put, List.setIfInBounds_toArray, List.set_cons_zero, List.set_cons_succ]
      refine wpAnyH_ready (rs := [4, 6]) (by kernel_rfl) (by simp) ?_
      refine AllReadyH.cons (by simp only [List.getElem?_toArray, List.getElem?_cons_zero, List.getElem?_cons_succ] <;> rfl) (fun K hK => ?_) (AllReadyH.cons (by simp only [List.getElem?_toArray, List.getElem?_cons_zero, List.getElem?_cons_succ] <;> rfl) (fun K hK => ?_) AllReadyH.nil)
      · go_simp
        refine hK.out _ _ ⟨f0, f1, f2⟩ (fun hHeld => ?_)
        clear hK K
        try simp only [Act.put, List.setIfInBounds_toArray, List.set_cons_zero, List.set_cons_succ]
        refine wpAnyH_ready (rs := [6]) (by kernel_rfl) (by simp) ?_
        refine AllReadyH.cons (by simp only [List.getElem?_toArray, List.getElem?_cons_zero, List.getElem?_cons_succ] <;> rfl) (fun K hK => ?_) AllReadyH.nil
        go_simp
        refine hK.out _ _ ⟨e0, e1, e2⟩ (fun hHeld => ?_)
        clear hK K
        try simp only [Act.put, List.setIfInBounds_toArray, List.set_cons_zero, List.set_cons_succ]
        refine wpAnyH_ready (rs := [7]) (by kernel_rfl) (by simp) ?_
        refine AllReadyH.cons (by simp only [List.getElem?_toArray, List.getElem?_cons_zero, List.getElem?_cons_succ] <;> rfl) (fun K hK => ?_) AllReadyH.nil
        refine step_append_run rfl _ _ _ _ rfl _ _ rfl rfl _ w5 r1 ?_
        refine hK.out _ _ ⟨g0, g1, g2⟩ (fun hHeld => ?_)
        clear hK K
        try simp only [Act.put, List.setIfInBounds_toArray, List.set_cons_zero, List.set_cons_succ]
        refine wpAnyH_take (i := 8) (v := ?_) (by simp only [List.getElem?_toArray, List.getElem?_cons_zero, List.getElem?_cons_succ] <;> rfl) (by kernel_rfl) (by kernel_rfl) (by kernel_rfl) (fun _ _ _ h => h) (.inl ⟨by rfl, ?_⟩) (by assumption) ?_
        rotate_left 1
        · intro wz hSw; (try dsimp only at hSw); go_simp; (try with_reducible rfl)
        try simp only [Act.put, List.setIfInBounds_toArray, List.set_cons_zero, List.set_cons_succ]
        refine wpAnyH_take (i := 9) (v := ?_) (by simp only [List.getElem?_toArray, List.getElem?_cons_zero, List.getElem?_cons_succ] <;> rfl) (by kernel_rfl) (by kernel_rfl) (by kernel_rfl) (fun _ _ _ h => h) (.inl ⟨by rfl, ?_⟩) (by assumption) ?_
        rotate_left 1
        · intro wz hSw; (try dsimp only at hSw); go_simp; (try with_reducible rfl)
        try simp only [Act.put, List.setIfInBounds_toArray, List.set_cons_zero, List.set_cons_succ]
        refine wpAnyH_ready (rs := [10]) (by kernel_rfl) (by simp) ?_
        refine AllReadyH.cons (by simp only [List.getElem?_toArray, List.getElem?_cons_zero, List.getElem?_cons_succ] <;> rfl) (fun K hK => ?_) AllReadyH.nil
        go_simp
        refine hK.out _ _ ⟨sc_other hbb g0, sc_other hbb g1, sc_other hbb g2⟩ (fun hHeld => ?_)
        clear hK K
        try simp only [Act.put, List.setIfInBounds_toArray, List.set_cons_zero, List.set_cons_succ]
        refine wpAnyH_done (by kernel_rfl) ?_ _
        refine NoPanic.normal ?_
        go_wp2_with fail
        refine Go.Great.bodyPost_end0 rfl rfl ⟨rfl, .inr ⟨HS.out, _, w5, rfl, HB5.out, HR2.out, ?_, ?_, ?_⟩⟩
        · rcases HR6.out with h | h
          · rw [h]; exact HNB.out
          · rw [h]
            have h1 := (HBI.out.kp HKW1.out).lt
            intro e
            injection e with e1
            omega
        · exact fun g hg hne => (HR5.out.block g (Nat.lt_of_lt_of_le hg HKW1.out.size) hne).trans (HKW1.out.block g hg)
        · exact fun U hU hUB => (hU.trans HKW1.out).grown HR5.out (fun b hb => by have := (own_lt' HOWN.out b hb).1; omega)
      · go_simp
        refine hK.out _ _ ⟨e0, e1, e2⟩ (fun hHeld => ?_)
        clear hK K
        try simp only [Act.put, List.setIfInBounds_toArray, List.set_cons_zero, List.set_cons_succ]
        refine wpAnyH_ready (rs := [4]) (by kernel_rfl) (by simp) ?_
        refine AllReadyH.cons (by simp only [List.getElem?_toArray, List.getElem?_cons_zero, List.getElem?_cons_succ] <;> rfl) (fun K hK => ?_) AllReadyH.nil
        go_simp
        refine hK.out _ _ ⟨e0, e1, e2⟩ (fun hHeld => ?_)
        clear hK K
        try simp only [Act.put, List.setIfInBounds_toArray, List.set_cons_zero, List.set_cons_succ]
        refine wpAnyH_ready (rs := [7]) (by kernel_rfl) (by simp) ?_
        refine AllReadyH.cons (by simp only [List.getElem?_toArray, List.getElem?_cons_zero, List.getElem?_cons_succ] <;> rfl) (fun K hK => ?_) AllReadyH.nil
        refine step_append_run rfl _ _ _ _ rfl _ _ rfl rfl _ w5 r1 ?_
        refine hK.out _ _ ⟨g0, g1, g2⟩ (fun hHeld => ?_)
        clear hK K
        try simp only [Act.put, List.setIfInBounds_toArray, List.set_cons_zero, List.set_cons_succ]
        refine wpAnyH_take (i := 8) (v := ?_) (by simp only [List.getElem?_toArray, List.getElem?_cons_zero, List.getElem?_cons_succ] <;> rfl) (by kernel_rfl) (by kernel_rfl) (by kernel_rfl) (fun _ _ _ h => h) (.inl ⟨by rfl, ?_⟩) (by assumption) ?_
        rotate_left 1
        · intro wz hSw; (try dsimp only at hSw); go_simp; (try with_reducible rfl)
        try simp only [Act.put, List.setIfInBounds_toArray, List.set_cons_zero, List.set_cons_succ]
        refine wpAnyH_take (i := 9) (v := ?_) (by simp only [List.getElem?_toArray, List.getElem?_cons_zero, List.getElem?_cons_succ] <;> rfl) (by kernel_rfl) (by kernel_rfl) (by kernel_rfl) (fun _ _ _ h => h) (.inl ⟨by rfl, ?_⟩) (by assumption) ?_
        rotate_left 1
        · intro wz hSw; (try dsimp only at hSw); go_simp; (try with_reducible rfl)
        try simp only [Act.put, List.setIfInBounds_toArray, List.set_cons_zero, List.set_cons_succ]
        refine wpAnyH_ready (rs := [10]) (by kernel_rfl) (by simp) ?_
        refine AllReadyH.cons (by simp only [List.getElem?_toArray, List.getElem?_cons_zero, List.getElem?_cons_succ] <;> rfl) (fun K hK => ?_) AllReadyH.nil
        go_simp
        refine hK.out _ _ ⟨sc_other hbb g0, sc_other hbb g1, sc_other hbb g2⟩ (fun hHeld => ?_)
        clear hK K
        try simp only [Act.put, List.setIfInBounds_toArray, List.set_cons_zero, List.set_cons_succ]
        refine wpAnyH_done (by kernel_rfl) ?_ _
        refine NoPanic.normal ?_
        go_wp2_with fail
        refine Go.Great.bodyPost_end0 rfl rfl ⟨rfl, .inr ⟨HS.out, _, w5, rfl, HB5.out, HR2.out, ?_, ?_, ?_⟩⟩
        · rcases HR6.out with h | h
          · rw [h]; exact HNB.out
          · rw [h]
            have h1 := (HBI.out.kp HKW1.out).lt
            intro e
            injection e with e1
            omega
        · exact fun g hg hne => (HR5.out.block g (Nat.lt_of_lt_of_le hg HKW1.out.size) hne).trans (HKW1.out.block g hg)
        · exact fun U hU hUB => (hU.trans HKW1.out).grown HR5.out (fun b hb => by have := (own_lt' HOWN.out b hb).1; omega)
end Go.Proofs.YtmojecgmneodlaaDoor
