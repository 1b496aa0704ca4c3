/-
  FnServedTwice: a server that is added once more, in letters of any case, changes nothing.
-/
import Derived.Test.YtmojecgmneodlaaDoorSrv9
import Derived.Laws.IdiomStrings
import Derived.Lib.SlBytesRow
namespace Go.Proofs.YtmojecgmneodlaaDoor
open Go Go.RowKit

theorem infoStep : (Tryd.prog.info? 29).map (fun i => (i.zero, i.size, i.bytes)) = some (some (.agg #[.int .i64 0, .string ByteArray.empty, .string ByteArray.empty, .int .i64 0]), 4, 48) := by kernel_rfl
def stpC (R : Nat → Srv) (r : Nat) : List Value := [.int .i64 0, .string (R r).pr, .string (R r).ad, .int .i64 (R r).po]
theorem stpC_one (R : Nat → Srv) (r : Nat) : ∀ u ∈ stpC R r, u.oneCell' = true := fun u hu => by
  simp only [stpC, List.mem_cons, List.not_mem_nil, or_false] at hu
  rcases hu with rfl | rfl | rfl | rfl <;> rfl
theorem flatV_len {f : Nat → List Value} {m : Nat} (hf : ∀ r, (f r).length = m) : ∀ k, (flatV f k).length = k * m
  | 0 => by simp [flatV]
  | k + 1 => by simp only [flatV, List.length_append, flatV_len hf k, hf, Nat.succ_mul]
theorem flatV_at {f : Nat → List Value} {m : Nat} (hf : ∀ r, (f r).length = m) : ∀ k r j u, r < k → (f r)[j]? = some u → (flatV f k)[r * m + j]? = some u
  | 0, r, j, u, hr, _ => by omega
  | k + 1, r, j, u, hr, hu => by
    have hj : j < m := by have := (List.getElem?_eq_some_iff.1 hu).1; rw [hf] at this; exact this
    have hl := flatV_len hf k
    by_cases e : r = k
    · subst e
      rw [flatV, List.getElem?_append_right (by rw [hl]; omega), hl, Nat.add_sub_cancel_left]
      exact hu
    · have h1 : (r + 1) * m ≤ k * m := Nat.mul_le_mul_right _ (by omega)
      rw [Nat.succ_mul] at h1
      rw [flatV, List.getElem?_append_left (by rw [hl]; omega)]
      exact flatV_at hf k r j u (by omega) hu
theorem flatV_congr {f g : Nat → List Value} : ∀ k, (∀ r, r < k → f r = g r) → flatV f k = flatV g k
  | 0, _ => rfl
  | k + 1, h => by rw [flatV, flatV, flatV_congr k (fun r hr => h r (by omega)), h k (by omega)]
/-- Steps that add, in a row of the call's own. -/
theorem stepsIn_own {w : World} {base n : Nat} {q : Option Addr} {c : Nat} {R : Nat → Srv} {e : TypeId} (h : w.ownsRow base e 4 (.slice q n c) n (flatV (stpC R) n)) : StepsIn w q n (fun _ => 0) R := fun r hr => by
  obtain ⟨g, cap, e, _, _, _, _, hc⟩ := own_form h (show 0 < n by omega)
  injection e with e1
  exact ⟨g, e1, hc _ _ (flatV_at (f := stpC R) (m := 4) (fun _ => rfl) n r 0 _ hr rfl), hc _ _ (flatV_at (f := stpC R) (m := 4) (fun _ => rfl) n r 1 _ hr rfl), hc _ _ (flatV_at (f := stpC R) (m := 4) (fun _ => rfl) n r 2 _ hr rfl), hc _ _ (flatV_at (f := stpC R) (m := 4) (fun _ => rfl) n r 3 _ hr rfl)⟩
theorem stAt_adds (R : Nat → Srv) : ∀ k, stAt (fun _ => 0) R k = ⟨((List.range k).map R).foldl addS [], 0⟩
  | 0 => rfl
  | k + 1 => by
    rw [stAt, stAt_adds R k, List.range_succ, List.map_append, List.foldl_append]
    rfl
/-- One more server, that is there already. -/
theorem adds_same (R R2 : Nat → Srv) (n i : Nat) (hi : i < n) (h : ∀ r, r < n → R2 r = R r) (hs : sameS (R2 n) (R i) = true) : (stAt (fun _ => 0) R2 (n + 1)).all = (stAt (fun _ => 0) R n).all := by
  have e : (List.range n).map R2 = (List.range n).map R := List.map_congr_left fun r hr => h r (List.mem_range.1 hr)
  rw [stAt_adds, stAt_adds, List.range_succ, List.map_append, e]
  exact added_twice _ (List.mem_map.2 ⟨i, List.mem_range.2 hi, rfl⟩) hs

/-- The first k letters made great. -/
def mixB (l : List UInt8) (k i : Nat) : UInt8 := if i < k then Lib.upperB (l.getD i 0) else l.getD i 0
def Mix (w : World) (b : Nat) (s : ByteArray) (k : Nat) : Prop := ∀ i, i < s.size → w.cell? ⟨b, i, none⟩ = some (.int .u8 ((mixB s.data.toList k i).toNat : Int)) ∧ w.frozen? ⟨b, i, none⟩ = false
theorem lower_iff (c : UInt8) : Lib.isLowerB c = true ↔ 97 ≤ c.toNat ∧ c.toNat ≤ 122 := by
  simp only [Lib.isLowerB, Bool.and_eq_true, decide_eq_true_eq, UInt8.le_iff_toNat_le]
  rfl
theorem upper_yes (c : UInt8) (h : 97 ≤ c.toNat ∧ c.toNat ≤ 122) : (Lib.upperB c).toNat = c.toNat - 32 := by
  rw [Lib.upperB, if_pos ((lower_iff c).2 h), UInt8.toNat_sub_of_le]
  · rfl
  · rw [UInt8.le_iff_toNat_le]
    show 32 ≤ c.toNat
    omega
theorem upper_no (c : UInt8) (h : ¬ (97 ≤ c.toNat ∧ c.toNat ≤ 122)) : Lib.upperB c = c := by
  rw [Lib.upperB, if_neg fun h2 => h ((lower_iff c).1 h2)]
def upS (s : ByteArray) : ByteArray := ⟨(upAll s.data.toList).toArray⟩
theorem upS_size (s : ByteArray) : (upS s).size = s.size := by
  show ((upAll s.data.toList).toArray).size = s.data.size
  simp [upAll]
theorem upS_data (s : ByteArray) : (upS s).data.toList = upAll s.data.toList := rfl
theorem Mix.done {w : World} {b : Nat} {s : ByteArray} (h : Mix w b s s.size) : Lib.Bytes w b 0 (upS s) := fun i hi => by
  rw [upS_size] at hi
  rw [Nat.zero_add, (h i hi).1, mixB, if_pos hi]
  congr 3
  show _ = ((upS s).data[i]).toNat
  have hl : i < s.data.toList.length := by simpa using hi
  simp [upS, upAll, List.getD, List.getElem?_eq_getElem hl]
theorem upS_ok {pr ad : ByteArray} (h : srvOk pr ad = true) : srvOk pr (upS ad) = true := by
  simp only [srvOk, Bool.and_eq_true, decide_eq_true_eq] at h ⊢
  refine ⟨⟨by rw [upS_size]; exact h.1.1, h.1.2⟩, ?_⟩
  rw [plainL_iff]
  intro b hb
  rw [upS_data] at hb
  obtain ⟨x, hx, rfl⟩ := List.mem_map.1 hb
  exact upper_lt x ((plainL_iff _).1 h.2 x hx)
theorem upS_same (s : Srv) : sameS ⟨s.pr, upS s.ad, s.po⟩ s = true := by
  rw [sameS_iff]
  refine ⟨?_, rfl⟩
  rw [upS_data]
  exact (hostEq_iff _ _).1 (upAll_host _)

theorem Mix.keep {w : World} {b j : Nat} {s : ByteArray} (h : Mix w b s j) (hn : Lib.upperB (s.data.toList.getD j 0) = s.data.toList.getD j 0) : Mix w b s (j + 1) := fun i hi => by
  obtain ⟨h1, h2⟩ := h i hi
  refine ⟨?_, h2⟩
  rw [h1, mixB, mixB]
  by_cases e : i = j
  · subst e
    rw [if_neg (by omega), if_pos (by omega), hn]
  · by_cases e2 : i < j
    · rw [if_pos e2, if_pos (by omega)]
    · rw [if_neg e2, if_neg (by omega)]
theorem Mix.put {w : World} {b j : Nat} {s : ByteArray} (h : Mix w b s j) (u : Int) (hu : ((Lib.upperB (s.data.toList.getD j 0)).toNat : Int) = u) : Mix (w.setCell ⟨b, j, none⟩ (.int .u8 u)) b s (j + 1) := fun i hi => by
  obtain ⟨h1, h2⟩ := h i hi
  refine ⟨?_, by rw [World.frozen?_setCell]; exact h2⟩
  by_cases e : i = j
  · subst e
    rw [World.cell?_setCell_same _ _ _ h1, mixB, if_pos (by omega), hu]
  · rw [World.cell?_setCell_other _ _ _ _ (by intro h; injection h with _ h; exact e h.symm), h1, mixB, mixB]
    by_cases e2 : i < j
    · rw [if_pos e2, if_pos (by omega)]
    · rw [if_neg e2, if_neg (by omega)]
theorem bytesRow_ge (s : ByteArray) (cap : Nat) : s.size ≤ (bytesRow s cap).size := by
  unfold bytesRow
  rw [Array.size_append, Array.size_map]
  exact Nat.le_add_right _ _
theorem Mix.start {w : World} {b cap : Nat} {s : ByteArray} {e : TypeId} (h : w.heap[b]? = some (.cells (bytesRow s cap) e ((bytesRow s cap).size, (bytesRow s cap).size + 1))) : Mix w b s 0 := fun i hi => by
  have hg := bytesRow_ge s cap
  refine ⟨?_, ?_⟩
  · rw [cell_of_row w b i (bytesRow s cap) e _ h, bytesRow_at s cap i hi, mixB, if_neg (by omega)]
    have hl : i < s.data.toList.length := hi
    rw [List.getD_eq_getElem?_getD, List.getElem?_eq_getElem hl, Option.getD_some]
    rfl
  · simp only [World.frozen?, h]
    simp
    omega

set_option maxRecDepth 100000 in
set_option maxHeartbeats 8000000 in
theorem fnServedTwice_any (a : Option Addr) (n c : Nat) (R : Nat → Srv) (m1 : Int) (w : World) (h : SrvIn w a n R) (hnc : n ≤ c) (hc : c ≤ maxLen) (wf1 : (Lit.int .u8 m1).wf = true) :
    Calls Tryd.prog 3 #[.slice a n c, .int .u8 m1] w fun e w' => e = .returned (.bool true) ∧ Kp w w' := by
  have hm1 : 0 ≤ m1 ∧ m1 < 256 := by
    have h1 : IntKind.u8.min = 0 := rfl
    have h2 : IntKind.u8.max = 255 := rfl
    simp [Lit.wf, h1, h2] at wf1
    omega
  have HM1 := Lib.hid hm1
  have C1 := Lib.hid (zzFits4_any a n c R w h hnc hc)
  have HI := Lib.hid h
  have HNC := Lib.hid (And.intro hnc hc)
  clear h hnc hc wf1 hm1
  go_enter Tryd.func3, Tryd.ntmps3
  go_wp2_with fail
  refine C1.out.mono ?_
  rintro e w1 ⟨b1, rfl, hk1⟩
  have HK1 := Lib.hid hk1
  clear hk1 C1
  cases b1
  · go_wp2_with fail
    go_ret
    exact ⟨rfl, HK1.out⟩
  · go_wp2_with fail
    refine (configServersIn_any a n c R w1 (HI.out.kp HK1.out) HNC.out.1 HNC.out.2).mono ?_
    rintro e w2 ⟨b2, rfl, hok, hk2⟩
    have HOK := Lib.hid hok
    have HK2 := Lib.hid (HK1.out.trans hk2)
    clear hk2 hok HK1
    cases b2
    · go_wp2_with fail
      refine (servedAwake_any w2).mono ?_
      rintro e w3 ⟨rfl, hk3⟩
      have HK3 := Lib.hid (HK2.out.trans hk3)
      clear hk3
      go_wp2_with fail
      go_ret
      exact ⟨rfl, HK3.out⟩
    · have hn := (HOK.out rfl).1
      have HN := Lib.hid hn
      have HSO := Lib.hid ((HOK.out rfl).2)
      have i1 : (n : Int) ≤ 100 := by omega
      have HIN := Lib.hid (HI.out.kp HK2.out)
      clear hn HOK HNC HI
      go_wp2_with fail
      go_loopg [5, 27] n (fun G s5 s27 wr => ∃ (k : Nat) (vs : Value), G = n - k ∧ k ≤ n ∧ vs = s5 ∧ s27 = .int .i64 (k : Int) ∧ wr.ownsRow w2.heap.size 29 4 vs k (flatV (stpC R) k) ∧ Kp w2 wr)
      case atStart => exact ⟨0, _, rfl, Nat.zero_le _, rfl, rfl, World.ownsRow_nil _ _ _ _, Kp.refl w2⟩
      case round =>
        obtain ⟨k, vs, rfl, hk, rfl, rfl, hvs, hkp⟩ := hrel
        have HVS := Lib.hid hvs
        have HK := Lib.hid hkp
        have HKN := Lib.hid hk
        have j0 : (0 : Int) ≤ (k : Int) := by omega
        have j1 : (k : Int) ≤ (n : Int) := by omega
        clear hvs hkp hk
        by_cases hlt : k < n
        · have j2 : (k : Int) < (n : Int) := by omega
          obtain ⟨b, o, rfl, x0, x1, x2⟩ := (HIN.out.kp HK.out).1 k hlt
          have HLT := Lib.hid hlt
          have HE := Lib.hid (show stpC R k = [.int .i64 0, .string (R k).pr, .string (R k).ad, .int .i64 (R k).po] from rfl)
          have HFE := Lib.hid (show flatV (stpC R) (k + 1) = flatV (stpC R) k ++ stpC R k from rfl)
          obtain ⟨v1, w5, r1, r2, r3, _⟩ := app_one Tryd.underlying25 infoStep rfl (by decide) (by decide) (wr.alloc (.cells #[.string (R k).pr, .string (R k).ad, .int .i64 (R k).po] 27)) w2.heap.size vs k _ (own_below HVS.out ((Kp.refl wr).alloc _)) (HK.out.alloc _).size (by omega) (stpC R k) rfl (stpC_one R k)
          rw [HE.out, World.size_alloc] at r1
          have H1 := Lib.hid r1
          have H2 := Lib.hid r2
          have HK5 := Lib.hid ((HK.out.alloc (.cells #[.string (R k).pr, .string (R k).ad, .int .i64 (R k).po] 27)).grown r3 (own_ge HVS.out))
          clear r1 r2 r3 hlt
          generalize R k = s at x0 x1 x2 H1 H2 HK5 HE
          obtain ⟨pr, ad, po⟩ := s
          dsimp only at x0 x1 x2 H1 HK5
          go_wp2_with (at_builtin; refine Lib.wpList_append_run _ rfl _ _ _ _ rfl _ _ rfl rfl _ _ H1.out ?_)
          go_roundg (n - (k + 1))
          case measure => have := HLT.out; omega
          case rel => exact ⟨k + 1, v1, rfl, HLT.out, rfl, by go_num, by rw [HFE.out]; exact H2.out, HK5.out⟩
        · obtain rfl : k = n := by have := HKN.out; omega
          clear hlt
          obtain ⟨q, cq, rfl, _, _⟩ := own_slice HVS.out
          have HKA := Lib.hid (HK2.out.trans HK.out)
          have HVO := Lib.hid (own_base HVS.out HK2.out.size)
          clear HVS
          have CS := Lib.hid (served_any q k cq (fun _ => 0) R wr (stepsIn_own HVO.out) (by have := HN.out; omega) HSO.out)
          go_wp2_with fail
          refine CS.out.mono ?_
          rintro e w3 ⟨vo, vi, va, rfl, _, _, hva, hk3⟩
          have HVA := Lib.hid hva
          have HK3 := Lib.hid hk3
          clear hva hk3 CS
          by_cases h0 : k = 0
          · subst h0
            have CS2 := Lib.hid (served_any q 0 cq (fun _ => 0) R w3 (fun r hr => absurd hr (by omega)) (by omega) (fun r hr => absurd hr (by omega)))
            go_wp2_with fail
            refine CS2.out.mono ?_
            rintro e w4 ⟨vo2, vi2, vb, rfl, _, _, hvb, hk4⟩
            have HVB := Lib.hid hvb
            have HK4 := Lib.hid hk4
            have HKE := Lib.hid (HKA.out.trans (HK3.out.trans hk4))
            clear hvb hk4 CS2
            obtain ⟨k, hk⟩ : ∃ k, k = 0 := ⟨_, rfl⟩
            rw [← hk] at HVA HVB HN
            obtain ⟨qa, ca, rfl, _, _⟩ := own_slice HVA.out
            obtain ⟨qb, cb, rfl, _, _⟩ := own_slice HVB.out
            have HL := Lib.hid (show (stAt (fun _ => 0) R k).all.length ≤ 1000 from by have := (stAt_len (fun _ => 0) R k).1; have := HN.out; omega)
            have HRA := Lib.hid (SrvRow.of_own (own_below HVA.out HK4.out) rfl)
            have HRB := Lib.hid (SrvRow.of_own HVB.out rfl)
            clear HVA HVB
            generalize (stAt (fun _ => 0) R k).all = L at HL HRA HRB
            go_wp2_with fail
            refine (srvEq_any qa qb L.length ca cb (fun r => L.getD r zS) w4 HRA.out HRB.out HL.out).mono ?_
            rintro e w5 ⟨rfl, hk5⟩
            have HK5 := Lib.hid (HKE.out.trans hk5)
            clear hk5
            go_wp2_with fail
            refine (servedAwake_any w5).mono ?_
            rintro e w6 ⟨rfl, hk6⟩
            have HK6 := Lib.hid (HK5.out.trans hk6)
            clear hk6
            go_wp2_with fail
            go_ret
            exact ⟨rfl, HK6.out⟩
          · have k0 : (0 : Int) < (k : Int) := by omega
            obtain ⟨i, hi⟩ : ∃ i : Nat, m1 % (k : Int) = (i : Int) := ⟨(m1 % (k : Int)).toNat, by have := Int.emod_nonneg m1 (show (k : Int) ≠ 0 by omega); omega⟩
            have hik : i < k := by have := Int.emod_lt_of_pos m1 k0; omega
            have m0 : 0 ≤ m1 := HM1.out.1
            have m2 : m1 < 256 := HM1.out.2
            have l0 : (0 : Int) ≤ (i : Int) := by omega
            have l1 : (i : Int) < (k : Int) := by omega
            have HIK := Lib.hid hik
            have HK03 := Lib.hid (HK.out.trans HK3.out)
            obtain ⟨b, o, rfl, x0, x1, x2⟩ := (HIN.out.kp HK03.out).1 i hik
            have HSE := Lib.hid (show R i = ⟨(R i).pr, (R i).ad, (R i).po⟩ from rfl)
            have HOI := Lib.hid (HSO.out i hik)
            clear hik
            obtain ⟨pr, hpr⟩ : ∃ pr, pr = (R i).pr := ⟨_, rfl⟩
            obtain ⟨ad, had⟩ : ∃ ad, ad = (R i).ad := ⟨_, rfl⟩
            obtain ⟨po, hpo⟩ : ∃ po, po = (R i).po := ⟨_, rfl⟩
            rw [← hpr, ← had, ← hpo] at HSE
            rw [← hpr, ← had] at HOI
            rw [← hpr] at x0
            rw [← had] at x1
            rw [← hpo] at x2
            clear hpr had hpo
            go_wp2_with fail
            generalize hX : w3.alloc (.cells #[.string pr, .string ad, .int .i64 po] 27) = X
            obtain ⟨xb, hxb⟩ : ∃ xb, xb = w3.heap.size := ⟨_, rfl⟩
            have HXB := Lib.hid (show Blk X xb 27 #[.string pr, .string ad, .int .i64 po] from by rw [hxb, ← hX]; exact Blk.new w3 _ _)
            have HKX := Lib.hid (show Kp w3 X from by rw [← hX]; exact (Kp.refl w3).alloc _)
            have HXS := Lib.hid (show w3.heap.size ≤ xb from by omega)
            rw [← hxb]
            clear hX hxb x0 x1 x2
            rw [run_bytes_of_string X 9 33 5 ad Tryd.underlying9 Tryd.underlying33 Tryd.underlying5]
            simp only [Result.andThen]
            rw [Oper.upon_value]
            generalize hY : X.drew.alloc (.cells (bytesRow ad (grownCap X ad.size 0 5)) 5 ((bytesRow ad (grownCap X ad.size 0 5)).size, (bytesRow ad (grownCap X ad.size 0 5)).size + 1)) = Y
            generalize grownCap X ad.size 0 5 = cb at hY ⊢
            obtain ⟨bb, hbb⟩ : ∃ bb, bb = X.heap.size := ⟨_, rfl⟩
            have HMX := Lib.hid (show Mix Y bb ad 0 from Mix.start (cap := cb) (e := 5) (by rw [hbb, ← hY]; exact heap_alloc_new X.drew _))
            have HKY := Lib.hid (show Kp X Y from by rw [← hY]; exact (Kp.refl X).drew.alloc _)
            have HBB := Lib.hid (show X.heap.size ≤ bb from by omega)
            rw [← hbb]
            clear hY hbb
            have s0 : (ad.size : Int) ≤ 300 := by
              have h1 := HOI.out
              simp only [srvOk, Bool.and_eq_true, decide_eq_true_eq] at h1
              have := h1.1.1
              omega
            go_wp2_with fail
            obtain ⟨wo, rfl⟩ : ∃ wo : World, wo = wr := ⟨_, rfl⟩
            go_loopg [59] ad.size (fun G s59 wr => ∃ (j : Nat), G = ad.size - j ∧ j ≤ ad.size ∧ s59 = .int .i64 (j : Int) ∧ Mix wr bb ad j ∧ Kp X wr)
            case atStart => exact ⟨0, rfl, Nat.zero_le _, rfl, HMX.out, HKY.out⟩
            case round =>
              obtain ⟨j, rfl, hj, rfl, hmx, hkj⟩ := hrel
              have HM := Lib.hid hmx
              have HKJ := Lib.hid hkj
              have HJ := Lib.hid hj
              have t0 : (0 : Int) ≤ (j : Int) := by omega
              have t1 : (j : Int) ≤ (ad.size : Int) := by omega
              clear hmx hkj hj
              by_cases hlt : j < ad.size
              · have t2 : (j : Int) < (ad.size : Int) := by omega
                have HLT := Lib.hid hlt
                obtain ⟨d0, d1⟩ := HM.out j hlt
                rw [mixB, if_neg (Nat.lt_irrefl j)] at d0
                clear hlt
                obtain ⟨ch, hch⟩ : ∃ ch, ch = ad.data.toList.getD j 0 := ⟨_, rfl⟩
                rw [← hch] at d0
                obtain ⟨x, hx⟩ : ∃ x, x = ch.toNat := ⟨_, rfl⟩
                rw [← hx] at d0
                have x0 : (0 : Int) ≤ (x : Int) := by omega
                have x1 : (x : Int) < 256 := by have := ch.toNat_lt; omega
                by_cases h97 : 97 ≤ x
                · have y0 : (97 : Int) ≤ (x : Int) := by omega
                  by_cases h122 : x ≤ 122
                  · have y1 : (x : Int) ≤ 122 := by omega
                    have HP := Lib.hid (HM.out.put ((x : Int) - 32) (by rw [← hch, upper_yes ch (by omega), ← hx]; omega))
                    have HKP := Lib.hid (HKJ.out.set (p := ⟨bb, j, none⟩) HBB.out (.int .u8 ((x : Int) - 32)))
                    clear hx hch h97 h122
                    go_wp2_with fail
                    go_roundg (ad.size - (j + 1))
                    case measure => have := HLT.out; omega
                    case rel => exact ⟨j + 1, rfl, HLT.out, by go_num, HP.out, HKP.out⟩
                  · have y1 : (122 : Int) < (x : Int) := by omega
                    have HP := Lib.hid (HM.out.keep (by rw [← hch]; exact upper_no ch (by omega)))
                    clear hx hch h97 h122
                    go_wp2_with fail
                    go_roundg (ad.size - (j + 1))
                    case measure => have := HLT.out; omega
                    case rel => exact ⟨j + 1, rfl, HLT.out, by go_num, HP.out, HKJ.out⟩
                · have y0 : (x : Int) < 97 := by omega
                  have HP := Lib.hid (HM.out.keep (by rw [← hch]; exact upper_no ch (by omega)))
                  clear hx hch h97
                  go_wp2_with fail
                  go_roundg (ad.size - (j + 1))
                  case measure => have := HLT.out; omega
                  case rel => exact ⟨j + 1, rfl, HLT.out, by go_num, HP.out, HKJ.out⟩
              · obtain rfl : j = ad.size := by have := HJ.out; omega
                clear hlt
                have hconv : (convert 33 9 (.slice (some ⟨bb, 0, none⟩) ad.size cb)).run Tryd.prog wr = .ok (.string (upS ad)) wr := by
                  have h1 := Lib.run_convert_whole (P := Tryd.prog) wr 33 5 9 Tryd.underlying33 Tryd.underlying5 Tryd.underlying9 bb 0 (upS ad) HM.out.done cb
                  rw [upS_size] at h1
                  exact h1
                have hXW := HXB.out.kp HKJ.out
                have z1 : wr.cell? ⟨xb, 1, none⟩ = some (.string ad) := hXW.cell 1
                have f1 : wr.frozen? ⟨xb, 1, none⟩ = false := hXW.frozen 1
                have hXV := hXW.set_ 1 (.string (upS ad))
                have v0 : (wr.setCell ⟨xb, 1, none⟩ (.string (upS ad))).cell? ⟨xb, 0, none⟩ = some (.string pr) := hXV.cell 0
                have v1 : (wr.setCell ⟨xb, 1, none⟩ (.string (upS ad))).cell? ⟨xb, 1, none⟩ = some (.string (upS ad)) := hXV.cell 1
                have v2 : (wr.setCell ⟨xb, 1, none⟩ (.string (upS ad))).cell? ⟨xb, 2, none⟩ = some (.int .i64 po) := hXV.cell 2
                have HKV := Lib.hid ((HKX.out.trans HKJ.out).set (p := ⟨xb, 1, none⟩) HXS.out (.string (upS ad)))
                obtain ⟨R2, hR2⟩ : ∃ R2 : Nat → Srv, R2 = fun r => if r = k then ⟨pr, upS ad, po⟩ else R r := ⟨_, rfl⟩
                have HR0 := Lib.hid (show ∀ r, r < k → R2 r = R r from fun r hr => by rw [hR2]; exact if_neg (by omega))
                have HR1 := Lib.hid (show R2 k = ⟨pr, upS ad, po⟩ from by rw [hR2]; exact if_pos rfl)
                have HALL := Lib.hid (adds_same R R2 k i HIK.out HR0.out (by rw [HR1.out, HSE.out]; exact upS_same ⟨pr, ad, po⟩))
                have HC2 := Lib.hid (show stpC R2 k = [.int .i64 0, .string pr, .string (upS ad), .int .i64 po] from by rw [stpC, HR1.out])
                have HF2 := Lib.hid (show flatV (stpC R2) (k + 1) = flatV (stpC R) k ++ stpC R2 k from by rw [flatV, flatV_congr (f := stpC R2) (g := stpC R) k (fun r hr => by rw [stpC, HR0.out r hr, stpC])])
                have HS2 := Lib.hid (show ∀ r, r < k + 1 → srvOk (R2 r).pr (R2 r).ad = true from fun r hr => by
                  by_cases e : r = k
                  · rw [e, HR1.out]; exact upS_ok HOI.out
                  · rw [HR0.out r (by omega)]; exact HSO.out r (by omega))
                clear hR2 hXW hXV
                obtain ⟨u1, w5, r1, r2, r3, _⟩ := app_one Tryd.underlying25 infoStep rfl (by decide) (by decide) (wr.setCell ⟨xb, 1, none⟩ (.string (upS ad))) w.heap.size (.slice q k cq) k _ (own_below HVO.out (HK3.out.trans HKV.out)) (HKA.out.trans (HK3.out.trans HKV.out)).size (by have := HN.out; omega) (stpC R2 k) rfl (stpC_one R2 k)
                rw [← HF2.out] at r2
                rw [HC2.out, World.size_setCell] at r1
                have HK5 := Lib.hid (((HKA.out.trans HK3.out).trans HKV.out).grown r3 (own_ge HVO.out))
                have HVA5 := Lib.hid (own_grown (own_below HVA.out HKV.out) (own_below HVO.out (HK3.out.trans HKV.out)) (by decide) r3)
                clear HVA
                have H1 := Lib.hid r1
                have H2 := Lib.hid r2
                clear r1 r2 r3
                obtain ⟨q2, c2, rfl, _, _⟩ := own_slice H2.out
                have CS2 := Lib.hid (served_any q2 (k + 1) c2 (fun _ => 0) R2 w5 (stepsIn_own H2.out) (by have := HN.out; omega) HS2.out)
                go_wp2_with (at_builtin; refine Lib.wpList_append_run _ rfl _ _ _ _ rfl _ _ rfl rfl _ _ H1.out ?_)
                refine CS2.out.mono ?_
                rintro e w6 ⟨vo2, vi2, vb, rfl, _, _, hvb, hk6⟩
                rw [HALL.out] at hvb
                have HVB := Lib.hid hvb
                have HK6 := Lib.hid hk6
                have HKE := Lib.hid (HK5.out.trans hk6)
                clear hvb hk6 CS2
                obtain ⟨qa, ca, rfl, _, _⟩ := own_slice HVA5.out
                obtain ⟨qb, cc, rfl, _, _⟩ := own_slice HVB.out
                have HL := Lib.hid (show (stAt (fun _ => 0) R k).all.length ≤ 1000 from by have := (stAt_len (fun _ => 0) R k).1; have := HN.out; omega)
                have HRA := Lib.hid (SrvRow.of_own (own_below HVA5.out HK6.out) rfl)
                have HRB := Lib.hid (SrvRow.of_own HVB.out rfl)
                clear HVA5 HVB
                generalize (stAt (fun _ => 0) R k).all = L at HL HRA HRB
                go_wp2_with fail
                refine (srvEq_any qa qb L.length ca cc (fun r => L.getD r zS) w6 HRA.out HRB.out HL.out).mono ?_
                rintro e w7 ⟨rfl, hk7⟩
                have HK7 := Lib.hid (HKE.out.trans hk7)
                clear hk7
                go_wp2_with fail
                refine (servedAwake_any w7).mono ?_
                rintro e w8 ⟨rfl, hk8⟩
                have HK8 := Lib.hid (HK7.out.trans hk8)
                clear hk8
                go_wp2_with fail
                go_ret
                exact ⟨rfl, HK8.out⟩
end Go.Proofs.YtmojecgmneodlaaDoor
