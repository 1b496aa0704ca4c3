/-
  Steps of servers as an argument: zzFits2, configSteps, configAdds, slices.Clone, append.
-/
import Derived.Test.YtmojecgmneodlaaDoorSrv11
namespace Go.Proofs.YtmojecgmneodlaaDoor
open Go Go.RowKit Go.ChangeShapes Go.WideShapes Go.Deep

/-- Steps in a row, wherever it begins. -/
def StpRow (w : World) (a : Option Addr) (n : Nat) (KD : Nat → Int) (SV : Nat → Srv) : Prop := ∀ r, r < n → ∃ b o, a = some ⟨b, o, none⟩ ∧ w.cell? ⟨b, o + r * 4, none⟩ = some (.int .i64 (KD r)) ∧ w.cell? ⟨b, o + r * 4 + 1, none⟩ = some (.string (SV r).pr) ∧ w.cell? ⟨b, o + r * 4 + 2, none⟩ = some (.string (SV r).ad) ∧ w.cell? ⟨b, o + r * 4 + 3, none⟩ = some (.int .i64 (SV r).po)
theorem StpRow.kp {w w' : World} {a : Option Addr} {n : Nat} {KD : Nat → Int} {SV : Nat → Srv} (h : StpRow w a n KD SV) (hk : Kp w w') : StpRow w' a n KD SV := fun r hr => by
  obtain ⟨b, o, h0, h1, h2, h3, h4⟩ := h r hr
  exact ⟨b, o, h0, below_some hk h1, below_some hk h2, below_some hk h3, below_some hk h4⟩
def StpIn (w : World) (a : Option Addr) (n : Nat) (KD : Nat → Int) (SV : Nat → Srv) : Prop := StpRow w a n KD SV ∧ ∀ r, r < n → (SV r).pr.size ≤ maxLen ∧ (SV r).ad.size ≤ maxLen
theorem StpIn.kp {w w' : World} {a : Option Addr} {n : Nat} {KD : Nat → Int} {SV : Nat → Srv} (h : StpIn w a n KD SV) (hk : Kp w w') : StpIn w' a n KD SV := ⟨h.1.kp hk, h.2⟩
def stpK (KD : Nat → Int) (SV : Nat → Srv) (r : Nat) : List Value := [.int .i64 (KD r), .string (SV r).pr, .string (SV r).ad, .int .i64 (SV r).po]
theorem stpK_one (KD : Nat → Int) (SV : Nat → Srv) (r : Nat) : ∀ u ∈ stpK KD SV r, u.oneCell' = true := fun u hu => by
  simp only [stpK, List.mem_cons, List.not_mem_nil, or_false] at hu
  rcases hu with rfl | rfl | rfl | rfl <;> rfl
theorem flatV_mem {f : Nat → List Value} {u : Value} : ∀ k, u ∈ flatV f k → ∃ r, r < k ∧ u ∈ f r
  | 0, h => absurd h List.not_mem_nil
  | k + 1, h => by
    rcases List.mem_append.1 h with h | h
    · obtain ⟨r, hr, hu⟩ := flatV_mem k h
      exact ⟨r, by omega, hu⟩
    · exact ⟨k, by omega, h⟩
theorem flatV_split {f : Nat → List Value} {m : Nat} (hf : ∀ r, (f r).length = m) (hm : 0 < m) (k i : Nat) (u : Value) (h : (flatV f k)[i]? = some u) : i / m < k ∧ (f (i / m))[i % m]? = some u := by
  have hl := flatV_len hf k
  have hi : i < k * m := by have := (List.getElem?_eq_some_iff.1 h).1; rw [hl] at this; exact this
  have hk : i / m < k := Nat.div_lt_of_lt_mul (by rw [Nat.mul_comm]; exact hi)
  refine ⟨hk, ?_⟩
  have hj : i % m < (f (i / m)).length := by rw [hf]; exact Nat.mod_lt _ hm
  have h2 := flatV_at hf k (i / m) (i % m) _ hk (List.getElem?_eq_getElem hj)
  rw [Nat.mul_comm, Nat.div_add_mod] at h2
  rw [List.getElem?_eq_getElem hj, ← h2, h]
/-- Two rows of records, one behind the other. -/
theorem flatV_two (f g : Nat → List Value) (n : Nat) : ∀ m, flatV f n ++ flatV g m = flatV (fun r => if r < n then f r else g (r - n)) (n + m)
  | 0 => by
    rw [flatV, List.append_nil, Nat.add_zero]
    exact flatV_congr n fun r hr => (if_pos hr).symm
  | m + 1 => by
    rw [flatV, ← List.append_assoc, flatV_two f g n m, ← Nat.add_assoc, flatV, if_neg (by omega), Nat.add_sub_cancel_left]
theorem stpK_two (KD KD2 : Nat → Int) (SV SV2 : Nat → Srv) (n m : Nat) : flatV (stpK KD SV) n ++ flatV (stpK KD2 SV2) m = flatV (stpK (fun r => if r < n then KD r else KD2 (r - n)) (fun r => if r < n then SV r else SV2 (r - n))) (n + m) := by
  rw [flatV_two]
  refine flatV_congr _ fun r _ => ?_
  by_cases h : r < n <;> simp [h, stpK]
theorem stepsIn_own' {w : World} {base n : Nat} {q : Option Addr} {c : Nat} {KD : Nat → Int} {SV : Nat → Srv} {e : TypeId} (h : w.ownsRow base e 4 (.slice q n c) n (flatV (stpK KD SV) n)) : StepsIn w q n KD SV := fun r hr => by
  obtain ⟨g, cap, e, _, _, _, _, hc⟩ := own_form h (show 0 < n by omega)
  injection e with e1
  exact ⟨g, e1, hc _ _ (flatV_at (f := stpK KD SV) (m := 4) (fun _ => rfl) n r 0 _ hr rfl), hc _ _ (flatV_at (f := stpK KD SV) (m := 4) (fun _ => rfl) n r 1 _ hr rfl), hc _ _ (flatV_at (f := stpK KD SV) (m := 4) (fun _ => rfl) n r 2 _ hr rfl), hc _ _ (flatV_at (f := stpK KD SV) (m := 4) (fun _ => rfl) n r 3 _ hr rfl)⟩
theorem stpRow_own {w : World} {base n : Nat} {q : Option Addr} {c : Nat} {KD : Nat → Int} {SV : Nat → Srv} {e : TypeId} (h : w.ownsRow base e 4 (.slice q n c) n (flatV (stpK KD SV) n)) : StpRow w q n KD SV := fun r hr => by
  obtain ⟨g, h0, h1, h2, h3, h4⟩ := stepsIn_own' h r hr
  exact ⟨g, 0, h0, by rw [Nat.zero_add]; exact h1, by rw [Nat.zero_add]; exact h2, by rw [Nat.zero_add]; exact h3, by rw [Nat.zero_add]; exact h4⟩

theorem app_nil {ty e : TypeId} {z : Value} {size bytes : Nat} (ht : Tryd.prog.underlying ty = some (.slice e)) (hinfo : (Tryd.prog.info? e).map (fun i => (i.zero, i.size, i.bytes)) = some (some z, size, bytes))
    (W : World) (base : Nat) (v : Value) (n : Nat) (xs : List Value) (hown : W.ownsRow base e size v n xs) (c : Nat) : (Builtin.append_ #[ty, ty] ty #[v, .slice none 0 c]).run Tryd.prog W = .ok v W := by
  obtain ⟨i, hi, _, _, _⟩ := info_parts hinfo
  rcases hown.2 with ⟨rfl, rfl⟩ | ⟨g, cap, cur, rfl, _, _, hnc, _⟩
  · simp [Builtin.append_, run_underlying ht, sizeOf, typeInfo, hi, Builtin.lenOf, Builtin.firstCells]
  · simp [Builtin.append_, run_underlying ht, sizeOf, typeInfo, hi, Builtin.lenOf, Builtin.firstCells, hnc, storeCells]
theorem stp_cell {W : World} {ad : Addr} {m : Nat} {KD : Nat → Int} {SV : Nat → Srv} (h : StpRow W (some ad) m KD SV) : ∀ r t u, r < m → (stpK KD SV r)[t]? = some u → W.cell? (ad.add (r * 4 + t)) = some u := fun r t u hr hu => by
  obtain ⟨b, o, he, x0, x1, x2, x3⟩ := h r hr
  injection he with he
  subst he
  rw [Go.WideShapes.add_plain, ← Nat.add_assoc]
  match t, hu with
  | 0, hu => cases hu; exact x0
  | 1, hu => cases hu; exact x1
  | 2, hu => cases hu; exact x2
  | 3, hu => cases hu; exact x3
  | t + 4, hu => cases hu
/-- append of a row of steps. -/
theorem app_steps (W : World) (base : Nat) (v : Value) (n : Nat) (xs : List Value) (hown : W.ownsRow base 29 4 v n xs) (hbase : base ≤ W.heap.size) (a : Option Addr) (m c : Nat) (KD : Nat → Int) (SV : Nat → Srv) (h : StpRow W a m KD SV) (ha : a = none → m = 0) (hn : n ≤ 1000) (hm : m ≤ 1000) :
    ∃ v' w5, (Builtin.append_ #[25, 25] 25 #[v, .slice a m c]).run Tryd.prog W = .ok v' w5 ∧ w5.ownsRow base 29 4 v' (n + m) (xs ++ flatV (stpK KD SV) m) ∧ W.grownBy w5 v.ownBlock := by
  rcases a with _ | ⟨b, o, sp⟩
  · obtain rfl := ha rfl
    exact ⟨v, W, app_nil Tryd.underlying25 infoStep W base v n xs hown c, by rw [flatV, List.append_nil]; exact hown, World.grownBy.refl W _⟩
  · obtain ⟨i0, hi, hz0, hz1, hz2⟩ := info_parts infoStep
    have key := stp_cell h
    obtain ⟨v', w', h1, h2, h3, _, h5⟩ := run_append_own_at (P := Tryd.prog) W base 25 25 29 i0 _ 4 48 Tryd.underlying25 hi hz0 hz1 hz2 rfl (by decide) v n xs hown ⟨b, o, sp⟩ m c (flatV (stpK KD SV) m) (flatV_len (f := stpK KD SV) (m := 4) (fun _ => rfl) m)
      (fun j u hj => by
        obtain ⟨hr, hu⟩ := flatV_split (f := stpK KD SV) (m := 4) (fun _ => rfl) (by decide) m j u hj
        have hk := key (j / 4) (j % 4) u hr hu
        rw [Nat.mul_comm, Nat.div_add_mod] at hk
        exact hk)
      (fun u hu => by obtain ⟨r, _, hr⟩ := flatV_mem m hu; exact stpK_one KD SV r u hr) (by unfold maxLen; omega) (by omega) hbase
    exact ⟨v', w', h1, h2, h3⟩
/-- append of one new record to a long row. -/
theorem app_long {ty e : TypeId} {z : Value} {size bytes : Nat} (ht : Tryd.prog.underlying ty = some (.slice e)) (hinfo : (Tryd.prog.info? e).map (fun i => (i.zero, i.size, i.bytes)) = some (some z, size, bytes)) (hzs : z.cells.size = size) (hsz : 0 < size) (hby : bytes ≤ 1000)
    (W : World) (base : Nat) (v : Value) (n : Nat) (xs : List Value) (hown : W.ownsRow base e size v n xs) (hbase : base ≤ W.heap.size) (hn : n ≤ 2147483647) (cs : List Value) (hl : cs.length = size) (h1 : ∀ u ∈ cs, u.oneCell' = true) :
    ∃ v' w5, (Builtin.append_ #[ty, ty] ty #[v, .slice (some ⟨W.heap.size, 0, none⟩) 1 1]).run Tryd.prog (W.alloc (.cells cs.toArray e)) = .ok v' w5 ∧
      w5.ownsRow base e size v' (n + 1) (xs ++ cs) ∧ W.grownBy w5 v.ownBlock := by
  generalize hW : W.alloc (.cells cs.toArray e) = W4
  have hs : W4.heap.size = W.heap.size + 1 := by rw [← hW]; simp
  have hk : Kp W W4 := hW ▸ (Kp.refl W).alloc _
  have hg : Blk W4 W.heap.size e cs.toArray := hW ▸ Blk.new W _ _
  obtain ⟨i0, hi, hz0, hz1, hz2⟩ := info_parts hinfo
  have hb : (n + 1) * bytes ≤ 2147483648 * 1000 := Nat.mul_le_mul (by omega) hby
  obtain ⟨v', w5, r1, r2, r5, _, r6⟩ := run_append_own_at (P := Tryd.prog) W4 base ty ty e i0 z size bytes ht hi hz0 hz1 hz2 hzs hsz v n xs (own_below hown hk) ⟨W.heap.size, 0, none⟩ 1 1 cs (by omega)
    (fun j x hj => by rw [Go.WideShapes.add_plain, Nat.zero_add, hg.cell j, ← hj]; simp) h1 (by unfold maxLen; omega) (by omega) (by omega)
  refine ⟨v', w5, r1, r2, ?_⟩
  rw [← hW] at r5
  exact (World.grownBy_alloc W _ _).trans r5

theorem own_empty (w : World) (e : TypeId) (size : Nat) : (w.alloc (.cells #[] e)).ownsRow w.heap.size e size (.slice (some ⟨w.heap.size, 0, none⟩) 0 0) 0 [] :=
  ⟨by simp, .inr ⟨w.heap.size, 0, #[], rfl, Nat.le_refl _, heap_alloc_new w _, Nat.le_refl _, by simp [maxLen], by simp, by simp⟩⟩
set_option maxRecDepth 100000 in
theorem zzFits3_any (k : Int) (p a : ByteArray) (n : Int) (hp : p.size ≤ maxLen) (ha : a.size ≤ maxLen) (w : World) :
    Calls Tryd.prog 46 #[.agg #[.int .i64 k, .string p, .string a, .int .i64 n]] w fun e w' => ∃ b, e = .returned (.bool b) ∧ Kp w w' := by
  have C := Lib.hid (fun w1 => zzFits1_any p a n hp ha w1)
  clear hp ha
  go_enter Tryd.func46, Tryd.ntmps46
  go_wp2_with fail
  refine (C.out _).mono ?_
  rintro e w1 ⟨rfl, hk⟩
  have HK := Lib.hid (((Kp.refl w).alloc (.cells #[.int .i64 k, .string p, .string a, .int .i64 n] 29)).trans hk)
  clear hk C
  generalize (decide (p.size ≤ 2147483647) && decide (a.size ≤ 2147483647)) = fb
  cases fb
  · go_wp2_with fail
    go_ret
    exact ⟨false, rfl, HK.out⟩
  · go_wp2_with fail
    go_ret
    exact ⟨true, rfl, HK.out⟩
set_option maxRecDepth 100000 in
set_option maxHeartbeats 2000000 in
theorem zzFits2_any (a : Option Addr) (n c : Nat) (KD : Nat → Int) (SV : Nat → Srv) (w : World) (h : StpIn w a n KD SV) (hnc : n ≤ c) (hc : c ≤ maxLen) :
    Calls Tryd.prog 15 #[.slice a n c] w fun e w' => ∃ b, e = .returned (.bool b) ∧ (b = true → n ≤ 2147483647) ∧ Kp w w' := by
  have i0 : (n : Int) ≤ 9223372036854775807 := by unfold maxLen at hc; omega
  have HI := Lib.hid h
  clear h hnc hc
  by_cases hn : n ≤ 2147483647
  · have i1 : (n : Int) ≤ 2147483647 := by omega
    have HN := Lib.hid hn
    clear hn
    go_enter Tryd.func15, Tryd.ntmps15
    go_wp2_with fail
    go_loopg [10] n (fun G st wr => ∃ k : Nat, G = n - k ∧ k ≤ n ∧ st = .int .i64 (k : Int) ∧ Kp w wr)
    case atStart => exact ⟨0, rfl, Nat.zero_le _, rfl, Kp.refl w⟩
    case round =>
      obtain ⟨k, rfl, hk, rfl, hkp⟩ := hrel
      have HK := Lib.hid hkp
      have HKN := Lib.hid hk
      have j0 : (0 : Int) ≤ (k : Int) := by omega
      have j1 : (k : Int) ≤ (n : Int) := by omega
      clear hkp hk
      by_cases hlt : k < n
      · have j2 : (k : Int) < (n : Int) := by omega
        obtain ⟨b, o, rfl, x0, x1, x2, x3⟩ := (HI.out.kp HK.out).1 k hlt
        have HS := Lib.hid (HI.out.2 k hlt)
        have HLT := Lib.hid hlt
        generalize SV k = s at x1 x2 x3 HS
        generalize KD k = kd at x0
        obtain ⟨pr, ad, po⟩ := s
        dsimp only at x1 x2 x3 HS
        clear hlt
        go_wp2_with fail
        refine (zzFits3_any kd pr ad po HS.out.1 HS.out.2 _).mono ?_
        rintro e w1 ⟨fb, rfl, hk1⟩
        have HK1 := Lib.hid (HK.out.trans (((Kp.refl wr).alloc _).trans hk1))
        clear hk1 x0 x1 x2 x3
        cases fb
        · go_wp2_with fail
          go_ret
          exact ⟨false, rfl, fun h => (by cases h), HK1.out⟩
        · go_wp2_with fail
          go_roundg (n - (k + 1))
          case measure => have := HLT.out; omega
          case rel => exact ⟨k + 1, rfl, HLT.out, by go_num, HK1.out⟩
      · obtain rfl : k = n := by have := HKN.out; omega
        clear hlt
        go_wp2_with fail
        go_ret
        exact ⟨true, rfl, fun _ => HN.out, HK.out⟩
  · have i1 : (2147483647 : Int) < (n : Int) := by omega
    clear hn
    go_enter Tryd.func15, Tryd.ntmps15
    go_wp2_with fail
    go_ret
    exact ⟨false, rfl, fun h => (by cases h), Kp.refl _⟩
theorem srvIn_flat {w : World} {base n : Nat} {q : Option Addr} {c : Nat} {SV : Nat → Srv} {e : TypeId} (h : w.ownsRow base e 3 (.slice q n c) n (flatV (fun r => srvC (SV r)) n)) (hs : ∀ r, r < n → (SV r).pr.size ≤ maxLen ∧ (SV r).ad.size ≤ maxLen) : SrvIn w q n SV := ⟨fun r hr => by
  obtain ⟨g, cap, e, _, _, _, _, hc⟩ := own_form h (show 0 < n by omega)
  injection e with e1
  exact ⟨g, 0, e1, by rw [Nat.zero_add]; exact hc _ _ (flatV_at (f := fun r => srvC (SV r)) (m := 3) (fun _ => rfl) n r 0 _ hr rfl), by rw [Nat.zero_add]; exact hc _ _ (flatV_at (f := fun r => srvC (SV r)) (m := 3) (fun _ => rfl) n r 1 _ hr rfl), by rw [Nat.zero_add]; exact hc _ _ (flatV_at (f := fun r => srvC (SV r)) (m := 3) (fun _ => rfl) n r 2 _ hr rfl)⟩, hs⟩
set_option maxRecDepth 100000 in
set_option maxHeartbeats 4000000 in
theorem configSteps_any (a : Option Addr) (n c : Nat) (KD : Nat → Int) (SV : Nat → Srv) (w : World) (h : StpIn w a n KD SV) (hn : n ≤ 2147483647) :
    Calls Tryd.prog 16 #[.slice a n c] w fun e w' => ∃ b, e = .returned (.bool b) ∧ (b = true → n ≤ 100 ∧ ∀ r, r < n → srvOk (SV r).pr (SV r).ad = true) ∧ Kp w w' := by
  have i1 : (n : Int) ≤ 2147483647 := by omega
  have HN := Lib.hid hn
  have HI := Lib.hid h
  clear h hn
  go_enter Tryd.func16, Tryd.ntmps16
  go_wp2_with fail
  go_loopg [3, 8] n (fun G s3 s8 wr => ∃ (k : Nat) (vs : Value), G = n - k ∧ k ≤ n ∧ vs = s3 ∧ s8 = .int .i64 (k : Int) ∧ wr.ownsRow w.heap.size 27 3 vs k (flatV (fun r => srvC (SV r)) k) ∧ Kp w wr)
  case atStart => exact ⟨0, _, rfl, Nat.zero_le _, rfl, rfl, World.ownsRow_nil _ _ _ _, Kp.refl w⟩
  case round =>
    obtain ⟨k, vs, rfl, hk, rfl, rfl, hvs, hkp⟩ := hrel
    have HVS := Lib.hid hvs
    have HK := Lib.hid hkp
    have HKN := Lib.hid hk
    have j0 : (0 : Int) ≤ (k : Int) := by omega
    have j1 : (k : Int) ≤ (n : Int) := by omega
    clear hvs hkp hk
    by_cases hlt : k < n
    · have j2 : (k : Int) < (n : Int) := by omega
      obtain ⟨b, o, rfl, x0, x1, x2, x3⟩ := (HI.out.kp HK.out).1 k hlt
      have HLT := Lib.hid hlt
      have HFE := Lib.hid (show flatV (fun r => srvC (SV r)) (k + 1) = flatV (fun r => srvC (SV r)) k ++ srvC (SV k) from rfl)
      obtain ⟨v1, w5, r1, r2, r3⟩ := app_long Tryd.underlying22 infoSrv rfl (by decide) (by decide) (wr.alloc (.cells #[.int .i64 (KD k), .string (SV k).pr, .string (SV k).ad, .int .i64 (SV k).po] 29)) w.heap.size vs k _ (own_below HVS.out ((Kp.refl wr).alloc _)) (HK.out.alloc _).size (by have := HN.out; omega) (srvC (SV k)) rfl (srvC_one _)
      rw [World.size_alloc] at r1
      have H1 := Lib.hid r1
      have H2 := Lib.hid r2
      have HK5 := Lib.hid ((HK.out.alloc (.cells #[.int .i64 (KD k), .string (SV k).pr, .string (SV k).ad, .int .i64 (SV k).po] 29)).grown r3 (own_ge HVS.out))
      clear r1 r2 r3 hlt
      generalize KD k = kd at x0 H1 HK5
      generalize SV k = s at x1 x2 x3 H1 H2 HK5 HFE
      obtain ⟨pr, ad, po⟩ := s
      dsimp only [srvC] at x1 x2 x3 H1 HK5
      go_wp2_with (at_builtin; refine Lib.wpList_append_run _ rfl _ _ _ _ rfl _ _ rfl rfl _ _ H1.out ?_)
      go_roundg (n - (k + 1))
      case measure => have := HLT.out; omega
      case rel => exact ⟨k + 1, v1, rfl, HLT.out, rfl, by go_num, by rw [HFE.out]; exact H2.out, HK5.out⟩
    · obtain rfl : k = n := by have := HKN.out; omega
      clear hlt
      obtain ⟨q, cq, rfl, hq1, hq2⟩ := own_slice HVS.out
      have C := Lib.hid (configServersIn_any q k cq SV wr (srvIn_flat HVS.out HI.out.2) hq1 hq2)
      clear hq1 hq2
      go_wp2_with fail
      refine C.out.mono ?_
      rintro e w3 ⟨b, rfl, hb, hk3⟩
      have HB := Lib.hid hb
      have HK3 := Lib.hid (HK.out.trans hk3)
      clear hb hk3 C
      go_wp2_with fail
      go_ret
      exact ⟨b, rfl, HB.out, HK3.out⟩
set_option maxRecDepth 100000 in
set_option maxHeartbeats 4000000 in
theorem configAdds_any (q : Option Addr) (c : Nat) (L : List Srv) (w : World) (h : SrvRow w q L.length (fun r => L.getD r zS)) (hn : L.length ≤ 300) :
    Calls Tryd.prog 19 #[.slice q L.length c] w fun e w' => ∃ v, e = .returned v ∧ w'.ownsRow w.heap.size 29 4 v L.length (flatV (stpK (fun _ => 0) (fun r => L.getD r zS)) L.length) ∧ Kp w w' := by
  obtain ⟨R, hR⟩ : ∃ R : Nat → Srv, R = fun r => L.getD r zS := ⟨_, rfl⟩
  rw [← hR] at h ⊢
  clear hR
  obtain ⟨n, hnn⟩ : ∃ n, n = L.length := ⟨_, rfl⟩
  rw [← hnn] at h hn ⊢
  clear hnn
  have i1 : (n : Int) ≤ 300 := by omega
  have HN := Lib.hid hn
  have HI := Lib.hid h
  clear h hn
  go_enter Tryd.func19, Tryd.ntmps19
  go_wp2_with fail
  go_loopg [3, 8] n (fun G s3 s8 wr => ∃ (k : Nat) (vs : Value), G = n - k ∧ k ≤ n ∧ vs = s3 ∧ s8 = .int .i64 (k : Int) ∧ wr.ownsRow w.heap.size 29 4 vs k (flatV (stpK (fun _ => 0) R) k) ∧ Kp w wr)
  case atStart => exact ⟨0, _, rfl, Nat.zero_le _, rfl, rfl, World.ownsRow_nil _ _ _ _, Kp.refl w⟩
  case round =>
    obtain ⟨k, vs, rfl, hk, rfl, rfl, hvs, hkp⟩ := hrel
    have HVS := Lib.hid hvs
    have HK := Lib.hid hkp
    have HKN := Lib.hid hk
    have j0 : (0 : Int) ≤ (k : Int) := by omega
    have j1 : (k : Int) ≤ (n : Int) := by omega
    clear hvs hkp hk
    by_cases hlt : k < n
    · have j2 : (k : Int) < (n : Int) := by omega
      obtain ⟨b, o, rfl, x0, x1, x2⟩ := (HI.out.kp HK.out) k hlt
      have HLT := Lib.hid hlt
      have HE := Lib.hid (show stpK (fun _ => 0) R k = [.int .i64 0, .string (R k).pr, .string (R k).ad, .int .i64 (R k).po] from rfl)
      have HFE := Lib.hid (show flatV (stpK (fun _ => 0) R) (k + 1) = flatV (stpK (fun _ => 0) R) k ++ stpK (fun _ => 0) R k from rfl)
      obtain ⟨v1, w5, r1, r2, r3⟩ := app_long Tryd.underlying25 infoStep rfl (by decide) (by decide) (wr.alloc (.cells #[.string (R k).pr, .string (R k).ad, .int .i64 (R k).po] 27)) w.heap.size vs k _ (own_below HVS.out ((Kp.refl wr).alloc _)) (HK.out.alloc _).size (by have := HN.out; omega) (stpK (fun _ => 0) R k) rfl (stpK_one _ R k)
      rw [HE.out, World.size_alloc] at r1
      have H1 := Lib.hid r1
      have H2 := Lib.hid r2
      have HK5 := Lib.hid ((HK.out.alloc (.cells #[.string (R k).pr, .string (R k).ad, .int .i64 (R k).po] 27)).grown r3 (own_ge HVS.out))
      clear r1 r2 r3 hlt
      generalize R k = s at x0 x1 x2 H1 H2 HK5 HE
      obtain ⟨pr, ad, po⟩ := s
      dsimp only at x0 x1 x2 H1 HK5
      go_wp2_with (at_builtin; refine Lib.wpList_append_run _ rfl _ _ _ _ rfl _ _ rfl rfl _ _ H1.out ?_)
      go_roundg (n - (k + 1))
      case measure => have := HLT.out; omega
      case rel => exact ⟨k + 1, v1, rfl, HLT.out, rfl, by go_num, by rw [HFE.out]; exact H2.out, HK5.out⟩
    · obtain rfl : k = n := by have := HKN.out; omega
      clear hlt
      go_wp2_with fail
      go_ret
      exact ⟨vs, rfl, HVS.out, HK.out⟩
set_option maxRecDepth 100000 in
set_option maxHeartbeats 4000000 in
theorem cloneSteps_any (a : Option Addr) (n c : Nat) (KD : Nat → Int) (SV : Nat → Srv) (w : World) (h : StpRow w a n KD SV) (ha : a = none → n = 0) (hn : n ≤ 300) :
    Calls Tryd.prog 17 #[.slice a n c] w fun e w' => ∃ v, e = .returned v ∧ w'.ownsRow w.heap.size 29 4 v n (flatV (stpK KD SV) n) ∧ Kp w w' := by
  have hnil := fun (w : World) (a : Option Addr) (n c n' c' : Nat) => Lib.run_eql_slice_nil (P := Tryd.prog) w 25 29 a n c n' c' Tryd.underlying25
  cases a with
  | none =>
    obtain rfl := ha rfl
    clear h ha
    go_enter Tryd.func17, Tryd.ntmps17
    go_wp2_with fail
    go_ret
    exact ⟨_, rfl, World.ownsRow_nil _ _ _ _, Kp.refl _⟩
  | some ad =>
    have hk : Kp w (w.alloc (.cells #[] 29)) := (Kp.refl w).alloc _
    obtain ⟨v1, w5, r1, r2, r3⟩ := app_steps (w.alloc (.cells #[] 29)) w.heap.size (.slice (some ⟨w.heap.size, 0, none⟩) 0 0) 0 [] (own_empty w 29 4) hk.size (some ad) n c KD SV (h.kp hk) (fun e => by cases e) (by omega) (by omega)
    rw [Nat.zero_add, List.nil_append] at r2
    have H1 := Lib.hid r1
    have H2 := Lib.hid r2
    have HK := Lib.hid (hk.grown r3 (fun k e => by simp [Value.ownBlock] at e; omega))
    clear h ha hn hk r1 r2 r3
    go_enter Tryd.func17, Tryd.ntmps17
    go_wp2_with (at_builtin; refine Lib.wpList_append_run _ rfl _ _ _ _ rfl _ _ rfl rfl _ _ H1.out ?_)
    go_ret
    exact ⟨v1, rfl, H2.out, HK.out⟩

section
variable {H : Type} {enc : TypeId × Value → H} {w : World} {base : Nat} {held : Bool}
theorem len2 {α : Type} : ∀ l : List α, l.length = 2 → ∃ a b, l = [a, b]
  | [a, b], _ => ⟨a, b, rfl⟩
theorem len4 {α : Type} : ∀ l : List α, l.length = 4 → ∃ a b c d, l = [a, b, c, d]
  | [a, b, c, d], _ => ⟨a, b, c, d, rfl⟩
theorem stp_cells {fuel : Nat} {cs : List Value} {y : DataW H × List MemPlace} (h : DataW.trod enc Tryd.prog w base (fun _ => true) held fuel 29 cs = some y) (hcl : cs.length = 4) :
    ∃ (k : Int) (s : Srv), cs = [.int .i64 k, .string s.pr, .string s.ad, .int .i64 s.po] ∧ s.pr.size ≤ maxLen ∧ s.ad.size ≤ maxLen := by
  obtain ⟨ys, n', hn', hy, hlen, hyl, hf⟩ := DataW.trod_struct Tryd.underlying29 h
  have c3 : Tryd.prog.cellsOf 3 = 1 := by kernel_rfl
  have cS : Tryd.prog.cellsOf 27 = 3 := by kernel_rfl
  obtain ⟨a, b, c, d, rfl⟩ := len4 cs hcl
  have hyl' : ys.length = 2 := hyl
  clear hyl
  obtain ⟨y0, y1, rfl⟩ := len2 ys hyl'
  have t0 : DataW.trod enc Tryd.prog w base (fun _ => true) held n' 3 (List.take (Tryd.prog.cellsOf 3) [a, b, c, d]) = some y0 := hf 0 _ rfl
  have t1 : DataW.trod enc Tryd.prog w base (fun _ => true) held n' 27 (List.take (Tryd.prog.cellsOf 27) [b, c, d]) = some y1 := hf 1 _ rfl
  rw [c3] at t0
  rw [cS] at t1
  obtain ⟨k, h0, _, _⟩ := DataW.trod_int Tryd.underlying3 (show DataW.trod enc Tryd.prog w base (fun _ => true) held n' 3 [a] = some y0 from t0)
  obtain ⟨s, hs, z0, z1⟩ := srv_cells (show DataW.trod enc Tryd.prog w base (fun _ => true) held n' 27 [b, c, d] = some y1 from t1) rfl
  obtain rfl : a = .int .i64 k := by simpa using h0
  injection hs with e1 hs
  injection hs with e2 hs
  injection hs with e3 _
  subst e1 e2 e3
  exact ⟨k, s, rfl, z0, z1⟩
theorem stpIn_open {fuel : Nat} {p : Option Addr} {n c : Nat} {x : DataW H × List MemPlace} (h : DataW.trod enc Tryd.prog w base (fun _ => true) held fuel 25 [.slice p n c] = some x) :
    ∃ KD SV, StpIn w p n KD SV ∧ (p = none → n = 0) ∧ n ≤ c ∧ c ≤ maxLen := by
  rcases open_slice Tryd.underlying25 h with ⟨hcs, _⟩ | ⟨a, len, cap, m, nn, D, Pl, hcs, hb, hl, hm, hmm, hx, hi⟩
  · cases hcs
    exact ⟨fun _ => 0, fun _ => zS, ⟨fun r hr => absurd hr (by omega), fun r hr => absurd hr (by omega)⟩, fun _ => rfl, Nat.le_refl _, Nat.zero_le _⟩
  · cases hcs
    have hmc : m = c := by simpa using hmm
    subst hmc
    obtain ⟨b, o, s⟩ := a
    have hC : Tryd.prog.cellsOf 29 = 4 := by kernel_rfl
    simp only [hC] at hi
    have key : ∀ r, ∃ x : Int × Srv, r < n → (s = none ∧ w.cell? ⟨b, o + r * 4, none⟩ = some (.int .i64 x.1) ∧ w.cell? ⟨b, o + r * 4 + 1, none⟩ = some (.string x.2.pr) ∧ w.cell? ⟨b, o + r * 4 + 2, none⟩ = some (.string x.2.ad) ∧ w.cell? ⟨b, o + r * 4 + 3, none⟩ = some (.int .i64 x.2.po) ∧ x.2.pr.size ≤ maxLen ∧ x.2.ad.size ≤ maxLen) := fun r => by
      by_cases hr : r < n
      · have hm0 : 0 < m := by omega
        obtain ⟨cs', hc, ht'⟩ := hi r (by omega)
        obtain ⟨_, hcl, hat⟩ := World.cells?_some hc
        obtain ⟨k, s', hs', z0, z1⟩ := stp_cells ht' hcl
        subst hs'
        obtain rfl : s = none := by
          obtain ⟨cz, hcz, _⟩ := hi 0 hm0
          obtain ⟨_, hl0, hat0⟩ := World.cells?_some hcz
          have h0 := hat0 0 (by decide)
          rw [List.getElem?_eq_getElem (by rw [hl0]; decide)] at h0
          simpa [Addr.add] using World.cell?_spot h0
        have cc : ∀ j u, j < 4 → [Value.int .i64 k, .string s'.pr, .string s'.ad, .int .i64 s'.po][j]? = some u → w.cell? ⟨b, o + r * 4 + j, none⟩ = some u := fun j u hj hu => by
          have h0 := hat j hj
          rw [Go.WideShapes.add_plain, Go.WideShapes.add_plain, hu] at h0
          exact h0
        exact ⟨(k, s'), fun _ => ⟨rfl, cc 0 _ (by decide) rfl, cc 1 _ (by decide) rfl, cc 2 _ (by decide) rfl, cc 3 _ (by decide) rfl, z0, z1⟩⟩
      · exact ⟨(0, zS), fun h => absurd h hr⟩
    exact ⟨fun r => (Classical.choose (key r)).1, fun r => (Classical.choose (key r)).2, ⟨fun r hr => by
      obtain ⟨rfl, h1, h2, h3, h4, _⟩ := Classical.choose_spec (key r) hr
      exact ⟨b, o, rfl, h1, h2, h3, h4⟩, fun r hr => by
      obtain ⟨_, h1, h2, h3, h4, h5⟩ := Classical.choose_spec (key r) hr
      exact h5⟩, (fun e => by cases e), hl, hm⟩
end
end Go.Proofs.YtmojecgmneodlaaDoor
