/-
  zzFits4, configServers of an argument; an argument that is a slice of servers, opened.
-/
import Derived.Test.YtmojecgmneodlaaDoorSrv8
import Derived.Deep.Slices
import Derived.Deep.Fields
import Derived.ChangeSame
import Derived.ChangeSlices
import Derived.OpenShut
namespace Go.Proofs.YtmojecgmneodlaaDoor
open Go Go.RowKit Go.ChangeShapes Go.WideShapes Go.Deep

/-- Servers in a row, their texts no longer than any text can be. -/
def SrvIn (w : World) (a : Option Addr) (n : Nat) (R : Nat → Srv) : Prop := SrvRow w a n R ∧ ∀ r, r < n → (R r).pr.size ≤ maxLen ∧ (R r).ad.size ≤ maxLen
theorem SrvIn.kp {w w' : World} {a : Option Addr} {n : Nat} {R : Nat → Srv} (h : SrvIn w a n R) (hk : Kp w w') : SrvIn w' a n R := ⟨h.1.kp hk, h.2⟩
set_option maxRecDepth 100000 in
set_option maxHeartbeats 2000000 in
theorem zzFits4_any (a : Option Addr) (n c : Nat) (R : Nat → Srv) (w : World) (h : SrvIn w a n R) (hnc : n ≤ c) (hc : c ≤ maxLen) :
    Calls Tryd.prog 10 #[.slice a n c] w fun e w' => ∃ b, e = .returned (.bool b) ∧ Kp w w' := by
  have i0 : (n : Int) ≤ 9223372036854775807 := by unfold maxLen at hc; omega
  have HI := Lib.hid h
  clear h hnc hc
  by_cases hn : n ≤ 2147483647
  · have i1 : (n : Int) ≤ 2147483647 := by omega
    clear hn
    go_enter Tryd.func10, Tryd.ntmps10
    go_wp2_with fail
    go_loopg [10] n (fun G st wr => ∃ k : Nat, G = n - k ∧ k ≤ n ∧ st = .int .i64 (k : Int) ∧ Kp w wr)
    case atStart => exact ⟨0, rfl, Nat.zero_le _, rfl, Kp.refl w⟩
    case round =>
      obtain ⟨k, rfl, hk, rfl, hkp⟩ := hrel
      have HK := Lib.hid hkp
      have HKN := Lib.hid hk
      have j0 : (0 : Int) ≤ (k : Int) := by omega
      have j1 : (k : Int) ≤ (n : Int) := by omega
      clear hkp hk
      by_cases hlt : k < n
      · have j2 : (k : Int) < (n : Int) := by omega
        obtain ⟨b, o, rfl, x0, x1, x2⟩ := (HI.out.kp HK.out).1 k hlt
        have HS := Lib.hid (HI.out.2 k hlt)
        have HLT := Lib.hid hlt
        generalize R k = s at x0 x1 x2 HS
        obtain ⟨pr, ad, po⟩ := s
        dsimp only at x0 x1 x2 HS
        clear hlt
        go_wp2_with fail
        refine (zzFits1_any pr ad po HS.out.1 HS.out.2 _).mono ?_
        rintro e w1 ⟨rfl, hk1⟩
        have HK1 := Lib.hid (HK.out.trans (((Kp.refl wr).alloc _).trans hk1))
        clear hk1 x0 x1 x2
        generalize (decide (pr.size ≤ 2147483647) && decide (ad.size ≤ 2147483647)) = fb
        cases fb
        · go_wp2_with fail
          go_ret
          exact ⟨false, rfl, HK1.out⟩
        · go_wp2_with fail
          go_roundg (n - (k + 1))
          case measure => have := HLT.out; omega
          case rel => exact ⟨k + 1, rfl, HLT.out, by go_num, HK1.out⟩
      · obtain rfl : k = n := by have := HKN.out; omega
        clear hlt
        go_wp2_with fail
        go_ret
        exact ⟨true, rfl, HK.out⟩
  · have i1 : (2147483647 : Int) < (n : Int) := by omega
    clear hn
    go_enter Tryd.func10, Tryd.ntmps10
    go_wp2_with fail
    go_ret
    exact ⟨false, rfl, Kp.refl _⟩
set_option maxRecDepth 100000 in
set_option maxHeartbeats 2000000 in
theorem configServersIn_any (a : Option Addr) (n c : Nat) (R : Nat → Srv) (w : World) (h : SrvIn w a n R) (hnc : n ≤ c) (hc : c ≤ maxLen) :
    Calls Tryd.prog 11 #[.slice a n c] w fun e w' => ∃ b, e = .returned (.bool b) ∧ (b = true → n ≤ 100 ∧ ∀ r, r < n → srvOk (R r).pr (R r).ad = true) ∧ Kp w w' := by
  have i0 : (n : Int) ≤ 9223372036854775807 := by unfold maxLen at hc; omega
  have HI := Lib.hid h
  clear h hnc hc
  by_cases hn : n ≤ 100
  · have i1 : (n : Int) ≤ 100 := by omega
    have HN := Lib.hid hn
    clear hn
    go_enter Tryd.func11, Tryd.ntmps11
    go_wp2_with fail
    go_loopg [10] n (fun G st wr => ∃ k : Nat, G = n - k ∧ k ≤ n ∧ st = .int .i64 (k : Int) ∧ (∀ r, r < k → srvOk (R r).pr (R r).ad = true) ∧ Kp w wr)
    case atStart => exact ⟨0, rfl, Nat.zero_le _, rfl, fun r hr => absurd hr (by omega), Kp.refl w⟩
    case round =>
      obtain ⟨k, rfl, hk, rfl, hs, hkp⟩ := hrel
      have HS := Lib.hid hs
      have HK := Lib.hid hkp
      have HKN := Lib.hid hk
      have j0 : (0 : Int) ≤ (k : Int) := by omega
      have j1 : (k : Int) ≤ (n : Int) := by omega
      clear hs hkp hk
      by_cases hlt : k < n
      · have j2 : (k : Int) < (n : Int) := by omega
        obtain ⟨b, o, rfl, d0, d1, d2⟩ := (HI.out.kp HK.out).1 k hlt
        have HM := Lib.hid (And.symm (HI.out.2 k hlt))
        have HLT := Lib.hid hlt
        have HYE := Lib.hid (fun (h : srvOk (R k).pr (R k).ad = true) => (show ∀ r, r < k + 1 → srvOk (R r).pr (R r).ad = true from fun r hr => by
          by_cases e : r = k
          · rw [e]; exact h
          · exact HS.out r (by omega)))
        generalize R k = s at d0 d1 d2 HM HYE
        obtain ⟨pr, ad, po⟩ := s
        dsimp only at d0 d1 d2 HM HYE
        clear hlt
        go_wp2_with fail
        generalize hX : (wr.alloc (.cells #[.string pr, .string ad, .int .i64 po] 27)).alloc (.cells #[.string ad, .string pr] 9) = X
        obtain ⟨sb, hsb⟩ : ∃ sb, sb = wr.heap.size := ⟨_, rfl⟩
        have hB2 : Blk X (sb + 1) 9 #[.string ad, .string pr] := by rw [hsb, ← hX]; exact Blk.new2 wr _ _ _
        have HB1 := Lib.hid (show Blk X sb 27 #[.string pr, .string ad, .int .i64 po] from by rw [hsb, ← hX]; exact (Blk.new wr _ _).alloc _)
        have HKX := Lib.hid (show Kp wr X from hX ▸ ((Kp.refl wr).alloc _).alloc _)
        have CSH := Lib.hid (configShort_any (sb + 1) 2 2 (fun r => if r = 0 then ad else pr) X (fun r hr => by
          rcases (show r = 0 ∨ r = 1 by omega) with rfl | rfl
          · exact hB2.cell 0
          · exact hB2.cell 1) (fun r _ => by show (if r = 0 then ad else pr).size ≤ maxLen; split; exact HM.out.1; exact HM.out.2) (by omega))
        have HSE := Lib.hid (show shortL (fun r => if r = 0 then ad else pr) 2 = (decide (ad.size ≤ 300) && decide (pr.size ≤ 300)) from by simp [shortL])
        rw [HSE.out] at CSH
        rw [← hsb]
        clear hX hsb hB2 d0 d1 d2
        refine CSH.out.mono ?_
        rintro e wx ⟨rfl, rfl⟩
        clear CSH
        cases hsh : (decide (ad.size ≤ 300) && decide (pr.size ≤ 300))
        · clear hsh
          go_wp2_with fail
          go_ret
          exact ⟨false, rfl, fun h => (by cases h), HK.out.trans HKX.out⟩
        · have HSH := Lib.hid hsh
          have u1 : X.cell? ⟨sb, 1, none⟩ = some (.string ad) := HB1.out.cell 1
          clear hsh
          go_wp2_with fail
          refine (plain_any ad _ (by have := HSH.out; simp at this; exact this.1)).mono ?_
          rintro e w3 ⟨rfl, hk3⟩
          have K3 := Lib.hid (HK.out.trans (HKX.out.trans hk3))
          clear hk3 u1
          cases hpl : plainL ad.data.toList
          · clear hpl
            go_wp2_with fail
            go_ret
            exact ⟨false, rfl, fun h => (by cases h), K3.out⟩
          · have HOK := Lib.hid (show srvOk pr ad = true from by simp only [srvOk, hpl, HSH.out]; rfl)
            clear hpl
            go_wp2_with fail
            go_roundg (n - (k + 1))
            case measure => have := HLT.out; omega
            case rel => exact ⟨k + 1, rfl, HLT.out, by go_num, HYE.out HOK.out, K3.out⟩
      · obtain rfl : k = n := by have := HKN.out; omega
        clear hlt
        go_wp2_with fail
        go_ret
        exact ⟨true, rfl, fun _ => ⟨HN.out, HS.out⟩, HK.out⟩
  · have i1 : (100 : Int) < (n : Int) := by omega
    clear hn
    go_enter Tryd.func11, Tryd.ntmps11
    go_wp2_with fail
    go_ret
    exact ⟨false, rfl, fun h => (by cases h), Kp.refl _⟩

theorem len3 {α : Type} : ∀ l : List α, l.length = 3 → ∃ a b c, l = [a, b, c]
  | [a, b, c], _ => ⟨a, b, c, rfl⟩
section
variable {H : Type} {enc : TypeId × Value → H} {w : World} {base : Nat} {held : Bool}
theorem srv_cells {fuel : Nat} {cs : List Value} {y : DataW H × List MemPlace} (h : DataW.trod enc Tryd.prog w base (fun _ => true) held fuel 27 cs = some y) (hcl : cs.length = 3) :
    ∃ s : Srv, cs = [.string s.pr, .string s.ad, .int .i64 s.po] ∧ s.pr.size ≤ maxLen ∧ s.ad.size ≤ maxLen := by
  obtain ⟨ys, n', hn', hy, hlen, hyl, hf⟩ := DataW.trod_struct Tryd.underlying27 h
  have c9 : Tryd.prog.cellsOf 9 = 1 := by kernel_rfl
  have c3 : Tryd.prog.cellsOf 3 = 1 := by kernel_rfl
  obtain ⟨a, b, c, rfl⟩ := len3 cs hcl
  have hyl' : ys.length = 3 := hyl
  clear hyl
  obtain ⟨y0, y1, y2, rfl⟩ := len3 ys hyl'
  have t0 : DataW.trod enc Tryd.prog w base (fun _ => true) held n' 9 (List.take (Tryd.prog.cellsOf 9) [a, b, c]) = some y0 := hf 0 _ rfl
  have t1 : DataW.trod enc Tryd.prog w base (fun _ => true) held n' 9 (List.take (Tryd.prog.cellsOf 9) [b, c]) = some y1 := hf 1 _ rfl
  have t2 : DataW.trod enc Tryd.prog w base (fun _ => true) held n' 3 (List.take (Tryd.prog.cellsOf 3) [c]) = some y2 := hf 2 _ rfl
  rw [c9] at t0 t1
  rw [c3] at t2
  obtain ⟨s0, h0, _, z0⟩ := DataW.trod_string Tryd.underlying9 (show DataW.trod enc Tryd.prog w base (fun _ => true) held n' 9 [a] = some y0 from t0)
  obtain ⟨s1, h1, _, z1⟩ := DataW.trod_string Tryd.underlying9 (show DataW.trod enc Tryd.prog w base (fun _ => true) held n' 9 [b] = some y1 from t1)
  obtain ⟨k, h2, _, _⟩ := DataW.trod_int Tryd.underlying3 (show DataW.trod enc Tryd.prog w base (fun _ => true) held n' 3 [c] = some y2 from t2)
  obtain rfl : a = .string s0 := by simpa using h0
  obtain rfl : b = .string s1 := by simpa using h1
  obtain rfl : c = .int .i64 k := by simpa using h2
  exact ⟨⟨s0, s1, k⟩, rfl, z0, z1⟩
theorem srvIn_open {fuel : Nat} {p : Option Addr} {n c : Nat} {x : DataW H × List MemPlace} (h : DataW.trod enc Tryd.prog w base (fun _ => true) held fuel 22 [.slice p n c] = some x) :
    ∃ R, SrvIn w p n R ∧ n ≤ c ∧ c ≤ maxLen := by
  rcases open_slice Tryd.underlying22 h with ⟨hcs, _⟩ | ⟨a, len, cap, m, nn, D, Pl, hcs, hb, hl, hm, hmm, hx, hi⟩
  · cases hcs
    exact ⟨fun _ => zS, ⟨fun r hr => absurd hr (by omega), fun r hr => absurd hr (by omega)⟩, Nat.le_refl _, Nat.zero_le _⟩
  · cases hcs
    have hmc : m = c := by simpa using hmm
    subst hmc
    obtain ⟨b, o, s⟩ := a
    have hC : Tryd.prog.cellsOf 27 = 3 := by kernel_rfl
    simp only [hC] at hi
    have key : ∀ r, ∃ s' : Srv, r < n → (s = none ∧ w.cell? ⟨b, o + r * 3, none⟩ = some (.string s'.pr) ∧ w.cell? ⟨b, o + r * 3 + 1, none⟩ = some (.string s'.ad) ∧ w.cell? ⟨b, o + r * 3 + 2, none⟩ = some (.int .i64 s'.po) ∧ s'.pr.size ≤ maxLen ∧ s'.ad.size ≤ maxLen) := fun r => by
      by_cases hr : r < n
      · have hm0 : 0 < m := by omega
        obtain ⟨cs', hc, ht'⟩ := hi r (by omega)
        obtain ⟨_, hcl, hat⟩ := World.cells?_some hc
        obtain ⟨s', hs', z0, z1⟩ := srv_cells ht' hcl
        subst hs'
        obtain rfl : s = none := by
          obtain ⟨cz, hcz, _⟩ := hi 0 hm0
          obtain ⟨_, hl0, hat0⟩ := World.cells?_some hcz
          have h0 := hat0 0 (by decide)
          rw [List.getElem?_eq_getElem (by rw [hl0]; decide)] at h0
          simpa [Addr.add] using World.cell?_spot h0
        have cc : ∀ j u, j < 3 → [Value.string s'.pr, .string s'.ad, .int .i64 s'.po][j]? = some u → w.cell? ⟨b, o + r * 3 + j, none⟩ = some u := fun j u hj hu => by
          have h0 := hat j hj
          rw [Go.WideShapes.add_plain, Go.WideShapes.add_plain, hu] at h0
          exact h0
        exact ⟨s', fun _ => ⟨rfl, cc 0 _ (by decide) rfl, cc 1 _ (by decide) rfl, cc 2 _ (by decide) rfl, z0, z1⟩⟩
      · exact ⟨zS, fun h => absurd h hr⟩
    exact ⟨fun r => Classical.choose (key r), ⟨fun r hr => by
      obtain ⟨rfl, h1, h2, h3, h4⟩ := Classical.choose_spec (key r) hr
      exact ⟨b, o, rfl, h1, h2, h3⟩, fun r hr => by
      obtain ⟨_, h1, h2, h3, h4⟩ := Classical.choose_spec (key r) hr
      exact h4⟩, hl, hm⟩
end
end Go.Proofs.YtmojecgmneodlaaDoor
