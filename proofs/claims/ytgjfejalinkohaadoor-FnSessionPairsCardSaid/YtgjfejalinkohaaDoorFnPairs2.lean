/-
  FnSessionPairs: for every input.
-/
import Derived.Test.YtgjfejalinkohaaDoorFnPairs
namespace Go.Proofs.YtgjfejalinkohaaDoor
open Go Go.RowKit

set_option maxRecDepth 100000 in
set_option maxHeartbeats 8000000 in
theorem fnSessionPairs_any (aK aV q : Option Addr) (nK nV nf cK cV cf : Nat) (AK AV : Nat → Option Addr) (LK LV CK CV : Nat → Nat) (XK XV : Nat → List Int) (fs : List Int) (big : Bool) (w : World) (hrK : RowsIn w aK nK AK LK CK XK) (hmK : nK ≤ maxLen) (hrV : RowsIn w aV nV AV LV CV XV) (hmV : nV ≤ maxLen) (hf : Lib.BytesIn w q nf fs) (hlf : fs.length = nf) (hbf : ∀ x ∈ fs, 0 ≤ x ∧ x < 256) (hmf : nf ≤ maxLen) :
    Calls Tryd.prog 3 #[.slice aK nK cK, .slice aV nV cV, .slice q nf cf, .bool big] w fun e w' => e = .returned (.bool true) ∧ Below w.heap.size w w' := by
  by_cases hK : nK ≤ 2147483647 ∧ ∀ r, r < nK → LK r ≤ 2147483647
  · have ZK := Lib.hid (zzFits9_yes aK nK cK AK LK CK XK w hrK hK.1 hK.2)
    have k0 : (0 : Int) ≤ (nK : Int) := by omega
    have k1 : (nK : Int) ≤ 2147483647 := by omega
    by_cases hV : nV ≤ 2147483647 ∧ ∀ r, r < nV → LV r ≤ 2147483647
    · have ZV := Lib.hid (zzFits9_yes aV nV cV AV LV CV XV w hrV hV.1 hV.2)
      have v0 : (0 : Int) ≤ (nV : Int) := by omega
      have v1 : (nV : Int) ≤ 2147483647 := by omega
      have f0 : (0 : Int) ≤ (nf : Int) := by omega
      by_cases hf1 : nf ≤ 2147483647
      · have f1 : (nf : Int) ≤ 2147483647 := by omega
        by_cases hn : nK ≤ 20
        · by_cases hnV : nV = nK
          · by_cases hnf : nf = nK
            · subst hnV hnf
              exact fnPairs_main aK aV q _ cK cV cf AK AV LK LV CK CV XK XV fs big w hrK hrV hf hlf hbf hn hK.2 hV.2
            · have k2 : (nK : Int) ≤ 20 := by omega
              subst hnV
              have e1 : (nf = nV) = False := by simp [hnf]
              have e3 : ((nf : Int) != (nV : Int)) = true := bne_iff_ne.2 (by omega)
              clear hrK hmK hrV hmV hf hlf hbf hmf hK hV hf1 hn hnf
              go_enter Tryd.func3, Tryd.ntmps3
              go_wp2_with fail
              refine ZK.out.mono ?_
              rintro e wx ⟨rfl, rfl⟩
              clear ZK
              go_wp2_with fail
              refine ZV.out.mono ?_
              rintro e wx ⟨rfl, rfl⟩
              clear ZV
              go_wp2_with fail
              refine (sessionLive_any _).mono ?_
              rintro e w5 ⟨rfl, hb5⟩
              have HB5 := Lib.hid hb5
              clear hb5
              go_wp2_with fail
              go_ret
              exact ⟨rfl, HB5.out⟩
          · have k2 : (nK : Int) ≤ 20 := by omega
            have e1 : (nV = nK) = False := by simp [hnV]
            have e2 : ((nV : Int) = (nK : Int)) = False := by simp; omega
            clear hrK hmK hrV hmV hf hlf hbf hmf hK hV hf1 hn hnV
            go_enter Tryd.func3, Tryd.ntmps3
            go_wp2_with fail
            refine ZK.out.mono ?_
            rintro e wx ⟨rfl, rfl⟩
            clear ZK
            go_wp2_with fail
            refine ZV.out.mono ?_
            rintro e wx ⟨rfl, rfl⟩
            clear ZV
            go_wp2_with fail
            refine (sessionLive_any _).mono ?_
            rintro e w5 ⟨rfl, hb5⟩
            have HB5 := Lib.hid hb5
            clear hb5
            go_wp2_with fail
            go_ret
            exact ⟨rfl, HB5.out⟩
        · have k2 : (20 : Int) < (nK : Int) := by omega
          clear hrK hmK hrV hmV hf hlf hbf hmf hK hV hf1 hn
          go_enter Tryd.func3, Tryd.ntmps3
          go_wp2_with fail
          refine ZK.out.mono ?_
          rintro e wx ⟨rfl, rfl⟩
          clear ZK
          go_wp2_with fail
          refine ZV.out.mono ?_
          rintro e wx ⟨rfl, rfl⟩
          clear ZV
          go_wp2_with fail
          refine (sessionLive_any _).mono ?_
          rintro e w5 ⟨rfl, hb5⟩
          have HB5 := Lib.hid hb5
          clear hb5
          go_wp2_with fail
          go_ret
          exact ⟨rfl, HB5.out⟩
      · have f1 : (2147483647 : Int) < (nf : Int) := by omega
        have f2 : (nf : Int) ≤ 9223372036854775807 := by unfold maxLen at hmf; omega
        clear hrK hmK hrV hmV hf hlf hbf hmf hK hV hf1
        go_enter Tryd.func3, Tryd.ntmps3
        go_wp2_with fail
        refine ZK.out.mono ?_
        rintro e wx ⟨rfl, rfl⟩
        clear ZK
        go_wp2_with fail
        refine ZV.out.mono ?_
        rintro e wx ⟨rfl, rfl⟩
        clear ZV
        go_wp2_with fail
        go_ret
        exact ⟨rfl, Below.refl _ _⟩
    · have ZV := Lib.hid (zzFits9_no aV nV cV AV LV CV XV w hrV hmV (by
        by_cases h : nV ≤ 2147483647
        · exact .inr (by
            apply Classical.byContradiction
            intro hc
            exact hV ⟨h, fun r hr => Classical.byContradiction fun hl => hc ⟨r, hr, by omega⟩⟩)
        · exact .inl (by omega)))
      clear hrK hmK hrV hmV hf hlf hbf hmf hK hV
      go_enter Tryd.func3, Tryd.ntmps3
      go_wp2_with fail
      refine ZK.out.mono ?_
      rintro e wx ⟨rfl, rfl⟩
      clear ZK
      go_wp2_with fail
      refine ZV.out.mono ?_
      rintro e wx ⟨rfl, rfl⟩
      clear ZV
      go_wp2_with fail
      go_ret
      exact ⟨rfl, Below.refl _ _⟩
  · have ZK := Lib.hid (zzFits9_no aK nK cK AK LK CK XK w hrK hmK (by
      by_cases h : nK ≤ 2147483647
      · exact .inr (by
          apply Classical.byContradiction
          intro hc
          exact hK ⟨h, fun r hr => Classical.byContradiction fun hl => hc ⟨r, hr, by omega⟩⟩)
      · exact .inl (by omega)))
    clear hrK hmK hrV hmV hf hlf hbf hmf hK
    go_enter Tryd.func3, Tryd.ntmps3
    go_wp2_with fail
    refine ZK.out.mono ?_
    rintro e wx ⟨rfl, rfl⟩
    clear ZK
    go_wp2_with fail
    go_ret
    exact ⟨rfl, Below.refl _ _⟩
end Go.Proofs.YtgjfejalinkohaaDoor
