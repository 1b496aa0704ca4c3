/-
  FnServerChain returns true for every input that its row lets in, and leaves its arguments as they were. Conditions: none beyond the row's own.
-/
import Derived.Test.YtmojecgmneodlaaDoorRows
import Derived.Test.YtmojecgmneodlaaDoorCards
import Derived.Test.YtmojecgmneodlaaDoorTie
import Derived.LaidMore
import Derived.Stop.Joined
import Derived.SevenTiedAt
import Derived.Lay
import Derived.MakeChecks
import Derived.WalkKit
import Derived.ProofKit
import Derived.OpenShut
import Derived.ShutString
import Derived.ChangeOld
import Derived.Below
import Derived.Test.YtmojecgmneodlaaDoorFnChain
namespace Go.Proofs.YtmojecgmneodlaaDoor.fnServerChain
open Go.ChangeShapes Go.WideShapes Go.ChangeAt Go.RowKit
open Go.ChangeMaps (open_string shut_string)
set_option linter.unusedVariables false

theorem own : ownKnob Tryd.prog.godebug = none := by kernel_rfl
theorem laidOut : laidOutB Tryd.prog = true := by kernel_rfl
theorem wf_byte {x : Int} (h : (Lit.int .u8 x).wf = true) : 0 ≤ x ∧ x ≤ 255 := by
  have h1 : IntKind.u8.min = 0 := rfl
  have h2 : IntKind.u8.max = 255 := rfl
  simp [Lit.wf, h1, h2] at h
  omega

theorem walk (pr0 ad0 : ByteArray) (po0 : Int) (pr1 ad1 : ByteArray) (po1 : Int) (pr2 ad2 : ByteArray) (po2 : Int) (s3 : ByteArray) (w : World) (hq0 : pr0.size ≤ maxLen) (ha0 : ad0.size ≤ maxLen) (hl0 : -9223372036854775808 ≤ po0) (hh0 : po0 ≤ 9223372036854775807) (hq1 : pr1.size ≤ maxLen) (ha1 : ad1.size ≤ maxLen) (hl1 : -9223372036854775808 ≤ po1) (hh1 : po1 ≤ 9223372036854775807) (hq2 : pr2.size ≤ maxLen) (ha2 : ad2.size ≤ maxLen) (hl2 : -9223372036854775808 ≤ po2) (hh2 : po2 ≤ 9223372036854775807) (hs3 : s3.size ≤ maxLen) :
    Calls Tryd.prog 6 #[.agg #[.string pr0, .string ad0, .int .i64 po0], .agg #[.string pr1, .string ad1, .int .i64 po1], .agg #[.string pr2, .string ad2, .int .i64 po2], .string s3] w fun e w' => e = .returned (.bool true) ∧ Below w.heap.size w w' := by
  exact fnChain_any pr0 ad0 pr1 ad1 pr2 ad2 s3 po0 po1 po2 w hq0 ha0 hq1 ha1 hq2 ha2 hs3

set_option maxRecDepth 100000 in
theorem lifted (os : Os) (started : os.Started) (H : Type) (enc : TypeId × Value → H) :
    ReturnsInHanded {} Tryd.checked os 6 .any (fun w args => (Rows.fnServerChainSpec.pre enc Tryd.prog Tryd.f6 [] false w args ∧ laidMetH Tryd.prog Rows.fnServerChainRow.laid w) ∧ sizedMet enc Tryd.prog Tryd.f6 (OpenSpec.ofChange Rows.fnServerChainSpec) false w args)
      (Rows.fnServerChainSpec.post enc Tryd.prog Tryd.f6 false true false false) := by
  refine returnsInHanded_of_change_and (C := Tryd.checked) (X := fun w _ => laidMetH Tryd.prog Rows.fnServerChainRow.laid w) (fun _ _ _ hh h => h.of_heap hh) own started (by kernel_rfl) Tryd.func6
    (ChangeSpec.witness_shaped (enc := enc) (C := Tryd.checked) (os := os) (X := fun w _ => laidMetH Tryd.prog Rows.fnServerChainRow.laid w) false (World.laidAll Tryd.prog os Rows.fnServerChainRow.laid) #[.agg #[.string ByteArray.empty, .string ByteArray.empty, .int .i64 0], .agg #[.string ByteArray.empty, .string ByteArray.empty, .int .i64 0], .agg #[.string ByteArray.empty, .string ByteArray.empty, .int .i64 0], .string ByteArray.empty] 8 (World.laidAll_os _ _ _) (World.shaped_of_ZipB (by kernel_rfl) (by kernel_rfl)) (by kernel_rfl) (by kernel_rfl) (by kernel_rfl) (by rw [Go.MakeChecks.laidMetH_plain _ _ _ (by kernel_rfl)]; exact laidMet_laidAll _ (by kernel_rfl) (by kernel_rfl))) ?_
  intro W base args ds gs before hval0 hW _ _ hL _
  have hval : ∀ (j : Nat) t v, Tryd.f6.params[j]? = some t → args[j]? = some v → Value.okWide Tryd.prog W .any base t v := hval0
  have hW' := hW
  obtain ⟨p, q, hA0, hV, rfl, hfz, hnd⟩ := hW
  have hA : DataW.TrodAll enc Tryd.prog W 0 (fun _ => true) true Tryd.f6.params.toList args.toList ds p := hA0
  rw [Tryd.params6] at hA hval
  obtain ⟨v0, vs0, d0, ds0, p0, q0, hargs, rfl, rfl, h0, r0⟩ := trodAll_cons hA
  obtain ⟨v1, vs1, d1, ds1, p1, q1, rfl, rfl, rfl, h1, r1⟩ := trodAll_cons r0
  obtain ⟨v2, vs2, d2, ds2, p2, q2, rfl, rfl, rfl, h2, r2⟩ := trodAll_cons r1
  obtain ⟨v3, vs3, d3, ds3, p3, q3, rfl, rfl, rfl, h3, r3⟩ := trodAll_cons r2
  obtain ⟨rfl, rfl, rfl⟩ := trodAll_nil r3
  obtain rfl : args = #[v0, v1, v2, v3] := by cases args; simp_all
  obtain ⟨rfl, rfl⟩ := trodVars_none hV
  have k0 := h0
  have lt0 : ∀ x ∈ p0, x.block < W.heap.size := by obtain ⟨m, hm⟩ := k0; exact DataW.trod_lt m _ _ _ hm
  have k1 := h1
  have lt1 : ∀ x ∈ p1, x.block < W.heap.size := by obtain ⟨m, hm⟩ := k1; exact DataW.trod_lt m _ _ _ hm
  have k2 := h2
  have lt2 : ∀ x ∈ p2, x.block < W.heap.size := by obtain ⟨m, hm⟩ := k2; exact DataW.trod_lt m _ _ _ hm
  have k3 := h3
  have lt3 : ∀ x ∈ p3, x.block < W.heap.size := by obtain ⟨m, hm⟩ := k3; exact DataW.trod_lt m _ _ _ hm
  obtain ⟨pr0, ad0, po0, rfl, hq0, ha0, hl0, hh0⟩ := server_open (hval 0 27 v0 rfl rfl) h0
  obtain ⟨pr1, ad1, po1, rfl, hq1, ha1, hl1, hh1⟩ := server_open (hval 1 27 v1 rfl rfl) h1
  obtain ⟨pr2, ad2, po2, rfl, hq2, ha2, hl2, hh2⟩ := server_open (hval 2 27 v2 rfl rfl) h2
  obtain ⟨s3, rfl, _, _, hs3⟩ := open_string Tryd.underlying9 (hval 3 9 v3 rfl rfl) h3
  clear hA0 hval0
  refine (walk pr0 ad0 po0 pr1 ad1 po1 pr2 ad2 po2 s3 W hq0 ha0 hl0 hh0 hq1 ha1 hl1 hh1 hq2 ha2 hl2 hh2 hs3).mono fun e W' ⟨he, bel⟩ => ?_
  subst he
  exact ⟨_, rfl, _, _, _, [], _, [], hW', trodAll_mk1 (shut_bool Tryd.underlying4 _), (trodAll_cons_mk (Below.trod laidOut (by kernel_rfl) (of_decide_eq_true (by kernel_rfl)) k0 bel lt0) (trodAll_cons_mk (Below.trod laidOut (by kernel_rfl) (of_decide_eq_true (by kernel_rfl)) k1 bel lt1) (trodAll_cons_mk (Below.trod laidOut (by kernel_rfl) (of_decide_eq_true (by kernel_rfl)) k2 bel lt2) (trodAll_cons_mk (Below.trod laidOut (by kernel_rfl) (of_decide_eq_true (by kernel_rfl)) k3 bel lt3) trodAll_mk0)))), rfl, bel.frame _, fun h => by cases h⟩

theorem over : Rows.fnServerChainRow.holds Tryd.pinned (OpenSpec.ofChange Rows.fnServerChainSpec) :=
  OpenClaim.holds_of_wide 6 Tryd.f6 rfl rfl rfl rfl rfl rfl rfl ⟨rfl, rfl, rfl, rfl, rfl⟩ rfl rfl rfl rfl rfl (by kernel_rfl) Tryd.func6 (by kernel_rfl)
    (of_decide_eq_true (by kernel_rfl)) (by unfold Func.isWrapper; first | (rw [if_pos (by decide +kernel)]; kernel_rfl) | (rw [if_neg (by decide +kernel)]; exact ⟨rfl, rfl⟩))
    (fun os started H enc _ => lifted os started H enc)

/-- The statement: the card. -/
theorem proved : Rows.FnServerChainCardSaid :=
  Claim7.holds_tied_plain_at .later [] [.data, .data, .data, .data, .data, .data, .pinned, .pinned] true (true, "1fb1965208499ba26c4d34d305cb94683f2a7124cd815b4026d952a95bad362a") true
    over (fun _ h => by cases h) (by kernel_rfl) (fun _ h => by cases h) fnServerChain_row_tie rfl ⟨rfl, rfl⟩ (by kernel_rfl) rfl
    (fun f fn hf hfn => by
      obtain rfl : f = 6 := Option.some.inj ((show Tryd.prog.funcNamed "pub-dodona/laws.FnServerChain" = some 6 by kernel_rfl).symm.trans hf) |>.symm
      obtain rfl : fn = Tryd.f6 := (Option.some.inj (Tryd.func6.symm.trans hfn)).symm
      exact ⟨by kernel_rfl, fun j t ht => by
        rw [Tryd.params6] at ht
        have hm : t ∈ [27, 27, 27, 9] := by simpa using Array.mem_of_getElem? ht
        have hall : ([27, 27, 27, 9].all fun u => !Tryd.prog.wantsStandIn u) = true := by kernel_rfl
        exact (show Tryd.prog.wantsStandIn t = false by simpa using List.all_eq_true.1 hall t hm)⟩)
    (by kernel_rfl)
#print axioms proved
end Go.Proofs.YtmojecgmneodlaaDoor.fnServerChain
