/-
  FnNetworkApart returns true for every input that its row lets in, and leaves its arguments as they were. Conditions: none beyond the row's own.
-/
import Derived.Test.YtmojecgmneodlaaDoorRows
import Derived.Test.YtmojecgmneodlaaDoorCards
import Derived.Test.YtmojecgmneodlaaDoorTie
import Derived.LaidMore
import Derived.Stop.Joined
import Derived.SevenTiedAt
import Derived.Lay
import Derived.MakeChecks
import Derived.MakeChecks
import Derived.Stop.LaidErr
import Derived.WalkKit
import Derived.ProofKit
import Derived.OpenShut
import Derived.ShutString
import Derived.ChangeOld
import Derived.Below
import Derived.Test.YtmojecgmneodlaaDoorFnNet2
namespace Go.Proofs.YtmojecgmneodlaaDoor.fnNetworkApart
open Go.ChangeShapes Go.WideShapes Go.ChangeAt Go.RowKit
open Go.ChangeMaps (open_string shut_string)
set_option linter.unusedVariables false

theorem own : ownKnob Tryd.prog.godebug = none := by kernel_rfl
theorem laidOut : laidOutB Tryd.prog = true := by kernel_rfl
theorem wf_byte {x : Int} (h : (Lit.int .u8 x).wf = true) : 0 ≤ x ∧ x ≤ 255 := by
  have h1 : IntKind.u8.min = 0 := rfl
  have h2 : IntKind.u8.max = 255 := rfl
  simp [Lit.wf, h1, h2] at h
  omega

theorem tab_of {W : World} (hL : laidMetH Tryd.prog Rows.fnNetworkApartRow.laid W) : Tab W := by
  rw [Go.MakeChecks.laidMetH_plain _ _ _ (by kernel_rfl)] at hL
  exact Lib.tabIs_of_head (g := 6) (t := 155) (e := 90) (n := 20) (by kernel_rfl) (by kernel_rfl) Tryd.underlying155 Tryd.underlying90 (by kernel_rfl) (by kernel_rfl) (show laidMet Tryd.prog (("internal/strconv.uint64pow10", Lib.tabData .u64 Lib.pow10Tab) :: _) W from hL.tail.tail)

theorem walk (pr0 ad0 : ByteArray) (po0 : Int) (pr1 ad1 : ByteArray) (po1 : Int) (w : World) (ht : Tab w) (hq0 : pr0.size ≤ maxLen) (ha0 : ad0.size ≤ maxLen) (hl0 : -9223372036854775808 ≤ po0) (hh0 : po0 ≤ 9223372036854775807) (hq1 : pr1.size ≤ maxLen) (ha1 : ad1.size ≤ maxLen) (hl1 : -9223372036854775808 ≤ po1) (hh1 : po1 ≤ 9223372036854775807) :
    Calls Tryd.prog 5 #[.agg #[.string pr0, .string ad0, .int .i64 po0], .agg #[.string pr1, .string ad1, .int .i64 po1]] w fun e w' => e = .returned (.bool true) ∧ Below w.heap.size w w' := by
  exact fnNet_any pr0 ad0 pr1 ad1 po0 po1 w hq0 ha0 hq1 ha1 hl0 hh0 hl1 hh1 ht

set_option maxRecDepth 100000 in
theorem lifted (os : Os) (started : os.Started) (H : Type) (enc : TypeId × Value → H) :
    ReturnsInHanded {} Tryd.checked os 5 .any (fun w args => (Rows.fnNetworkApartSpec.pre enc Tryd.prog Tryd.f5 [] false w args ∧ laidMetH Tryd.prog Rows.fnNetworkApartRow.laid w) ∧ sizedMet enc Tryd.prog Tryd.f5 (OpenSpec.ofChange Rows.fnNetworkApartSpec) false w args)
      (Rows.fnNetworkApartSpec.post enc Tryd.prog Tryd.f5 false true false false) := by
  refine returnsInHanded_of_change_and (C := Tryd.checked) (X := fun w _ => laidMetH Tryd.prog Rows.fnNetworkApartRow.laid w) (fun _ _ _ hh h => h.of_heap hh) own started (by kernel_rfl) Tryd.func5
    (ChangeSpec.witness_shaped (enc := enc) (C := Tryd.checked) (os := os) (X := fun w _ => laidMetH Tryd.prog Rows.fnNetworkApartRow.laid w) false (World.laidAll Tryd.prog os Rows.fnNetworkApartRow.laid) #[.agg #[.string ByteArray.empty, .string ByteArray.empty, .int .i64 0], .agg #[.string ByteArray.empty, .string ByteArray.empty, .int .i64 0]] 8 (World.laidAll_os _ _ _) (World.shaped_of_ZipB (by kernel_rfl) (by kernel_rfl)) (by kernel_rfl) (by kernel_rfl) (by kernel_rfl) (by rw [Go.MakeChecks.laidMetH_plain _ _ _ (by kernel_rfl)]; exact laidMet_laidAll _ (by kernel_rfl) (by kernel_rfl))) ?_
  intro W base args ds gs before hval0 hW _ _ hL _
  have hval : ∀ (j : Nat) t v, Tryd.f5.params[j]? = some t → args[j]? = some v → Value.okWide Tryd.prog W .any base t v := hval0
  have hW' := hW
  obtain ⟨p, q, hA0, hV, rfl, hfz, hnd⟩ := hW
  have hA : DataW.TrodAll enc Tryd.prog W 0 (fun _ => true) true Tryd.f5.params.toList args.toList ds p := hA0
  rw [Tryd.params5] at hA hval
  obtain ⟨v0, vs0, d0, ds0, p0, q0, hargs, rfl, rfl, h0, r0⟩ := trodAll_cons hA
  obtain ⟨v1, vs1, d1, ds1, p1, q1, rfl, rfl, rfl, h1, r1⟩ := trodAll_cons r0
  obtain ⟨rfl, rfl, rfl⟩ := trodAll_nil r1
  obtain rfl : args = #[v0, v1] := by cases args; simp_all
  obtain ⟨rfl, rfl⟩ := trodVars_none hV
  have k0 := h0
  have lt0 : ∀ x ∈ p0, x.block < W.heap.size := by obtain ⟨m, hm⟩ := k0; exact DataW.trod_lt m _ _ _ hm
  have k1 := h1
  have lt1 : ∀ x ∈ p1, x.block < W.heap.size := by obtain ⟨m, hm⟩ := k1; exact DataW.trod_lt m _ _ _ hm
  obtain ⟨pr0, ad0, po0, rfl, hq0, ha0, hl0, hh0⟩ := server_open (hval 0 27 v0 rfl rfl) h0
  obtain ⟨pr1, ad1, po1, rfl, hq1, ha1, hl1, hh1⟩ := server_open (hval 1 27 v1 rfl rfl) h1
  clear hA0 hval0
  refine (walk pr0 ad0 po0 pr1 ad1 po1 W (tab_of hL) hq0 ha0 hl0 hh0 hq1 ha1 hl1 hh1).mono fun e W' ⟨he, bel⟩ => ?_
  subst he
  exact ⟨_, rfl, _, _, _, [], _, [], hW', trodAll_mk1 (shut_bool Tryd.underlying4 _), (trodAll_cons_mk (Below.trod laidOut (by kernel_rfl) (of_decide_eq_true (by kernel_rfl)) k0 bel lt0) (trodAll_cons_mk (Below.trod laidOut (by kernel_rfl) (of_decide_eq_true (by kernel_rfl)) k1 bel lt1) trodAll_mk0)), rfl, bel.frame _, fun h => by cases h⟩

theorem over : Rows.fnNetworkApartRow.holds Tryd.pinned (OpenSpec.ofChange Rows.fnNetworkApartSpec) :=
  OpenClaim.holds_of_wide 5 Tryd.f5 rfl rfl rfl rfl rfl rfl rfl ⟨rfl, rfl, rfl, rfl, rfl⟩ rfl rfl rfl rfl rfl (by kernel_rfl) Tryd.func5 (by kernel_rfl)
    (of_decide_eq_true (by kernel_rfl)) (by unfold Func.isWrapper; first | (rw [if_pos (by decide +kernel)]; kernel_rfl) | (rw [if_neg (by decide +kernel)]; exact ⟨rfl, rfl⟩))
    (fun os started H enc _ => lifted os started H enc)

/-- The statement: the card. -/
theorem proved : Rows.FnNetworkApartCardSaid :=
  Claim7.holds_tied_plain_at .later [] [.data, .data, .data, .data, .pinned, .pinned] true (true, "1fb1965208499ba26c4d34d305cb94683f2a7124cd815b4026d952a95bad362a") true
    over (fun _ h => by cases h) (by kernel_rfl) (fun _ h => by cases h) fnNetworkApart_row_tie rfl ⟨rfl, rfl⟩ (by kernel_rfl) rfl
    (fun f fn hf hfn => by
      obtain rfl : f = 5 := Option.some.inj ((show Tryd.prog.funcNamed "pub-dodona/laws.FnNetworkApart" = some 5 by kernel_rfl).symm.trans hf) |>.symm
      obtain rfl : fn = Tryd.f5 := (Option.some.inj (Tryd.func5.symm.trans hfn)).symm
      exact ⟨by kernel_rfl, fun j t ht => by
        rw [Tryd.params5] at ht
        have hm : t ∈ [27, 27] := by simpa using Array.mem_of_getElem? ht
        have hall : ([27, 27].all fun u => !Tryd.prog.wantsStandIn u) = true := by kernel_rfl
        exact (show Tryd.prog.wantsStandIn t = false by simpa using List.all_eq_true.1 hall t hm)⟩)
    (by kernel_rfl)
#print axioms proved
end Go.Proofs.YtmojecgmneodlaaDoor.fnNetworkApart
