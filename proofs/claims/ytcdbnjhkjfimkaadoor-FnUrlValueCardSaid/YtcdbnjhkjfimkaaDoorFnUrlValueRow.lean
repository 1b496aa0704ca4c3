/-
  FnUrlValue returns true for every input that its row lets in, and leaves its arguments as they were. Conditions: none beyond the row's own.
-/
import Derived.Test.YtcdbnjhkjfimkaaDoorRows
import Derived.Test.YtcdbnjhkjfimkaaDoorCards
import Derived.Test.YtcdbnjhkjfimkaaDoorTie
import Derived.LaidMore
import Derived.Stop.Joined
import Derived.SevenTiedAt
import Derived.Lay
import Derived.MakeChecks
import Derived.MakeChecks
import Derived.Stop.LaidErr
import Derived.WalkKit
import Derived.ProofKit
import Derived.OpenShut
import Derived.ShutString
import Derived.ChangeOld
import Derived.Below
import Derived.Test.YtcdbnjhkjfimkaaDoorOpenU
namespace Go.Proofs.YtcdbnjhkjfimkaaDoor.fnUrlValue
open Go.ChangeShapes Go.WideShapes Go.ChangeAt Go.RowKit
open Go.ChangeMaps (open_string shut_string)
set_option linter.unusedVariables false

theorem own : ownKnob Tryd.prog.godebug = none := by kernel_rfl
theorem laidOut : laidOutB Tryd.prog = true := by kernel_rfl
theorem wf_byte {x : Int} (h : (Lit.int .u8 x).wf = true) : 0 ≤ x ∧ x ≤ 255 := by
  have h1 : IntKind.u8.min = 0 := rfl
  have h2 : IntKind.u8.max = 255 := rfl
  simp [Lit.wf, h1, h2] at h
  omega

set_option maxRecDepth 100000 in
theorem utab_of {W : World} (hL : laidMetH Tryd.prog Rows.fnUrlValueRow.laid W) : UTab W := by
  rw [Go.MakeChecks.laidMetH_plain _ _ _ (by kernel_rfl)] at hL
  exact Lib.tabIs_of_head (g := 10) (t := 268) (e := 211) (n := 256) (by kernel_rfl) (by kernel_rfl) Tryd.underlying268 Tryd.underlying211 (by kernel_rfl) (by kernel_rfl) (show laidMet Tryd.prog (("net/url.table", Lib.tabData .u8 urlTab) :: _) W from hL.tail.tail.tail.tail.tail.tail.tail.tail)
set_option maxRecDepth 100000 in
theorem sp_of {W : World} (hL : laidMetH Tryd.prog Rows.fnUrlValueRow.laid W) : spTab W := by
  rw [Go.MakeChecks.laidMetH_plain _ _ _ (by kernel_rfl)] at hL
  exact Lib.tabIs_of_head (g := 2) (t := 215) (e := 5) (n := 256) (by kernel_rfl) (by kernel_rfl) Tryd.underlying215 Tryd.underlying5 (by kernel_rfl) (by kernel_rfl) (show laidMet Tryd.prog (("strings.asciiSpace", Lib.tabData .u8 Lib.asciiSpaceTab) :: _) W from hL.tail.tail.tail.tail.tail.tail.tail)
theorem walk (na0 va0 : ByteArray) (w : World) (hu : UTab w) (hsp : spTab w) (hn0 : na0.size ≤ maxLen) (hv0 : va0.size ≤ maxLen) :
    Calls Tryd.prog 10 #[.agg #[.string na0, .string va0]] w fun e w' => e = .returned (.bool true) ∧ Below w.heap.size w w' := by
  exact fnUrlValue_any na0 va0 w hu hsp hn0 hv0

set_option maxRecDepth 100000 in
theorem lifted (os : Os) (started : os.Started) (H : Type) (enc : TypeId × Value → H) :
    ReturnsInHanded {} Tryd.checked os 10 .any (fun w args => (Rows.fnUrlValueSpec.pre enc Tryd.prog Tryd.f10 [] false w args ∧ laidMetH Tryd.prog Rows.fnUrlValueRow.laid w) ∧ sizedMet enc Tryd.prog Tryd.f10 (OpenSpec.ofChange Rows.fnUrlValueSpec) false w args)
      (Rows.fnUrlValueSpec.post enc Tryd.prog Tryd.f10 false true false false) := by
  refine returnsInHanded_of_change_and (C := Tryd.checked) (X := fun w _ => laidMetH Tryd.prog Rows.fnUrlValueRow.laid w) (fun _ _ _ hh h => h.of_heap hh) own started (by kernel_rfl) Tryd.func10
    (ChangeSpec.witness_shaped (enc := enc) (C := Tryd.checked) (os := os) (X := fun w _ => laidMetH Tryd.prog Rows.fnUrlValueRow.laid w) false (World.laidAll Tryd.prog os Rows.fnUrlValueRow.laid) #[.agg #[.string ByteArray.empty, .string ByteArray.empty]] 8 (World.laidAll_os _ _ _) (World.shaped_of_ZipB (by kernel_rfl) (by kernel_rfl)) (by kernel_rfl) (by kernel_rfl) (by kernel_rfl) (by rw [Go.MakeChecks.laidMetH_plain _ _ _ (by kernel_rfl)]; exact laidMet_laidAll _ (by kernel_rfl) (by kernel_rfl))) ?_
  intro W base args ds gs before hval0 hW _ _ hL _
  have hval : ∀ (j : Nat) t v, Tryd.f10.params[j]? = some t → args[j]? = some v → Value.okWide Tryd.prog W .any base t v := hval0
  have hW' := hW
  obtain ⟨p, q, hA0, hV, rfl, hfz, hnd⟩ := hW
  have hA : DataW.TrodAll enc Tryd.prog W 0 (fun _ => true) true Tryd.f10.params.toList args.toList ds p := hA0
  rw [Tryd.params10] at hA hval
  obtain ⟨v0, vs0, d0, ds0, p0, q0, hargs, rfl, rfl, h0, r0⟩ := trodAll_cons hA
  obtain ⟨rfl, rfl, rfl⟩ := trodAll_nil r0
  obtain rfl : args = #[v0] := by cases args; simp_all
  obtain ⟨rfl, rfl⟩ := trodVars_none hV
  have k0 := h0
  have lt0 : ∀ x ∈ p0, x.block < W.heap.size := by obtain ⟨m, hm⟩ := k0; exact DataW.trod_lt m _ _ _ hm
  obtain ⟨na0, va0, rfl, hn0, hv0⟩ := option_open (hval 0 80 v0 rfl rfl) h0
  clear hA0 hval0
  refine (walk na0 va0 W (utab_of hL) (sp_of hL) hn0 hv0).mono fun e W' ⟨he, bel⟩ => ?_
  subst he
  exact ⟨_, rfl, _, _, _, [], _, [], hW', trodAll_mk1 (shut_bool Tryd.underlying4 _), (trodAll_cons_mk (Below.trod laidOut (by kernel_rfl) (of_decide_eq_true (by kernel_rfl)) k0 bel lt0) trodAll_mk0), rfl, bel.frame _, fun h => by cases h⟩

theorem over : Rows.fnUrlValueRow.holds Tryd.pinned (OpenSpec.ofChange Rows.fnUrlValueSpec) :=
  OpenClaim.holds_of_wide 10 Tryd.f10 rfl rfl rfl rfl rfl rfl rfl ⟨rfl, rfl, rfl, rfl, rfl⟩ rfl rfl rfl rfl rfl (by kernel_rfl) Tryd.func10 (by kernel_rfl)
    (of_decide_eq_true (by kernel_rfl)) (by unfold Func.isWrapper; first | (rw [if_pos (by decide +kernel)]; kernel_rfl) | (rw [if_neg (by decide +kernel)]; exact ⟨rfl, rfl⟩))
    (fun os started H enc _ => lifted os started H enc)

/-- The statement: the card. -/
theorem proved : Rows.FnUrlValueCardSaid :=
  Claim7.holds_tied_plain_at .later [] [.data, .data, .data, .data, .sentinel, .sentinel, .listed, .data, .data, .pinned, .pinned] true (true, "d3a94b98fb968e0a7ee3784f241dbd1d9cdaec85715697f2ec9450e8b10dcf03") true
    over (fun _ h => by cases h) (by kernel_rfl) (fun _ h => by cases h) fnUrlValue_row_tie rfl ⟨rfl, rfl⟩ (by kernel_rfl) rfl
    (fun f fn hf hfn => by
      obtain rfl : f = 10 := Option.some.inj ((show Tryd.prog.funcNamed "pub-dodona/laws.FnUrlValue" = some 10 by kernel_rfl).symm.trans hf) |>.symm
      obtain rfl : fn = Tryd.f10 := (Option.some.inj (Tryd.func10.symm.trans hfn)).symm
      exact ⟨by kernel_rfl, fun j t ht => by
        rw [Tryd.params10] at ht
        have hm : t ∈ [80] := by simpa using Array.mem_of_getElem? ht
        have hall : ([80].all fun u => !Tryd.prog.wantsStandIn u) = true := by kernel_rfl
        exact (show Tryd.prog.wantsStandIn t = false by simpa using List.all_eq_true.1 hall t hm)⟩)
    (by kernel_rfl)
#print axioms proved
end Go.Proofs.YtcdbnjhkjfimkaaDoor.fnUrlValue
