/-
  FnSessionPairs returns true for every input that its row lets in, and leaves its arguments as they were. Conditions: none beyond the row's own.
-/
import Derived.Test.YtgjfejalinkohaaDoorRows
import Derived.Test.YtgjfejalinkohaaDoorCards
import Derived.Test.YtgjfejalinkohaaDoorTie
import Derived.LaidMore
import Derived.Stop.Joined
import Derived.SevenTiedAt
import Derived.WalkKit
import Derived.ProofKit
import Derived.OpenShut
import Derived.ShutString
import Derived.ChangeOld
import Derived.Below
import Derived.Test.YtgjfejalinkohaaDoorFnPairs2
namespace Go.Proofs.YtgjfejalinkohaaDoor.fnSessionPairs
open Go.ChangeShapes Go.WideShapes Go.ChangeAt Go.RowKit
open Go.ChangeMaps (open_string shut_string)
set_option linter.unusedVariables false

theorem own : ownKnob Tryd.prog.godebug = none := by kernel_rfl
theorem laidOut : laidOutB Tryd.prog = true := by kernel_rfl
theorem wf_byte {x : Int} (h : (Lit.int .u8 x).wf = true) : 0 ≤ x ∧ x ≤ 255 := by
  have h1 : IntKind.u8.min = 0 := rfl
  have h2 : IntKind.u8.max = 255 := rfl
  simp [Lit.wf, h1, h2] at h
  omega

theorem walk (a0 : Option Addr) (n0 c0 : Nat) (A0 : Nat → Option Addr) (L0 C0 : Nat → Nat) (X0 : Nat → List Int) (a1 : Option Addr) (n1 c1 : Nat) (A1 : Nat → Option Addr) (L1 C1 : Nat → Nat) (X1 : Nat → List Int) (a2 : Option Addr) (n2 c2 : Nat) (x2 : List Int) (b3 : Bool) (w : World) (hr0 : RowsIn w a0 n0 A0 L0 C0 X0) (hn0 : n0 ≤ c0) (hc0 : c0 ≤ maxLen) (hr1 : RowsIn w a1 n1 A1 L1 C1 X1) (hn1 : n1 ≤ c1) (hc1 : c1 ≤ maxLen) (hi2 : Lib.BytesIn w a2 n2 x2) (hx2 : x2.length = n2) (hr2 : ∀ x ∈ x2, 0 ≤ x ∧ x < 256) (hn2 : n2 ≤ c2) (hc2 : c2 ≤ maxLen) :
    Calls Tryd.prog 3 #[.slice a0 n0 c0, .slice a1 n1 c1, .slice a2 n2 c2, .bool b3] w fun e w' => e = .returned (.bool true) ∧ Below w.heap.size w w' := by
  exact fnSessionPairs_any a0 a1 a2 n0 n1 n2 c0 c1 c2 A0 A1 L0 L1 C0 C1 X0 X1 x2 b3 w hr0 (Nat.le_trans hn0 hc0) hr1 (Nat.le_trans hn1 hc1) hi2 hx2 hr2 (Nat.le_trans hn2 hc2)

/-- The door's own heap meets the condition. -/
theorem door_met (os : Os) (args : Array Value) : laidMetH Tryd.prog Rows.fnSessionPairsRow.laid ((World.doorLaid Tryd.prog 4000 os).forCall (fun _ _ => 0) ⟨#[], args, []⟩).memory :=
  laidMetH_of_parts3 (fuel := 8) (laidMet_of_run' 8 (by kernel_rfl) (by kernel_rfl)) (by kernel_rfl) (by kernel_rfl)

set_option maxRecDepth 100000 in
theorem lifted (os : Os) (started : os.Started) (H : Type) (enc : TypeId × Value → H) :
    ReturnsInHanded {} Tryd.checked os 3 .any (fun w args => (Rows.fnSessionPairsSpec.pre enc Tryd.prog Tryd.f3 [] false w args ∧ laidMetH Tryd.prog Rows.fnSessionPairsRow.laid w) ∧ sizedMet enc Tryd.prog Tryd.f3 (OpenSpec.ofChange Rows.fnSessionPairsSpec) false w args)
      (Rows.fnSessionPairsSpec.post enc Tryd.prog Tryd.f3 false true false false) := by
  refine returnsInHanded_of_change_and (C := Tryd.checked) (X := fun w _ => laidMetH Tryd.prog Rows.fnSessionPairsRow.laid w) (fun _ _ _ hh h => h.of_heap hh) own started (by kernel_rfl) Tryd.func3
    (ChangeSpec.witness_shaped (enc := enc) (C := Tryd.checked) (os := os) (X := fun w _ => laidMetH Tryd.prog Rows.fnSessionPairsRow.laid w) false (World.doorLaid Tryd.prog 4000 os) #[.slice none 0 0, .slice none 0 0, .slice none 0 0, .bool false] 8 rfl (World.shaped_of_RefB (by kernel_rfl) (by kernel_rfl)) (by kernel_rfl) (by kernel_rfl) (by kernel_rfl) (door_met os _)) ?_
  intro W base args ds gs before hval0 hW _ _ hL _
  have hval : ∀ (j : Nat) t v, Tryd.f3.params[j]? = some t → args[j]? = some v → Value.okWide Tryd.prog W .any base t v := hval0
  have hW' := hW
  obtain ⟨p, q, hA0, hV, rfl, hfz, hnd⟩ := hW
  have hA : DataW.TrodAll enc Tryd.prog W 0 (fun _ => true) true Tryd.f3.params.toList args.toList ds p := hA0
  rw [Tryd.params3] at hA hval
  obtain ⟨v0, vs0, d0, ds0, p0, q0, hargs, rfl, rfl, h0, r0⟩ := trodAll_cons hA
  obtain ⟨v1, vs1, d1, ds1, p1, q1, rfl, rfl, rfl, h1, r1⟩ := trodAll_cons r0
  obtain ⟨v2, vs2, d2, ds2, p2, q2, rfl, rfl, rfl, h2, r2⟩ := trodAll_cons r1
  obtain ⟨v3, vs3, d3, ds3, p3, q3, rfl, rfl, rfl, h3, r3⟩ := trodAll_cons r2
  obtain ⟨rfl, rfl, rfl⟩ := trodAll_nil r3
  obtain rfl : args = #[v0, v1, v2, v3] := by cases args; simp_all
  obtain ⟨rfl, rfl⟩ := trodVars_none hV
  have k0 := h0
  have lt0 : ∀ x ∈ p0, x.block < W.heap.size := by obtain ⟨m, hm⟩ := k0; exact DataW.trod_lt m _ _ _ hm
  have k1 := h1
  have lt1 : ∀ x ∈ p1, x.block < W.heap.size := by obtain ⟨m, hm⟩ := k1; exact DataW.trod_lt m _ _ _ hm
  have k2 := h2
  have lt2 : ∀ x ∈ p2, x.block < W.heap.size := by obtain ⟨m, hm⟩ := k2; exact DataW.trod_lt m _ _ _ hm
  have k3 := h3
  have lt3 : ∀ x ∈ p3, x.block < W.heap.size := by obtain ⟨m, hm⟩ := k3; exact DataW.trod_lt m _ _ _ hm
  obtain ⟨a0, n0, c0, rfl⟩ := okWide_slice Tryd.underlying22 (hval 0 22 v0 rfl rfl)
  obtain ⟨A0, L0, C0, X0, hr0, hn0, hc0⟩ : ∃ A L C X, RowsIn W a0 n0 A L C X ∧ n0 ≤ c0 ∧ c0 ≤ maxLen := by
    obtain ⟨fuel, hf⟩ := h0
    exact rowsIn_open Tryd.underlying22 Tryd.underlying23 Tryd.underlying5 (by kernel_rfl) (by kernel_rfl) hf
  obtain ⟨a1, n1, c1, rfl⟩ := okWide_slice Tryd.underlying22 (hval 1 22 v1 rfl rfl)
  obtain ⟨A1, L1, C1, X1, hr1, hn1, hc1⟩ : ∃ A L C X, RowsIn W a1 n1 A L C X ∧ n1 ≤ c1 ∧ c1 ≤ maxLen := by
    obtain ⟨fuel, hf⟩ := h1
    exact rowsIn_open Tryd.underlying22 Tryd.underlying23 Tryd.underlying5 (by kernel_rfl) (by kernel_rfl) hf
  obtain ⟨a2, n2, c2, rfl⟩ := okWide_slice Tryd.underlying23 (hval 2 23 v2 rfl rfl)
  obtain ⟨x2, hi2, hx2, hr2, hn2, hc2⟩ : ∃ xs, Lib.BytesIn W a2 n2 xs ∧ xs.length = n2 ∧ (∀ x ∈ xs, 0 ≤ x ∧ x < 256) ∧ n2 ≤ c2 ∧ c2 ≤ maxLen := by
    obtain ⟨fuel, hf⟩ := h2
    rcases open_ints Tryd.underlying23 Tryd.underlying5 (by kernel_rfl) hf with ⟨hcs, _⟩ | ⟨x, l, c, zs, hcs, _, hl, hm, hz, _, hcell, hwz⟩
    · simp [Value.cells] at hcs
      obtain ⟨rfl, rfl, rfl⟩ := hcs
      exact ⟨[], Lib.BytesIn.nil _ _ _, rfl, (fun _ h => absurd h List.not_mem_nil), Nat.le_refl _, Nat.zero_le _⟩
    · simp [Value.cells] at hcs
      obtain ⟨rfl, rfl, rfl⟩ := hcs
      have hz' : zs.length = c2 := by simpa using hz
      exact ⟨zs.take n2, Lib.BytesIn.of_cells (fun i hi => by rw [hcell i (by omega)]; simp [List.getD, hi]), by simp; omega, fun x hx => by have := wf_byte (hwz x (List.mem_of_mem_take hx)); omega, hl, hm⟩
  obtain ⟨b3, rfl, _, _⟩ := open_bool Tryd.underlying4 (hval 3 4 v3 rfl rfl) h3
  clear hA0 hval0
  refine (walk a0 n0 c0 A0 L0 C0 X0 a1 n1 c1 A1 L1 C1 X1 a2 n2 c2 x2 b3 W hr0 hn0 hc0 hr1 hn1 hc1 hi2 hx2 hr2 hn2 hc2 ).mono fun e W' ⟨he, bel⟩ => ?_
  subst he
  exact ⟨_, rfl, _, _, _, [], _, [], hW', trodAll_mk1 (shut_bool Tryd.underlying4 _), (trodAll_cons_mk (Below.trod laidOut (by kernel_rfl) (of_decide_eq_true (by kernel_rfl)) k0 bel lt0) (trodAll_cons_mk (Below.trod laidOut (by kernel_rfl) (of_decide_eq_true (by kernel_rfl)) k1 bel lt1) (trodAll_cons_mk (Below.trod laidOut (by kernel_rfl) (of_decide_eq_true (by kernel_rfl)) k2 bel lt2) (trodAll_cons_mk (Below.trod laidOut (by kernel_rfl) (of_decide_eq_true (by kernel_rfl)) k3 bel lt3) trodAll_mk0)))), rfl, bel.frame _, fun h => by cases h⟩

theorem over : Rows.fnSessionPairsRow.holds Tryd.pinned (OpenSpec.ofChange Rows.fnSessionPairsSpec) :=
  OpenClaim.holds_of_wide 3 Tryd.f3 rfl rfl rfl rfl rfl rfl rfl ⟨rfl, rfl, rfl, rfl, rfl⟩ rfl rfl rfl rfl rfl (by kernel_rfl) Tryd.func3 (by kernel_rfl)
    (of_decide_eq_true (by kernel_rfl)) (by unfold Func.isWrapper; first | (rw [if_pos (by decide +kernel)]; kernel_rfl) | (rw [if_neg (by decide +kernel)]; exact ⟨rfl, rfl⟩))
    (fun os started H enc _ => lifted os started H enc)

/-- The statement: the card. -/
theorem proved : Rows.FnSessionPairsCardSaid :=
  Claim7.holds_tied_plain_at .later [] [.sentinel, .sentinel] true (true, "e897c04b9663731d5634908eb2c8bfa1bd4b62d60f0a8e07d310ad8cf944942b") true
    over (fun _ h => by cases h) (by kernel_rfl) (fun _ h => by cases h) fnSessionPairs_row_tie rfl ⟨rfl, rfl⟩ (by kernel_rfl) rfl
    (fun f fn hf hfn => by
      obtain rfl : f = 3 := Option.some.inj ((show Tryd.prog.funcNamed "pub-dodona/laws.FnSessionPairs" = some 3 by kernel_rfl).symm.trans hf) |>.symm
      obtain rfl : fn = Tryd.f3 := (Option.some.inj (Tryd.func3.symm.trans hfn)).symm
      exact ⟨by kernel_rfl, fun j t ht => by
        rw [Tryd.params3] at ht
        have hm : t ∈ [22, 22, 23, 4] := by simpa using Array.mem_of_getElem? ht
        have hall : ([22, 22, 23, 4].all fun u => !Tryd.prog.wantsStandIn u) = true := by kernel_rfl
        exact (show Tryd.prog.wantsStandIn t = false by simpa using List.all_eq_true.1 hall t hm)⟩)
    (by kernel_rfl)
#print axioms proved
end Go.Proofs.YtgjfejalinkohaaDoor.fnSessionPairs
