/-
  FnPacketAcceptTorn returns true for every input that its row lets in, and leaves its arguments as they were. Conditions: none beyond the row's own.
-/
import Derived.Test.YtacmnibhdmeidaaDoorRows
import Derived.Test.YtacmnibhdmeidaaDoorCards
import Derived.Test.YtacmnibhdmeidaaDoorTie
import Derived.LaidMore
import Derived.Stop.Joined
import Derived.SevenTiedAt
import Derived.WalkKit
import Derived.ProofKit
import Derived.OpenShut
import Derived.ShutString
import Derived.ChangeOld
import Derived.Below
import Derived.Test.YtacmnibhdmeidaaDoorOpenA
namespace Go.Proofs.YtacmnibhdmeidaaDoor.fnPacketAcceptTorn
open Go.ChangeShapes Go.WideShapes Go.ChangeAt Go.RowKit
open Go.ChangeMaps (open_string shut_string)
set_option linter.unusedVariables false

theorem own : ownKnob Tryd.prog.godebug = none := by kernel_rfl
theorem laidOut : laidOutB Tryd.prog = true := by kernel_rfl
theorem wf_byte {x : Int} (h : (Lit.int .u8 x).wf = true) : 0 ≤ x ∧ x ≤ 255 := by
  have h1 : IntKind.u8.min = 0 := rfl
  have h2 : IntKind.u8.max = 255 := rfl
  simp [Lit.wf, h1, h2] at h
  omega


theorem walk (ac0 : Ac) (a0 : Option Addr) (n0 c0 : Nat) (x0 : List Int) (m1 : Int) (a2 : Option Addr) (n2 c2 : Nat) (x2 : List Int) (w : World) (ok0 : ac0.Ok) (hs0 : ac0.adr.size ≤ maxLen) (hi0 : Lib.BytesIn w a0 n0 x0) (hx0 : x0.length = n0) (hr0 : ∀ x ∈ x0, 0 ≤ x ∧ x < 256) (hn0 : n0 ≤ c0) (hc0 : c0 ≤ maxLen) (wf1 : (Lit.int .u8 m1).wf = true) (hi2 : Lib.BytesIn w a2 n2 x2) (hx2 : x2.length = n2) (hr2 : ∀ x ∈ x2, 0 ≤ x ∧ x < 256) (hn2 : n2 ≤ c2) (hc2 : c2 ≤ maxLen) :
    Calls Tryd.prog 3 #[.agg (ac0.cells (.slice a0 n0 c0)), .int .u8 m1, .slice a2 n2 c2] w fun e w' => e = .returned (.bool true) ∧ Below w.heap.size w w' := by
  exact fnTorn_any ac0 a0 n0 c0 x0 m1 a2 n2 c2 x2 w ok0 hs0 hi0 hx0 (by omega) (by have := wf_byte wf1; omega) hi2 hx2 (by omega)

/-- The door's own heap meets the condition. -/
theorem door_met (os : Os) (args : Array Value) : laidMetH Tryd.prog Rows.fnPacketAcceptTornRow.laid ((World.doorLaid Tryd.prog 4000 os).forCall (fun _ _ => 0) ⟨#[], args, []⟩).memory :=
  laidMetH_of_parts3 (fuel := 8) (laidMet_of_run' 8 (by kernel_rfl) (by kernel_rfl)) (by kernel_rfl) (by kernel_rfl)

set_option maxRecDepth 100000 in
theorem lifted (os : Os) (started : os.Started) (H : Type) (enc : TypeId × Value → H) :
    ReturnsInHanded {} Tryd.checked os 3 .any (fun w args => (Rows.fnPacketAcceptTornSpec.pre enc Tryd.prog Tryd.f3 [] false w args ∧ laidMetH Tryd.prog Rows.fnPacketAcceptTornRow.laid w) ∧ sizedMet enc Tryd.prog Tryd.f3 (OpenSpec.ofChange Rows.fnPacketAcceptTornSpec) false w args)
      (Rows.fnPacketAcceptTornSpec.post enc Tryd.prog Tryd.f3 false true false false) := by
  refine returnsInHanded_of_change_and (C := Tryd.checked) (X := fun w _ => laidMetH Tryd.prog Rows.fnPacketAcceptTornRow.laid w) (fun _ _ _ hh h => h.of_heap hh) own started (by kernel_rfl) Tryd.func3
    (ChangeSpec.witness_shaped (enc := enc) (C := Tryd.checked) (os := os) (X := fun w _ => laidMetH Tryd.prog Rows.fnPacketAcceptTornRow.laid w) false (World.doorLaid Tryd.prog 4000 os) #[.agg #[.int .u32 0, .int .u8 0, .int .u8 0, .int .u16 0, .int .u16 0, .int .u16 0, .int .u16 0, .int .u8 0, .int .u8 0, .int .u32 0, .int .u32 0, .string ByteArray.empty, .slice none 0 0], .int .u8 0, .slice none 0 0] 8 rfl (World.shaped_of_RefB (by kernel_rfl) (by kernel_rfl)) (by kernel_rfl) (by kernel_rfl) (by kernel_rfl) (door_met os _)) ?_
  intro W base args ds gs before hval0 hW _ _ hL _
  have hval : ∀ (j : Nat) t v, Tryd.f3.params[j]? = some t → args[j]? = some v → Value.okWide Tryd.prog W .any base t v := hval0
  have hW' := hW
  obtain ⟨p, q, hA0, hV, rfl, hfz, hnd⟩ := hW
  have hA : DataW.TrodAll enc Tryd.prog W 0 (fun _ => true) true Tryd.f3.params.toList args.toList ds p := hA0
  rw [Tryd.params3] at hA hval
  obtain ⟨v0, vs0, d0, ds0, p0, q0, hargs, rfl, rfl, h0, r0⟩ := trodAll_cons hA
  obtain ⟨v1, vs1, d1, ds1, p1, q1, rfl, rfl, rfl, h1, r1⟩ := trodAll_cons r0
  obtain ⟨v2, vs2, d2, ds2, p2, q2, rfl, rfl, rfl, h2, r2⟩ := trodAll_cons r1
  obtain ⟨rfl, rfl, rfl⟩ := trodAll_nil r2
  obtain rfl : args = #[v0, v1, v2] := by cases args; simp_all
  obtain ⟨rfl, rfl⟩ := trodVars_none hV
  have k0 := h0
  have lt0 : ∀ x ∈ p0, x.block < W.heap.size := by obtain ⟨m, hm⟩ := k0; exact DataW.trod_lt m _ _ _ hm
  have k1 := h1
  have lt1 : ∀ x ∈ p1, x.block < W.heap.size := by obtain ⟨m, hm⟩ := k1; exact DataW.trod_lt m _ _ _ hm
  have k2 := h2
  have lt2 : ∀ x ∈ p2, x.block < W.heap.size := by obtain ⟨m, hm⟩ := k2; exact DataW.trod_lt m _ _ _ hm
  obtain ⟨ac0, a0, n0, c0, x0, rfl, ok0, hs0, hi0, hx0, hr0, hn0, hc0⟩ := open_acc (hval 0 28 v0 rfl rfl) h0
  obtain ⟨m1, rfl, _, _, wf1⟩ := open_int Tryd.underlying5 (hval 1 5 v1 rfl rfl) h1
  obtain ⟨a2, n2, c2, rfl⟩ := okWide_slice Tryd.underlying26 (hval 2 26 v2 rfl rfl)
  obtain ⟨x2, hi2, hx2, hr2, hn2, hc2⟩ : ∃ xs, Lib.BytesIn W a2 n2 xs ∧ xs.length = n2 ∧ (∀ x ∈ xs, 0 ≤ x ∧ x < 256) ∧ n2 ≤ c2 ∧ c2 ≤ maxLen := by
    obtain ⟨fuel, hf⟩ := h2
    rcases open_ints Tryd.underlying26 Tryd.underlying5 (by kernel_rfl) hf with ⟨hcs, _⟩ | ⟨x, l, c, zs, hcs, _, hl, hm, hz, _, hcell, hwz⟩
    · simp [Value.cells] at hcs
      obtain ⟨rfl, rfl, rfl⟩ := hcs
      exact ⟨[], Lib.BytesIn.nil _ _ _, rfl, (fun _ h => absurd h List.not_mem_nil), Nat.le_refl _, Nat.zero_le _⟩
    · simp [Value.cells] at hcs
      obtain ⟨rfl, rfl, rfl⟩ := hcs
      have hz' : zs.length = c2 := by simpa using hz
      exact ⟨zs.take n2, Lib.BytesIn.of_cells (fun i hi => by rw [hcell i (by omega)]; simp [List.getD, hi]), by simp; omega, fun x hx => by have := wf_byte (hwz x (List.mem_of_mem_take hx)); omega, hl, hm⟩
  clear hA0 hval0
  refine (walk ac0 a0 n0 c0 x0 m1 a2 n2 c2 x2 W ok0 hs0 hi0 hx0 hr0 hn0 hc0 wf1 hi2 hx2 hr2 hn2 hc2).mono fun e W' ⟨he, bel⟩ => ?_
  subst he
  exact ⟨_, rfl, _, _, _, [], _, [], hW', trodAll_mk1 (shut_bool Tryd.underlying4 _), (trodAll_cons_mk (Below.trod laidOut (by kernel_rfl) (of_decide_eq_true (by kernel_rfl)) k0 bel lt0) (trodAll_cons_mk (Below.trod laidOut (by kernel_rfl) (of_decide_eq_true (by kernel_rfl)) k1 bel lt1) (trodAll_cons_mk (Below.trod laidOut (by kernel_rfl) (of_decide_eq_true (by kernel_rfl)) k2 bel lt2) trodAll_mk0))), rfl, bel.frame _, fun h => by cases h⟩

theorem over : Rows.fnPacketAcceptTornRow.holds Tryd.pinned (OpenSpec.ofChange Rows.fnPacketAcceptTornSpec) :=
  OpenClaim.holds_of_wide 3 Tryd.f3 rfl rfl rfl rfl rfl rfl rfl ⟨rfl, rfl, rfl, rfl, rfl⟩ rfl rfl rfl rfl rfl (by kernel_rfl) Tryd.func3 (by kernel_rfl)
    (of_decide_eq_true (by kernel_rfl)) (by unfold Func.isWrapper; first | (rw [if_pos (by decide +kernel)]; kernel_rfl) | (rw [if_neg (by decide +kernel)]; exact ⟨rfl, rfl⟩))
    (fun os started H enc _ => lifted os started H enc)

/-- The statement: the card. -/
theorem proved : Rows.FnPacketAcceptTornCardSaid :=
  Claim7.holds_tied_plain_at .later [] [.sentinel] true (true, "bfe665c836c59b59655a5905268271cb43a1682c96e48750f9f2ebfa1293bc97") true
    over (fun _ h => by cases h) (by kernel_rfl) (fun _ h => by cases h) fnPacketAcceptTorn_row_tie rfl ⟨rfl, rfl⟩ (by kernel_rfl) rfl
    (fun f fn hf hfn => by
      obtain rfl : f = 3 := Option.some.inj ((show Tryd.prog.funcNamed "pub-dodona/laws.FnPacketAcceptTorn" = some 3 by kernel_rfl).symm.trans hf) |>.symm
      obtain rfl : fn = Tryd.f3 := (Option.some.inj (Tryd.func3.symm.trans hfn)).symm
      exact ⟨by kernel_rfl, fun j t ht => by
        rw [Tryd.params3] at ht
        have hm : t ∈ [28, 5, 26] := by simpa using Array.mem_of_getElem? ht
        have hall : ([28, 5, 26].all fun u => !Tryd.prog.wantsStandIn u) = true := by kernel_rfl
        exact (show Tryd.prog.wantsStandIn t = false by simpa using List.all_eq_true.1 hall t hm)⟩)
    (by kernel_rfl)
#print axioms proved
end Go.Proofs.YtacmnibhdmeidaaDoor.fnPacketAcceptTorn
