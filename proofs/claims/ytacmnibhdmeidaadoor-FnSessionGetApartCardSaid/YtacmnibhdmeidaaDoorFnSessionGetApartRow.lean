/-
  FnSessionGetApart returns true for every input that its row lets in, and leaves its arguments as they were. Conditions: none beyond the row's own.
-/
import Derived.Test.YtacmnibhdmeidaaDoorRows
import Derived.Test.YtacmnibhdmeidaaDoorCards
import Derived.Test.YtacmnibhdmeidaaDoorTie
import Derived.LaidMore
import Derived.Stop.Joined
import Derived.SevenTiedAt
import Derived.WalkKit
import Derived.ProofKit
import Derived.OpenShut
import Derived.ShutString
import Derived.ChangeOld
import Derived.Below
import Derived.Test.YtacmnibhdmeidaaDoorAsk4
namespace Go.Proofs.YtacmnibhdmeidaaDoor.fnSessionGetApart
open Go.ChangeShapes Go.WideShapes Go.ChangeAt Go.RowKit
open Go.ChangeMaps (open_string shut_string)
set_option linter.unusedVariables false

theorem own : ownKnob Tryd.prog.godebug = none := by kernel_rfl
theorem laidOut : laidOutB Tryd.prog = true := by kernel_rfl
theorem wf_byte {x : Int} (h : (Lit.int .u8 x).wf = true) : 0 ≤ x ∧ x ≤ 255 := by
  have h1 : IntKind.u8.min = 0 := rfl
  have h2 : IntKind.u8.max = 255 := rfl
  simp [Lit.wf, h1, h2] at h
  omega


theorem walk (a0 : Option Addr) (n0 c0 : Nat) (x0 : List Int) (a1 : Option Addr) (n1 c1 : Nat) (P1 : Nat → LAsk) (a2 : Option Addr) (n2 c2 : Nat) (P2 : Nat → LAsk) (b3 : Bool) (w : World) (hi0 : Lib.BytesIn w a0 n0 x0) (hx0 : x0.length = n0) (hr0 : ∀ x ∈ x0, 0 ≤ x ∧ x < 256) (hn0 : n0 ≤ c0) (hc0 : c0 ≤ maxLen) (hp1 : AsksIn w a1 n1 P1) (hn1 : n1 ≤ c1) (hc1 : c1 ≤ maxLen) (hp2 : AsksIn w a2 n2 P2) (hn2 : n2 ≤ c2) (hc2 : c2 ≤ maxLen) :
    Calls Tryd.prog 4 #[.slice a0 n0 c0, .slice a1 n1 c1, .slice a2 n2 c2, .bool b3] w fun e w' => e = .returned (.bool true) ∧ Below w.heap.size w w' := by
  exact fnGetApart_any a0 n0 c0 x0 a1 a2 n1 c1 n2 c2 P1 P2 b3 w hi0 hx0 hr0 hp1 hp2

/-- The door's own heap meets the condition. -/
theorem door_met (os : Os) (args : Array Value) : laidMetH Tryd.prog Rows.fnSessionGetApartRow.laid ((World.doorLaid Tryd.prog 4000 os).forCall (fun _ _ => 0) ⟨#[], args, []⟩).memory :=
  laidMetH_of_parts3 (fuel := 8) (laidMet_of_run' 8 (by kernel_rfl) (by kernel_rfl)) (by kernel_rfl) (by kernel_rfl)

set_option maxRecDepth 100000 in
theorem lifted (os : Os) (started : os.Started) (H : Type) (enc : TypeId × Value → H) :
    ReturnsInHanded {} Tryd.checked os 4 .any (fun w args => (Rows.fnSessionGetApartSpec.pre enc Tryd.prog Tryd.f4 [] false w args ∧ laidMetH Tryd.prog Rows.fnSessionGetApartRow.laid w) ∧ sizedMet enc Tryd.prog Tryd.f4 (OpenSpec.ofChange Rows.fnSessionGetApartSpec) false w args)
      (Rows.fnSessionGetApartSpec.post enc Tryd.prog Tryd.f4 false true false false) := by
  refine returnsInHanded_of_change_and (C := Tryd.checked) (X := fun w _ => laidMetH Tryd.prog Rows.fnSessionGetApartRow.laid w) (fun _ _ _ hh h => h.of_heap hh) own started (by kernel_rfl) Tryd.func4
    (ChangeSpec.witness_shaped (enc := enc) (C := Tryd.checked) (os := os) (X := fun w _ => laidMetH Tryd.prog Rows.fnSessionGetApartRow.laid w) false (World.doorLaid Tryd.prog 4000 os) #[.slice none 0 0, .slice none 0 0, .slice none 0 0, .bool false] 8 rfl (World.shaped_of_RefB (by kernel_rfl) (by kernel_rfl)) (by kernel_rfl) (by kernel_rfl) (by kernel_rfl) (door_met os _)) ?_
  intro W base args ds gs before hval0 hW _ _ hL _
  have hval : ∀ (j : Nat) t v, Tryd.f4.params[j]? = some t → args[j]? = some v → Value.okWide Tryd.prog W .any base t v := hval0
  have hW' := hW
  obtain ⟨p, q, hA0, hV, rfl, hfz, hnd⟩ := hW
  have hA : DataW.TrodAll enc Tryd.prog W 0 (fun _ => true) true Tryd.f4.params.toList args.toList ds p := hA0
  rw [Tryd.params4] at hA hval
  obtain ⟨v0, vs0, d0, ds0, p0, q0, hargs, rfl, rfl, h0, r0⟩ := trodAll_cons hA
  obtain ⟨v1, vs1, d1, ds1, p1, q1, rfl, rfl, rfl, h1, r1⟩ := trodAll_cons r0
  obtain ⟨v2, vs2, d2, ds2, p2, q2, rfl, rfl, rfl, h2, r2⟩ := trodAll_cons r1
  obtain ⟨v3, vs3, d3, ds3, p3, q3, rfl, rfl, rfl, h3, r3⟩ := trodAll_cons r2
  obtain ⟨rfl, rfl, rfl⟩ := trodAll_nil r3
  obtain rfl : args = #[v0, v1, v2, v3] := by cases args; simp_all
  obtain ⟨rfl, rfl⟩ := trodVars_none hV
  have k0 := h0
  have lt0 : ∀ x ∈ p0, x.block < W.heap.size := by obtain ⟨m, hm⟩ := k0; exact DataW.trod_lt m _ _ _ hm
  have k1 := h1
  have lt1 : ∀ x ∈ p1, x.block < W.heap.size := by obtain ⟨m, hm⟩ := k1; exact DataW.trod_lt m _ _ _ hm
  have k2 := h2
  have lt2 : ∀ x ∈ p2, x.block < W.heap.size := by obtain ⟨m, hm⟩ := k2; exact DataW.trod_lt m _ _ _ hm
  have k3 := h3
  have lt3 : ∀ x ∈ p3, x.block < W.heap.size := by obtain ⟨m, hm⟩ := k3; exact DataW.trod_lt m _ _ _ hm
  obtain ⟨a0, n0, c0, rfl⟩ := okWide_slice Tryd.underlying26 (hval 0 26 v0 rfl rfl)
  obtain ⟨x0, hi0, hx0, hr0, hn0, hc0⟩ : ∃ xs, Lib.BytesIn W a0 n0 xs ∧ xs.length = n0 ∧ (∀ x ∈ xs, 0 ≤ x ∧ x < 256) ∧ n0 ≤ c0 ∧ c0 ≤ maxLen := by
    obtain ⟨fuel, hf⟩ := h0
    rcases open_ints Tryd.underlying26 Tryd.underlying5 (by kernel_rfl) hf with ⟨hcs, _⟩ | ⟨x, l, c, zs, hcs, _, hl, hm, hz, _, hcell, hwz⟩
    · simp [Value.cells] at hcs
      obtain ⟨rfl, rfl, rfl⟩ := hcs
      exact ⟨[], Lib.BytesIn.nil _ _ _, rfl, (fun _ h => absurd h List.not_mem_nil), Nat.le_refl _, Nat.zero_le _⟩
    · simp [Value.cells] at hcs
      obtain ⟨rfl, rfl, rfl⟩ := hcs
      have hz' : zs.length = c0 := by simpa using hz
      exact ⟨zs.take n0, Lib.BytesIn.of_cells (fun i hi => by rw [hcell i (by omega)]; simp [List.getD, hi]), by simp; omega, fun x hx => by have := wf_byte (hwz x (List.mem_of_mem_take hx)); omega, hl, hm⟩
  obtain ⟨a1, n1, c1, rfl⟩ := okWide_slice Tryd.underlying36 (hval 1 36 v1 rfl rfl)
  obtain ⟨P1, hp1, hn1, hc1⟩ : ∃ P, AsksIn W a1 n1 P ∧ n1 ≤ c1 ∧ c1 ≤ maxLen := by
    obtain ⟨fuel, hf⟩ := h1
    exact asksIn_open hf
  obtain ⟨a2, n2, c2, rfl⟩ := okWide_slice Tryd.underlying36 (hval 2 36 v2 rfl rfl)
  obtain ⟨P2, hp2, hn2, hc2⟩ : ∃ P, AsksIn W a2 n2 P ∧ n2 ≤ c2 ∧ c2 ≤ maxLen := by
    obtain ⟨fuel, hf⟩ := h2
    exact asksIn_open hf
  obtain ⟨b3, rfl, _, _⟩ := open_bool Tryd.underlying4 (hval 3 4 v3 rfl rfl) h3
  clear hA0 hval0
  refine (walk a0 n0 c0 x0 a1 n1 c1 P1 a2 n2 c2 P2 b3 W hi0 hx0 hr0 hn0 hc0 hp1 hn1 hc1 hp2 hn2 hc2 ).mono fun e W' ⟨he, bel⟩ => ?_
  subst he
  exact ⟨_, rfl, _, _, _, [], _, [], hW', trodAll_mk1 (shut_bool Tryd.underlying4 _), (trodAll_cons_mk (Below.trod laidOut (by kernel_rfl) (of_decide_eq_true (by kernel_rfl)) k0 bel lt0) (trodAll_cons_mk (Below.trod laidOut (by kernel_rfl) (of_decide_eq_true (by kernel_rfl)) k1 bel lt1) (trodAll_cons_mk (Below.trod laidOut (by kernel_rfl) (of_decide_eq_true (by kernel_rfl)) k2 bel lt2) (trodAll_cons_mk (Below.trod laidOut (by kernel_rfl) (of_decide_eq_true (by kernel_rfl)) k3 bel lt3) trodAll_mk0)))), rfl, bel.frame _, fun h => by cases h⟩

theorem over : Rows.fnSessionGetApartRow.holds Tryd.pinned (OpenSpec.ofChange Rows.fnSessionGetApartSpec) :=
  OpenClaim.holds_of_wide 4 Tryd.f4 rfl rfl rfl rfl rfl rfl rfl ⟨rfl, rfl, rfl, rfl, rfl⟩ rfl rfl rfl rfl rfl (by kernel_rfl) Tryd.func4 (by kernel_rfl)
    (of_decide_eq_true (by kernel_rfl)) (by unfold Func.isWrapper; first | (rw [if_pos (by decide +kernel)]; kernel_rfl) | (rw [if_neg (by decide +kernel)]; exact ⟨rfl, rfl⟩))
    (fun os started H enc _ => lifted os started H enc)

/-- The statement: the card. -/
theorem proved : Rows.FnSessionGetApartCardSaid :=
  Claim7.holds_tied_plain_at .later [] [.sentinel, .sentinel] true (true, "bfe665c836c59b59655a5905268271cb43a1682c96e48750f9f2ebfa1293bc97") true
    over (fun _ h => by cases h) (by kernel_rfl) (fun _ h => by cases h) fnSessionGetApart_row_tie rfl ⟨rfl, rfl⟩ (by kernel_rfl) rfl
    (fun f fn hf hfn => by
      obtain rfl : f = 4 := Option.some.inj ((show Tryd.prog.funcNamed "pub-dodona/laws.FnSessionGetApart" = some 4 by kernel_rfl).symm.trans hf) |>.symm
      obtain rfl : fn = Tryd.f4 := (Option.some.inj (Tryd.func4.symm.trans hfn)).symm
      exact ⟨by kernel_rfl, fun j t ht => by
        rw [Tryd.params4] at ht
        have hm : t ∈ [26, 36, 36, 4] := by simpa using Array.mem_of_getElem? ht
        have hall : ([26, 36, 36, 4].all fun u => !Tryd.prog.wantsStandIn u) = true := by kernel_rfl
        exact (show Tryd.prog.wantsStandIn t = false by simpa using List.all_eq_true.1 hall t hm)⟩)
    (by kernel_rfl)
#print axioms proved
end Go.Proofs.YtacmnibhdmeidaaDoor.fnSessionGetApart
