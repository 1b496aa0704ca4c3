/-
  The first nought among bytes: slices.Index and zzIndexZero; bytes as a text.
-/
import Derived.Test.YtacmnibhdmeidaaDoorRdr4
import Derived.Laws.IdiomStrings
namespace Go.Proofs.YtacmnibhdmeidaaDoor
open Go Go.RowKit

/-- At a step of a region that draws its order: an append whose run is known. -/
theorem step_app_run {P : Program} {ops : Array Oper} {o : Oper} {a : Act} {w : World} {K : Act → World → Prop} {Q : Exit → Act → World → Prop} {E : Prop} (hgd : o.guard = none) (s x : Operand) (t tn : TypeId)
    (ho : o.op = .call { callee := .builtin .append, args := #[s, x], argTypes := #[t, tn] }) (vs vx : Value) (hs : a.eval s = vs) (hx : a.eval x = vx)
    (v' : Value) (w' : World) (hr : (Builtin.append_ #[t, tn] o.type #[vs, vx]).run P w = .ok v' w') (h : K (a.put o.dst v') w') :
    if Region.wanted o (yielded ops a.tmps) = true then Oper.wp P o a w K Q else E := by
  have hw : Region.wanted o (yielded ops a.tmps) = true := by simp [Region.wanted, hgd]
  rw [if_pos hw]
  exact Lib.wp_append_run w s x t tn ho vs vx hs hx v' w' hr h

/-- Where the first nought stands; -1 where there is none. -/
def Idx0 (ys : List Int) (k : Int) : Prop := (∃ j : Nat, k = j ∧ j < ys.length ∧ ys.getD j 0 = 0 ∧ ∀ i, i < j → ys.getD i 0 ≠ 0) ∨ (k = -1 ∧ ∀ j, j < ys.length → ys.getD j 0 ≠ 0)
/-- Bytes as a text. -/
def textB (ys : List Int) : ByteArray := ⟨(Lib.bytesOf ys).toArray⟩

set_option maxRecDepth 100000 in
set_option maxHeartbeats 2000000 in
theorem sindex_any (q : Option Addr) (m d : Nat) (ys : List Int) (w : World) (hi : Lib.BytesIn w q m ys) (hy : ys.length = m) (hm : m ≤ 1000000) :
    Calls Tryd.prog 30 #[.slice q m d, .int .u8 0] w fun e w' => ∃ k, e = .returned (.int .i64 k) ∧ Idx0 ys k ∧ w = w' := by
  have HI := Lib.hid hi
  have HY := Lib.hid hy
  have j1 : (m : Int) ≤ 1000000 := by omega
  clear hi hy hm
  go_enter Tryd.func30, Tryd.ntmps30
  go_wp2_with fail
  go_loopg [8] m (fun G st wr => ∃ k : Nat, G = m - k ∧ k ≤ m ∧ st = .int .i64 (k : Int) ∧ (∀ i, i < k → ys.getD i 0 ≠ 0) ∧ w = wr)
  case atStart => exact ⟨0, rfl, Nat.zero_le _, rfl, (fun i hi => by omega), rfl⟩
  case round =>
    obtain ⟨k, rfl, hk, rfl, hb, rfl⟩ := hrel
    have HB := Lib.hid hb
    have j2 : (0 : Int) ≤ (k : Int) := by omega
    have j3 : (k : Int) ≤ (m : Int) := by omega
    by_cases hlt : k < m
    · obtain ⟨b, o1, rfl, hc⟩ := HI.out (by omega)
      have d0 := hc k hlt
      obtain ⟨x, hx⟩ : ∃ x, ys.getD k 0 = x := ⟨_, rfl⟩
      rw [hx] at d0
      have HX := Lib.hid hx
      have HLT := Lib.hid hlt
      have j4 : (k : Int) < (m : Int) := by omega
      clear hc hx hb hk hlt
      by_cases h0 : x = 0
      · subst h0
        go_wp2_with fail
        go_ret
        exact ⟨k, rfl, .inl ⟨k, rfl, by rw [HY.out]; exact HLT.out, HX.out, HB.out⟩, rfl⟩
      · have z0 : ((0 : Int) == x) = false := by simp; omega
        have z1 : ¬ (0 : Int) = x := fun e => h0 e.symm
        have H0 := Lib.hid h0
        clear h0
        go_wp2_with fail
        go_roundg (m - (k + 1))
        case measure => have := HLT.out; omega
        case rel => exact ⟨k + 1, rfl, HLT.out, by go_num, (fun i hi => by
          by_cases e : i = k
          · subst e; rw [HX.out]; exact H0.out
          · exact HB.out i (by omega)), rfl⟩
    · obtain rfl : k = m := by omega
      clear hb hk hlt
      go_wp2_with fail
      go_ret
      exact ⟨-1, rfl, .inr ⟨rfl, fun j hj => HB.out j (by rw [HY.out] at hj; exact hj)⟩, rfl⟩

set_option maxRecDepth 100000 in
set_option maxHeartbeats 2000000 in
theorem zzIndex_any (q : Option Addr) (m d : Nat) (ys : List Int) (w : World) (hi : Lib.BytesIn w q m ys) (hy : ys.length = m) (hm : m ≤ 1000000) :
    Calls Tryd.prog 78 #[.slice q m d] w fun e w' => ∃ k, e = .returned (.int .i64 k) ∧ Idx0 ys k ∧ w = w' := by
  have HI := Lib.hid hi
  have HY := Lib.hid hy
  have j1 : (m : Int) ≤ 1000000 := by omega
  clear hi hy hm
  go_enter Tryd.func78, Tryd.ntmps78
  go_wp2_with fail
  go_loopg [7] m (fun G st wr => ∃ k : Nat, G = m - k ∧ k ≤ m ∧ st = .int .i64 (k : Int) ∧ (∀ i, i < k → ys.getD i 0 ≠ 0) ∧ w = wr)
  case atStart => exact ⟨0, rfl, Nat.zero_le _, rfl, (fun i hi => by omega), rfl⟩
  case round =>
    obtain ⟨k, rfl, hk, rfl, hb, rfl⟩ := hrel
    have HB := Lib.hid hb
    have j2 : (0 : Int) ≤ (k : Int) := by omega
    have j3 : (k : Int) ≤ (m : Int) := by omega
    by_cases hlt : k < m
    · obtain ⟨b, o1, rfl, hc⟩ := HI.out (by omega)
      have d0 := hc k hlt
      obtain ⟨x, hx⟩ : ∃ x, ys.getD k 0 = x := ⟨_, rfl⟩
      rw [hx] at d0
      have HX := Lib.hid hx
      have HLT := Lib.hid hlt
      have j4 : (k : Int) < (m : Int) := by omega
      clear hc hx hb hk hlt
      by_cases h0 : x = 0
      · subst h0
        go_wp2_with fail
        go_ret
        exact ⟨k, rfl, .inl ⟨k, rfl, by rw [HY.out]; exact HLT.out, HX.out, HB.out⟩, rfl⟩
      · have z0 : (x == (0 : Int)) = false := by simpa using h0
        have H0 := Lib.hid h0
        go_wp2_with fail
        go_roundg (m - (k + 1))
        case measure => have := HLT.out; omega
        case rel => exact ⟨k + 1, rfl, HLT.out, by go_num, (fun i hi => by
          by_cases e : i = k
          · subst e; rw [HX.out]; exact H0.out
          · exact HB.out i (by omega)), rfl⟩
    · obtain rfl : k = m := by omega
      clear hb hk hlt
      go_wp2_with fail
      go_ret
      exact ⟨-1, rfl, .inr ⟨rfl, fun j hj => HB.out j (by rw [HY.out] at hj; exact hj)⟩, rfl⟩

/-- Bytes made a text. -/
theorem conv_text (w : World) (q : Option Addr) (m c : Nat) (ys : List Int) (hi : Lib.BytesIn w q m ys) (hy : ys.length = m) (hb : ∀ x ∈ ys, 0 ≤ x ∧ x < 256) : (convert 26 9 (.slice q m c)).run Tryd.prog w = .ok (.string (textB ys)) w := by
  rcases Nat.eq_zero_or_pos m with h0 | h0
  · subst h0
    have : ys = [] := List.eq_nil_of_length_eq_zero hy
    subst this
    cases q with
    | none =>
      rw [run_convert_bytes_string w 26 9 5 none 0 c Tryd.underlying26 Tryd.underlying5 Tryd.underlying9]
      simp [Conv.bytesToString, textB, Lib.bytesOf]
      try rfl
    | some a =>
      exact run_convert_bytes_back (P := Tryd.prog) w 26 9 5 a c [] Tryd.underlying26 Tryd.underlying5 Tryd.underlying9 (fun j hj => by simp at hj)
  · obtain ⟨b, o, rfl, hc⟩ := hi h0
    have hl : (Lib.bytesOf ys).length = m := by simp [Lib.bytesOf, hy]
    have h := run_convert_bytes_back (P := Tryd.prog) w 26 9 5 ⟨b, o, none⟩ c (Lib.bytesOf ys) Tryd.underlying26 Tryd.underlying5 Tryd.underlying9 (fun j hj => by
      have hj' : j < ys.length := by rw [hl] at hj; omega
      have h1 := hc j (by omega)
      rw [Go.WideShapes.add_plain, h1]
      have hbx := hb (ys[j]) (List.getElem_mem hj')
      simp only [Lib.bytesOf, List.getElem_map, List.getD_eq_getElem?_getD, List.getElem?_eq_getElem hj', Option.getD_some]
      congr 2
      rw [UInt8.toNat_ofNat']
      omega)
    rw [hl] at h
    exact h
end Go.Proofs.YtacmnibhdmeidaaDoor
