/-
  Servers: the tests of their sizes, their addresses.
-/
import Derived.Test.YtcdbnjhkjfimkaaDoorGenC
import Derived.Test.YtcdbnjhkjfimkaaDoorCfg0
import Derived.Lib.ItoaMem
import Derived.Lib.LaidTab
import Derived.Lib.Bytealg
import Derived.Lib.ItoaLen
import Derived.Shelf.Unicode.PredsPay
import Derived.ShutString
namespace Go.Proofs.YtcdbnjhkjfimkaaDoor
open Go Go.RowKit

def Tab (w : World) : Prop := Lib.TabIs Tryd.prog w "internal/strconv.uint64pow10" .u64 Lib.pow10Tab
theorem Tab.kp {w w' : World} (h : Tab w) (hk : Kp w w') : Tab w' := TabIs_below (g := 4) (by kernel_rfl) h hk
theorem kp_grow (w : World) (k : Nat) (os : Array Obj) : Kp w (Go.Sort.grow (w.drewN k) os) :=
  ⟨rfl, rfl, rfl, by simp [Go.Sort.grow, World.drewN], fun i hi => by simp [Go.Sort.grow, World.drewN, Array.getElem?_append, hi]⟩

/-- Whether so many texts are short. -/
def shortL (S : Nat → ByteArray) : Nat → Bool
  | 0 => true
  | k + 1 => shortL S k && decide ((S k).size ≤ 300)
theorem shortL_no (S : Nat → ByteArray) (k : Nat) (h : 300 < (S k).size) : ∀ n, k < n → shortL S n = false
  | 0, hk => by omega
  | n + 1, hk => by
    by_cases e : k = n
    · subst e; simp [shortL]; omega
    · simp [shortL, shortL_no S k h n (by omega)]
theorem shortL_at (S : Nat → ByteArray) : ∀ n, shortL S n = true → ∀ r, r < n → (S r).size ≤ 300
  | 0, _, r, hr => by omega
  | n + 1, h, r, hr => by
    simp only [shortL, Bool.and_eq_true, decide_eq_true_eq] at h
    by_cases e : r = n
    · rw [e]; exact h.2
    · exact shortL_at S n h.1 r (by omega)
set_option maxHeartbeats 1000000 in
theorem configShort_any (b n c : Nat) (S : Nat → ByteArray) (w : World) (h : ∀ r, r < n → w.cell? ⟨b, r, none⟩ = some (.string (S r))) (hm : ∀ r, r < n → (S r).size ≤ maxLen) (hn : n ≤ 1000) :
    Calls Tryd.prog 38 #[.slice (some ⟨b, 0, none⟩) n c] w fun e w' => e = .returned (.bool (shortL S n)) ∧ w = w' := by
  have i0 : (n : Int) ≤ 1000 := by omega
  have H := Lib.hid h
  have HM := Lib.hid hm
  clear h hm hn
  go_enter Tryd.func38, Tryd.ntmps38
  go_wp2_with fail
  go_loopg [7] n (fun G st wr => ∃ k : Nat, G = n - k ∧ k ≤ n ∧ st = .int .i64 (k : Int) ∧ shortL S k = true ∧ w = wr)
  case atStart => exact ⟨0, rfl, Nat.zero_le _, rfl, rfl, rfl⟩
  case round =>
    obtain ⟨k, rfl, hk, rfl, hs, rfl⟩ := hrel
    have HS := Lib.hid hs
    have HKN := Lib.hid hk
    have j0 : (0 : Int) ≤ (k : Int) := by omega
    have j1 : (k : Int) ≤ (n : Int) := by omega
    clear hs hk
    by_cases hlt : k < n
    · have j2 : (k : Int) < (n : Int) := by omega
      have d0 := H.out k hlt
      have hm := HM.out k hlt
      have HLT := Lib.hid hlt
      have HNO := Lib.hid (fun h => shortL_no S k h n hlt)
      have HYE := Lib.hid (fun (h : (S k).size ≤ 300) => (show shortL S (k + 1) = true by simp [shortL, HS.out, h]))
      clear hlt
      generalize S k = s at d0 hm HNO HYE
      have j3 : (s.size : Int) ≤ 9223372036854775807 := by unfold maxLen at hm; omega
      clear hm
      by_cases h3 : s.size ≤ 300
      · have j4 : (s.size : Int) ≤ 300 := by omega
        have H3 := Lib.hid h3
        clear h3
        go_wp2_with fail
        go_roundg (n - (k + 1))
        case measure => have := HLT.out; omega
        case rel => exact ⟨k + 1, rfl, HLT.out, by go_num, HYE.out H3.out, rfl⟩
      · have j4 : (300 : Int) < (s.size : Int) := by omega
        have H3 := Lib.hid (show 300 < s.size by omega)
        clear h3
        go_wp2_with fail
        go_ret
        exact ⟨by rw [HNO.out H3.out]; rfl, rfl⟩
    · obtain rfl : k = n := by have := HKN.out; omega
      clear hlt
      go_wp2_with fail
      go_ret
      exact ⟨by rw [HS.out]; rfl, rfl⟩

theorem index_colon : ∀ l : List UInt8, (0 ≤ Lib.indexByte l 58) ↔ 58 ∈ l
  | [] => by simp [Lib.indexByte]
  | b :: l => by
    have ih := index_colon l
    have hg := Lib.indexByte_ge l 58
    unfold Lib.indexByte
    by_cases hb : b = 58
    · subst hb; simp
    · have hb' : (b == 58) = false := by simp [hb]
      have hb2 : ¬ (58 : UInt8) = b := fun e => hb e.symm
      rw [hb', if_neg (by simp)]
      by_cases h1 : Lib.indexByte l 58 = -1
      · rw [h1] at ih ⊢
        simp [hb2] at ih ⊢
        exact ih
      · have h2 : (Lib.indexByte l 58 == -1) = false := by simp [h1]
        rw [h2, if_neg (by simp)]
        simp [hb2]
        rw [← ih]
        omega
/-- The address of a server, as a text. -/
def netS (a : ByteArray) (p : Int) : ByteArray := ⟨(netL a.data.toList p).toArray⟩
theorem netS_inj (a b : ByteArray) (p q : Int) : netS a p = netS b q ↔ a = b ∧ p = q := by
  unfold netS
  constructor
  · intro h
    have h1 := congrArg (fun x : ByteArray => x.data.toList) h
    have h2 := (netL_inj _ _ _ _).1 h1
    exact ⟨ByteArray.ext (Array.ext' h2.1), h2.2⟩
  · rintro ⟨rfl, rfl⟩; rfl
theorem itoa_len (n : Int) (h0 : -9223372036854775808 ≤ n) (h1 : n ≤ 9223372036854775807) : (Lib.itoa n).length ≤ 21 := Lib.itoa_length_le n h0 h1
set_option maxRecDepth 100000 in
set_option maxHeartbeats 1000000 in
theorem join_any (h : ByteArray) (p : Int) (hs : h.size ≤ 1000) (h0 : -9223372036854775808 ≤ p) (h1 : p ≤ 9223372036854775807) (w : World) :
    Calls Tryd.prog 118 #[.string h, .string ⟨(Lib.itoa p).toArray⟩] w fun e w' => e = .returned (.string (netS h p)) ∧ w = w' := by
  have hl := itoa_len p h0 h1
  have hix := index_colon h.data.toList
  generalize hq : (⟨(Lib.itoa p).toArray⟩ : ByteArray) = q
  have hqs : q.size ≤ 21 := by rw [← hq]; exact hl
  have HQ := Lib.hid hq
  have HIX := Lib.hid hix
  generalize hi : Lib.indexByte h.data.toList 58 = ix at HIX
  have hi' : Lib.indexByte h.data.toList (58 : Int).toNat.toUInt8 = ix := hi
  have HI := Lib.hid hi'
  clear hl hix hq hi hi' h0 h1
  by_cases hm : 58 ∈ h.data.toList
  · have k0 : (0 : Int) ≤ ix := HIX.out.2 hm
    have HM := Lib.hid hm
    clear hm
    go_enter Tryd.func118, Tryd.ntmps118
    go_wp2_with fail
    rw [run_callFunc_extern Tryd.func156 (by kernel_rfl) (by kernel_rfl) (by kernel_rfl) (e := Extern.BytealgIndexByte.indexByte) (by kernel_rfl), Lib.run_indexByteString, HI.out]
    simp only [Result.andThen]
    rw [Oper.upon_value]
    go_wp2
    go_ret
    refine ⟨?_, rfl⟩
    show Ending.returned (.string (({ data := #[91] } : ByteArray) ++ h ++ { data := #[93, 58] } ++ q)) = _
    have e : (({ data := #[91] } : ByteArray) ++ h ++ { data := #[93, 58] } ++ q) = netS h p := by
      unfold netS netL
      rw [if_pos HM.out, ← HQ.out]
      apply ByteArray.ext
      apply Array.ext'
      simp
    rw [e]
  · have k0 : ix < 0 := by
      have := HIX.out
      by_cases h : 0 ≤ ix
      · exact absurd (this.1 h) hm
      · omega
    have HM := Lib.hid hm
    clear hm
    go_enter Tryd.func118, Tryd.ntmps118
    go_wp2_with fail
    rw [run_callFunc_extern Tryd.func156 (by kernel_rfl) (by kernel_rfl) (by kernel_rfl) (e := Extern.BytealgIndexByte.indexByte) (by kernel_rfl), Lib.run_indexByteString, HI.out]
    simp only [Result.andThen]
    rw [Oper.upon_value]
    go_wp2
    go_ret
    refine ⟨?_, rfl⟩
    show Ending.returned (.string (h ++ { data := #[58] } ++ q)) = _
    have e : (h ++ ({ data := #[58] } : ByteArray) ++ q) = netS h p := by
      unfold netS netL
      rw [if_neg HM.out, ← HQ.out]
      apply ByteArray.ext
      apply Array.ext'
      simp
    rw [e]

theorem itoa_any (p : Int) (h0 : -9223372036854775808 ≤ p) (h1 : p ≤ 9223372036854775807) (w : World) (ht : Tab w) : Calls Tryd.prog 43 #[.int .i64 p] w fun e w' => e = .returned (.string ⟨(Lib.itoa p).toArray⟩) ∧ Kp w w' :=
  (Tryd.strconv_Itoa p h0 h1 w ht).mono (by rintro e w' ⟨rfl, k, os, rfl⟩; exact ⟨rfl, kp_grow w k os⟩)
/-- What the number's text needs: the table, or that it is small. -/
def ItoaAt (p : Int) (w : World) : Prop := ∀ w1, Kp w w1 → Calls Tryd.prog 43 #[.int .i64 p] w1 fun e w' => e = .returned (.string ⟨(Lib.itoa p).toArray⟩) ∧ Kp w1 w'
theorem ItoaAt.kp {p : Int} {w w' : World} (h : ItoaAt p w) (hk : Kp w w') : ItoaAt p w' := fun w1 h1 => h w1 (hk.trans h1)
theorem netS_a5 : netS ⟨#[97]⟩ 5 = ⟨#[97, 58, 53]⟩ := by
  unfold netS netL Lib.itoa
  rw [if_neg (by decide), if_neg (by decide), show (5 : Int).toNat = 5 from rfl, dec_rec]
  rfl
theorem itoa_five (w : World) : ItoaAt 5 w := fun w1 _ => (Tryd.strconv_Itoa_small 5 (by omega) w1).mono (by
  rintro e w' ⟨rfl, rfl⟩
  exact ⟨by rw [show Lib.itoa 5 = Lib.decDigits 5 from rfl], Kp.refl _⟩)
end Go.Proofs.YtcdbnjhkjfimkaaDoor
