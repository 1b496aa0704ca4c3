/-
  The reference's PacketGet: the number that stands in some bytes.
-/
import Derived.Test.YtaohgebiedkdaaaDoorGet
import Derived.Laws.BitsAllLaws
import Derived.LoopTactic
namespace Go.Proofs.YtaohgebiedkdaaaDoor
open Go Go.RowKit

/-- The number that bytes spell, the greatest first. -/
def pg : Int → List Int → Int
  | a, [] => a
  | a, x :: l => pg (a * 256 + x) l

theorem pg_snoc : ∀ (l : List Int) (a x : Int), pg a (l ++ [x]) = pg a l * 256 + x
  | [], _, _ => rfl
  | _ :: l, _, x => pg_snoc l _ x

theorem pg_bound : ∀ (l : List Int) (a : Int) (n : Nat), (∀ x ∈ l, 0 ≤ x ∧ x < 256) → 0 ≤ a → a < 256 ^ n → 0 ≤ pg a l ∧ pg a l < 256 ^ (n + l.length)
  | [], a, n, _, h0, h1 => ⟨h0, h1⟩
  | y :: l, a, n, h, h0, h1 => by
    have hy := h y (by simp)
    have := pg_bound l (a * 256 + y) (n + 1) (fun x hx => h x (by simp [hx])) (by omega) (by rw [Int.pow_succ]; omega)
    rw [List.length_cons, show n + (l.length + 1) = n + 1 + l.length from by omega]
    exact this

theorem or_byte (a x : Int) (h0 : 0 ≤ a) (h1 : a < 72057594037927936) (h2 : 0 ≤ x) (h3 : x < 256) : bits .or .u64 (a * 256) x = a * 256 + x := by
  obtain ⟨m, rfl⟩ := Int.eq_ofNat_of_zero_le h0
  obtain ⟨y, rfl⟩ := Int.eq_ofNat_of_zero_le h2
  have := u64_or_nat (m * 256) y (by omega) (by omega)
  rw [show ((m : Int) * 256) = ((m * 256 : Nat) : Int) from by omega, this, nat_join 8 (m * 256) y (by omega) (by omega)]
  omega

set_option maxHeartbeats 1000000 in
set_option maxRecDepth 100000 in
theorem packetGet_any (b o n c at_ m : Nat) (xs : List Int) (w : World) (hc : ∀ i, i < n → w.cell? ⟨b, o + i, none⟩ = some (.int .u8 (xs.getD i 0))) (hx : xs.length = n) (hr : ∀ x ∈ xs, 0 ≤ x ∧ x < 256) (hnc : n ≤ c) (hcap : c ≤ maxLen) (ham : at_ + m ≤ n) (hm0 : 0 < m) (hm : m ≤ 4) :
    Calls Tryd.prog 15 #[.slice (some ⟨b, o, none⟩) n c, .int .i64 at_, .int .i64 m] w fun e w' => e = .returned (.int .u64 (pg 0 ((xs.drop at_).take m))) ∧ w = w' := by
  unfold maxLen at hcap
  have hne : c ≠ at_ := by omega
  have hn1 : ((at_ : Nat) : Int) + ((m : Nat) : Int) ≤ ((n : Nat) : Int) := by omega
  have hn2 : ((n : Nat) : Int) ≤ ((c : Nat) : Int) := by omega
  have hn3 : ((c : Nat) : Int) ≤ 9223372036854775807 := by omega
  have hn4 : ((m : Nat) : Int) ≤ 4 := by omega
  have HC := Lib.hid hc
  have HX := Lib.hid hx
  have HR := Lib.hid hr
  clear hc hx hr
  go_enter Tryd.func15, Tryd.ntmps15
  go_wp2
  go_loop [7, 9, 17] (fun v _ i => ∃ k : Nat, k ≤ m ∧ i = .int .i64 k ∧ v = .int .u64 (pg 0 ((xs.drop at_).take k))) (fun _ _ i => m - (intOf i).toNat)
  case atStart => exact ⟨0, Nat.zero_le _, rfl, rfl⟩
  case round =>
    obtain ⟨k, hk, rfl, rfl⟩ := hrel
    by_cases hlt : k < m
    · have hcell := HC.out (at_ + k) (by omega)
      have hby := getD_byte HR.out (at_ + k)
      have hmem : ∀ x ∈ (xs.drop at_).take k, 0 ≤ x ∧ x < 256 := fun x hx => HR.out x (List.mem_of_mem_drop (List.mem_of_mem_take hx))
      have hb := pg_bound _ 0 0 hmem (Int.le_refl _) (by decide)
      have hlen : ((xs.drop at_).take k).length = k := by simp; have := HX.out; omega
      rw [hlen, Nat.zero_add] at hb
      have hsn : pg 0 ((xs.drop at_).take (k + 1)) = pg 0 ((xs.drop at_).take k) * 256 + xs.getD (at_ + k) 0 := by
        have hl : k < (xs.drop at_).length := by simp; have := HX.out; omega
        rw [List.take_succ_eq_append_getElem hl, pg_snoc]
        have hl2 : at_ + k < xs.length := by have := HX.out; omega
        simp [List.getD, List.getElem?_eq_getElem hl2]
      have hp : (256 : Int) ^ k ≤ 16777216 := by
        have : k = 0 ∨ k = 1 ∨ k = 2 ∨ k = 3 := by omega
        rcases this with rfl | rfl | rfl | rfl <;> decide
      generalize pg 0 ((xs.drop at_).take k) = v at *
      generalize xs.getD (at_ + k) 0 = x at *
      have hor := or_byte v x hb.1 (by omega) hby.1 hby.2
      have HS := Lib.hid hsn
      have hv0 := hb.1
      have hv1 : v ≤ 16777216 := by omega
      clear hb hmem hlen hsn hp
      rw [← Nat.add_assoc] at hcell
      go_wp2
      exact ⟨⟨k + 1, by omega, by go_num, by rw [HS.out]⟩, by simp [intOf]; omega⟩
    · obtain rfl : k = m := by omega
      go_wp2
      go_ret
      exact ⟨rfl, rfl⟩

theorem pg_two (xs : List Int) (i : Nat) (h : i + 2 ≤ xs.length) : pg 0 ((xs.drop i).take 2) = g16 xs i := by
  have e : (xs.drop i).take 2 = [xs.getD i 0, xs.getD (i + 1) 0] := by
    apply List.ext_getElem
    · simp; omega
    · intro j h1 h2
      simp at h2
      match j, h2 with
      | 0, _ => simp [List.getD, List.getElem?_eq_getElem (show i < xs.length by omega)]
      | 1, _ => simp [List.getD, List.getElem?_eq_getElem (show i + 1 < xs.length by omega)]
  rw [e]
  simp [pg, g16]

theorem pg_four (xs : List Int) (i : Nat) (h : i + 4 ≤ xs.length) : pg 0 ((xs.drop i).take 4) = g32 xs i := by
  have e : (xs.drop i).take 4 = [xs.getD i 0, xs.getD (i + 1) 0, xs.getD (i + 2) 0, xs.getD (i + 3) 0] := by
    apply List.ext_getElem
    · simp; omega
    · intro j h1 h2
      simp at h2
      match j, h2 with
      | 0, _ => simp [List.getD, List.getElem?_eq_getElem (show i < xs.length by omega)]
      | 1, _ => simp [List.getD, List.getElem?_eq_getElem (show i + 1 < xs.length by omega)]
      | 2, _ => simp [List.getD, List.getElem?_eq_getElem (show i + 2 < xs.length by omega)]
      | 3, _ => simp [List.getD, List.getElem?_eq_getElem (show i + 3 < xs.length by omega)]
  rw [e]
  simp [pg, g32]
end Go.Proofs.YtaohgebiedkdaaaDoor
