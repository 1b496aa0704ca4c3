/-
  The form of an integer: EncodeInt64.
-/
import Derived.Test.YtcdbnjhkjfimkaaDoorNum2
import Derived.Test.YtcdbnjhkjfimkaaDoorDecN
import Derived.Lib.AppendStr
import Derived.Laws.IdiomStrings
namespace Go.Proofs.YtcdbnjhkjfimkaaDoor
open Go Go.RowKit

/-- A string's bytes. -/
def sI (s : ByteArray) : List Int := s.data.toList.map fun b => (b.toNat : Int)
theorem sI_length (s : ByteArray) : (sI s).length = s.size := by simp [sI]
theorem bin_rowI (w : World) (s : ByteArray) (cap : Nat) (t : TypeId) (m : Nat × Nat) : Lib.BytesIn (w.alloc (.cells (bytesRow s cap) t m)) (some ⟨w.heap.size, 0, none⟩) s.size (sI s) := fun _ =>
  ⟨w.heap.size, 0, rfl, fun i hi => by
    rw [Nat.zero_add, cell_of_row _ w.heap.size i _ t m (heap_alloc_new w _)]
    simp [bytesRow, sI, List.getD, Array.getElem?_append, hi]⟩

/-- The last L decimal digits of N, in letters. -/
def digI (N L : Nat) : List Int := (dgL N L).map fun c => (c.toNat : Int)
theorem digI_length (N L : Nat) : (digI N L).length = L := by simp [digI, dgL_length]
theorem dg_toNat (N k : Nat) : (Lib.dg N k).toNat = 48 + N / 10 ^ k % 10 := by
  unfold Lib.dg
  have : N / 10 ^ k % 10 < 10 := Nat.mod_lt _ (by decide)
  rw [UInt8.toNat_ofNat']
  omega
theorem digI_at (N L i : Nat) (h : i < L) : (digI N L).getD i 0 = ((48 + N / 10 ^ (L - 1 - i) % 10 : Nat) : Int) := by
  have hl : i < (dgL N L).length := by rw [dgL_length]; exact h
  have e : (dgL N L)[i] = Lib.dg N (L - 1 - i) := by simp [dgL]
  rw [← dg_toNat, ← e]
  simp [digI, List.getD, hl]
theorem digI_digit (N L : Nat) : ∀ x ∈ digI N L, IsDigit x := by
  intro x hx
  obtain ⟨c, hc, rfl⟩ := List.mem_map.1 hx
  obtain ⟨t, _, rfl⟩ := List.mem_map.1 hc
  have := dg_toNat N (L - 1 - t)
  have h2 : N / 10 ^ (L - 1 - t) % 10 < 10 := Nat.mod_lt _ (by decide)
  unfold IsDigit
  omega
theorem div_div_pow (N a b : Nat) : N / 10 ^ a / 10 ^ b = N / 10 ^ (a + b) := by rw [Nat.div_div_eq_div_mul, ← Nat.pow_add]
theorem dgL_take (N L t : Nat) (h : t ≤ L) : (dgL N L).take (L - t) = dgL (N / 10 ^ t) (L - t) := by
  apply List.ext_getElem
  · simp [dgL_length]
  · intro i h1 h2
    rw [dgL_length] at h2
    simp only [List.getElem_take]
    simp only [dgL, List.getElem_map, List.getElem_range]
    unfold Lib.dg
    rw [div_div_pow, show t + (L - t - 1 - i) = L - 1 - i by omega]
theorem digI_take (N L t : Nat) (h : t ≤ L) : (digI N L).take (L - t) = digI (N / 10 ^ t) (L - t) := by
  unfold digI
  rw [← List.map_take, dgL_take N L t h]
theorem mod_pow_succ {N t : Nat} (h : N % 10 ^ t = 0) (h2 : N / 10 ^ t % 10 = 0) : N % 10 ^ (t + 1) = 0 := by
  have h1 := Nat.div_add_mod N (10 ^ t)
  rw [h, Nat.add_zero] at h1
  have h3 := Nat.div_add_mod (N / 10 ^ t) 10
  rw [h2, Nat.add_zero] at h3
  rw [Nat.pow_succ, ← h1, ← h3, ← Nat.mul_assoc]
  exact Nat.mul_mod_right _ _
theorem eq_zero_of_mod {N D : Nat} (h : N % 10 ^ D = 0) (hD : N < 10 ^ D) : N = 0 := by rw [Nat.mod_eq_of_lt hD] at h; exact h

theorem conv_any (w : World) (s : ByteArray) : ∃ cap w2, (convert 9 26 (.string s)).run Tryd.prog w = .ok (.slice (some ⟨w.heap.size, 0, none⟩) s.size cap) w2 ∧ Kp w w2 ∧ Lib.BytesIn w2 (some ⟨w.heap.size, 0, none⟩) s.size (sI s) ∧ s.size ≤ cap ∧ (s.size ≤ maxLen → cap ≤ maxLen) := by
  have kc := run_bytes_of_string (P := Tryd.prog) w 9 26 5 s Tryd.underlying9 Tryd.underlying26 Tryd.underlying5
  exact ⟨_, _, kc, ((Kp.refl w).drew).alloc _, bin_rowI w.drew s _ _ _, grownCap_ge _ _ _ _, grownCap_le_maxLen _ _ _ _⟩
theorem bin_sub {w : World} {b o n : Nat} {xs : List Int} (h : Lib.BytesIn w (some ⟨b, o, none⟩) n xs) (k m : Nat) (hk : k + m ≤ n) : Lib.BytesIn w (some ⟨b, o + k, none⟩) m ((xs.drop k).take m) := fun _ =>
  ⟨b, o + k, rfl, fun i hi => by
    have h1 := bin_at h (k + i) (by omega)
    rw [← Nat.add_assoc] at h1
    rw [h1]
    simp [List.getD, hi]⟩

/-- What EncodeInt64 makes. -/
def EncL (n : Int) (l : List Int) : Prop := (n = 0 ∧ l = [128]) ∨ ∃ t, 0 < n.natAbs ∧ t < Lib.nDigits n.natAbs ∧ n.natAbs % 10 ^ t = 0 ∧ n.natAbs / 10 ^ t % 10 ≠ 0 ∧
  l = numL (digI (n.natAbs / 10 ^ t) (Lib.nDigits n.natAbs - t)) (decide (n < 0)) ((Lib.nDigits n.natAbs : Int) - 1)
def EncPost (n : Int) (w : World) (r : Ending) (w' : World) : Prop := ∃ v l, r = .returned v ∧ w'.ownsRow w.heap.size 5 1 v l.length (l.map (Value.int .u8)) ∧ Kp w w' ∧ EncL n l

theorem toNumber_none (p : Option Addr) (k : Nat) (neg : Bool) (e : Int) (w : World) :
    Calls Tryd.prog 90 #[.slice p 0 k, .bool neg, .int .i64 e] w fun r w' => ∃ v, r = .returned v ∧ w'.ownsRow w.heap.size 5 1 v 1 ([128].map (Value.int .u8)) ∧ Kp w w' := by
  go_enter Tryd.func90, Tryd.ntmps90
  go_wp2
  go_ret
  exact ⟨_, rfl, by exact own_new w [128] _ (by simp [maxLen]), (Kp.refl w).alloc _⟩

set_option maxRecDepth 100000 in
set_option maxHeartbeats 4000000 in
theorem encode_pos (N : Nat) (n : Int) (hn : n = (N : Int)) (hN : N ≤ 9223372036854775808) (hb : n ≤ 9223372036854775807) (w : World) (ht : Tab w) :
    Calls Tryd.prog 56 #[.int .i64 n] w (EncPost n w) := by
  have C := Lib.hid (formatInt_any n (by omega) (by omega) w ht)
  have HD : 1 ≤ Lib.nDigits N ∧ Lib.nDigits N ≤ 19 := ⟨Lib.nDigits_pos N, nDigits_le 18 N (by omega)⟩
  obtain ⟨D, hD⟩ : ∃ D, D = Lib.nDigits N := ⟨_, rfl⟩
  have HDD := Lib.hid hD
  obtain ⟨s, hs⟩ : ∃ s : ByteArray, s = ⟨(Lib.itoa n).toArray⟩ := ⟨_, rfl⟩
  have hl : Lib.itoa n = dgL N D := by rw [hn, Lib.itoa_nonneg, dec_dgL, hD]
  have hsl : sI s = digI N D := by
    rw [hs]
    unfold sI digI
    simp [hl]
  have hsz : s.size = D := by rw [← sI_length, hsl]; simp [digI_length]
  have hna : n.natAbs = N := by omega
  have hng : decide (n < 0) = false := by
    simp
    omega
  have hlt := Lib.lt_pow_nDigits N
  rw [← hs] at C
  rw [← hD] at HD hlt
  have HLT := Lib.hid hlt
  have HNA := Lib.hid hna
  have HNG := Lib.hid hng
  have HSL := Lib.hid hsl
  have d1 : 1 ≤ D := HD.1
  have d19 : D ≤ 19 := HD.2
  have hx0 := getD_digit (digI_digit N D) 0 (by rw [digI_length]; omega)
  clear hn hN hb hs hl hsl hD HD hlt hna hng ht
  go_enter Tryd.func56, Tryd.ntmps56
  go_wp2_with fail
  refine C.out.mono ?_
  rintro e w1 ⟨rfl, hb⟩
  have HB := Lib.hid hb
  obtain ⟨cap, w2, kc, hk2, hin2, hcap1, hcap2⟩ := conv_any w1 s
  rw [HSL.out, hsz] at hin2
  rw [hsz] at kc hcap1
  have HK2 := Lib.hid ((HB.out).call hk2)
  have HIN := Lib.hid hin2
  have i0 : ((D : Nat) : Int) ≤ 19 := by omega
  generalize w1.heap.size = g at *
  have c0 : w2.cell? ⟨g, 0, none⟩ = some (.int .u8 ((digI N D).getD 0 0)) := bin_at hin2 0 (by omega)
  generalize (digI N D).getD 0 0 = x0 at *
  have x45 : (x0 == 45) = false := by
    simp
    omega
  clear hb hk2 hin2 C
  go_wp2
  go_loopg [6, 7] D (fun g a b wr => ∃ t : Nat, t ≤ D ∧ g = D - t ∧ a = .int .i64 (t : Int) ∧ b = .int .i64 ((D : Int) - 1 - (t : Int)) ∧ N % 10 ^ t = 0 ∧ w2 = wr)
  case atStart => exact ⟨0, Nat.zero_le _, rfl, rfl, by simp, by simp [Nat.mod_one], rfl⟩
  case round =>
    obtain ⟨t, ht, rfl, rfl, rfl, hmod, rfl⟩ := hrel
    have HM := Lib.hid hmod
    clear hmod
    have e0 : ((D : Int) - (t : Int)).toNat = D - t := by omega
    by_cases hlt : t < D
    · have e1 : ((D : Int) - 1 - (t : Int)).toNat = D - 1 - t := by omega
      have j1 : (0 : Int) ≤ (D : Int) - 1 - (t : Int) := by omega
      have cc : w2.cell? ⟨g, (D - 1 - t), none⟩ = some (.int .u8 ((48 + N / 10 ^ t % 10 : Nat) : Int)) := by
        have h := bin_at HIN.out ((D - 1 - t)) (by omega)
        rw [Nat.zero_add] at h
        rw [h, digI_at N D (D - 1 - t) (by omega), show D - 1 - (D - 1 - t) = t by omega]
      by_cases hz : N / 10 ^ t % 10 = 0
      · have HZ := Lib.hid hz
        rw [hz] at cc
        have cc' : w2.cell? ⟨g, (D - 1 - t), none⟩ = some (.int .u8 48) := cc
        clear cc hz
        go_wp2
        go_roundg (D - (t + 1))
        case measure => omega
        case rel =>
          first | exact ⟨t + 1, by omega, rfl, by simp, by congr 1; omega, mod_pow_succ HM.out HZ.out, rfl⟩ | ((repeat apply Exists.intro); exact ⟨⟨t + 1, by omega, rfl, by simp, by congr 1; omega, mod_pow_succ HM.out HZ.out, rfl⟩, rfl⟩)
      · have HZ := Lib.hid hz
        obtain ⟨y, hy⟩ : ∃ y : Int, ((48 + N / 10 ^ t % 10 : Nat) : Int) = y := ⟨_, rfl⟩
        rw [hy] at cc
        have y1 : (y == 48) = false := by
          simp
          omega
        have hlen : ((digI N D).take (D - t)).length = D - t := by
          rw [List.length_take, digI_length]
          omega
        have hdg : ∀ x ∈ (digI N D).take (D - t), IsDigit x := fun x hx => digI_digit N D x (List.mem_of_mem_take hx)
        have hin3 : Lib.BytesIn w2 (some ⟨g, 0, none⟩) (D - t) ((digI N D).take (D - t)) := by
          have h := bin_sub HIN.out 0 (D - t) (by omega)
          simpa using h
        have CT := Lib.hid (fun cp => toNumber_any (some ⟨g, 0, none⟩) (D - t) cp ((digI N D).take (D - t)) false ((D : Int) - 1) w2 hin3 hlen (by omega) (by omega) hdg (by omega) (by omega))
        clear hy hz hlen hdg hin3
        go_wp2_with fail
        refine (CT.out _).mono ?_
        rintro e w3 ⟨v, rfl, hown, hk⟩
        go_wp2
        go_ret
        refine ⟨v, _, rfl, own_base hown HK2.out.size, HK2.out.trans hk, Or.inr ⟨t, ?_, ?_, ?_, ?_, ?_⟩⟩
        · rw [HNA.out]; rcases Nat.eq_zero_or_pos N with h | h
          · exfalso
            apply HZ.out
            rw [h]
            simp
          · exact h
        · rw [HNA.out, ← HDD.out]; exact hlt
        · rw [HNA.out]; exact HM.out
        · rw [HNA.out]; exact HZ.out
        · rw [HNA.out, ← HDD.out, HNG.out, ← digI_take N D t ht]
    · have q0 : t = D := by omega
      subst q0
      have j1 : ¬ (0 : Int) ≤ (t : Int) - 1 - (t : Int) := by omega
      have q1 : ((t : Int) - (t : Int)) = 0 := by omega
      have HN0 := Lib.hid (eq_zero_of_mod HM.out HLT.out)
      clear e0
      go_wp2_with fail
      refine (toNumber_none _ _ _ _ _).mono ?_
      rintro e w3 ⟨v, rfl, hown, hk⟩
      go_wp2
      go_ret
      exact ⟨v, [128], rfl, own_base hown HK2.out.size, HK2.out.trans hk, Or.inl ⟨by have := HNA.out; have := HN0.out; omega, rfl⟩⟩

set_option maxRecDepth 100000 in
set_option maxHeartbeats 4000000 in
theorem encode_neg (N : Nat) (n : Int) (hn : n = -(N : Int)) (hN : N ≤ 9223372036854775808) (hb : n ≤ 9223372036854775807) (h0 : 0 < N) (w : World) (ht : Tab w) :
    Calls Tryd.prog 56 #[.int .i64 n] w (EncPost n w) := by
  have C := Lib.hid (formatInt_any n (by omega) (by omega) w ht)
  have HD : 1 ≤ Lib.nDigits N ∧ Lib.nDigits N ≤ 19 := ⟨Lib.nDigits_pos N, nDigits_le 18 N (by omega)⟩
  obtain ⟨D, hD⟩ : ∃ D, D = Lib.nDigits N := ⟨_, rfl⟩
  have HDD := Lib.hid hD
  obtain ⟨s, hs⟩ : ∃ s : ByteArray, s = ⟨(Lib.itoa n).toArray⟩ := ⟨_, rfl⟩
  have hl : Lib.itoa n = 45 :: dgL N D := by rw [hn, Lib.itoa_neg N h0, dec_dgL, hD]
  have hsl : sI s = 45 :: digI N D := by
    rw [hs]
    unfold sI digI
    simp [hl]
  have hsz : s.size = D + 1 := by rw [← sI_length, hsl]; simp [digI_length]
  have hna : n.natAbs = N := by omega
  have hng : decide (n < 0) = true := by
    simp
    omega
  have hlt := Lib.lt_pow_nDigits N
  rw [← hs] at C
  rw [← hD] at HD hlt
  have HLT := Lib.hid hlt
  have HNA := Lib.hid hna
  have HNG := Lib.hid hng
  have HSL := Lib.hid hsl
  have d1 : 1 ≤ D := HD.1
  have d19 : D ≤ 19 := HD.2
  clear hn hN hb h0 hs hl hsl hD HD hlt hna hng ht
  go_enter Tryd.func56, Tryd.ntmps56
  go_wp2_with fail
  refine C.out.mono ?_
  rintro e w1 ⟨rfl, hb⟩
  have HB := Lib.hid hb
  obtain ⟨cap, w2, kc, hk2, hin2, hcap1, hcap2⟩ := conv_any w1 s
  rw [HSL.out, hsz] at hin2
  rw [hsz] at kc hcap1
  have HK2 := Lib.hid ((HB.out).call hk2)
  have HIN := Lib.hid hin2
  have i0 : ((D : Nat) : Int) ≤ 19 := by omega
  generalize w1.heap.size = g at *
  have c0 : w2.cell? ⟨g, 0, none⟩ = some (.int .u8 45) := bin_at hin2 0 (by omega)
  clear hb hk2 hin2 C
  go_wp2
  go_loopg [6, 7] D (fun g a b wr => ∃ t : Nat, t ≤ D ∧ g = D - t ∧ a = .int .i64 (t : Int) ∧ b = .int .i64 ((D : Int) - 1 - (t : Int)) ∧ N % 10 ^ t = 0 ∧ w2 = wr)
  case atStart => exact ⟨0, Nat.zero_le _, rfl, rfl, by simp, by simp [Nat.mod_one], rfl⟩
  case round =>
    obtain ⟨t, ht, rfl, rfl, rfl, hmod, rfl⟩ := hrel
    have HM := Lib.hid hmod
    clear hmod
    have e0 : ((D : Int) - (t : Int)).toNat = D - t := by omega
    by_cases hlt : t < D
    · have e1 : ((D : Int) - 1 - (t : Int)).toNat = D - 1 - t := by omega
      have j1 : (0 : Int) ≤ (D : Int) - 1 - (t : Int) := by omega
      have cc : w2.cell? ⟨g, 1 + (D - 1 - t), none⟩ = some (.int .u8 ((48 + N / 10 ^ t % 10 : Nat) : Int)) := by
        have h := bin_at HIN.out (1 + (D - 1 - t)) (by omega)
        rw [Nat.zero_add] at h
        rw [h, show (45 :: digI N D).getD (1 + (D - 1 - t)) 0 = (digI N D).getD (D - 1 - t) 0 by rw [Nat.add_comm]; rfl, digI_at N D (D - 1 - t) (by omega), show D - 1 - (D - 1 - t) = t by omega]
      by_cases hz : N / 10 ^ t % 10 = 0
      · have HZ := Lib.hid hz
        rw [hz] at cc
        have cc' : w2.cell? ⟨g, 1 + (D - 1 - t), none⟩ = some (.int .u8 48) := cc
        clear cc hz
        go_wp2
        go_roundg (D - (t + 1))
        case measure => omega
        case rel =>
          first | exact ⟨t + 1, by omega, rfl, by simp, by congr 1; omega, mod_pow_succ HM.out HZ.out, rfl⟩ | ((repeat apply Exists.intro); exact ⟨⟨t + 1, by omega, rfl, by simp, by congr 1; omega, mod_pow_succ HM.out HZ.out, rfl⟩, rfl⟩)
      · have HZ := Lib.hid hz
        obtain ⟨y, hy⟩ : ∃ y : Int, ((48 + N / 10 ^ t % 10 : Nat) : Int) = y := ⟨_, rfl⟩
        rw [hy] at cc
        have y1 : (y == 48) = false := by
          simp
          omega
        have hlen : ((digI N D).take (D - t)).length = D - t := by
          rw [List.length_take, digI_length]
          omega
        have hdg : ∀ x ∈ (digI N D).take (D - t), IsDigit x := fun x hx => digI_digit N D x (List.mem_of_mem_take hx)
        have hin3 : Lib.BytesIn w2 (some ⟨g, 1, none⟩) (D - t) ((digI N D).take (D - t)) := by
          have h := bin_sub HIN.out 1 (D - t) (by omega)
          simpa using h
        have CT := Lib.hid (fun cp => toNumber_any (some ⟨g, 1, none⟩) (D - t) cp ((digI N D).take (D - t)) true ((D : Int) - 1) w2 hin3 hlen (by omega) (by omega) hdg (by omega) (by omega))
        clear hy hz hlen hdg hin3
        go_wp2_with fail
        refine (CT.out _).mono ?_
        rintro e w3 ⟨v, rfl, hown, hk⟩
        go_wp2
        go_ret
        refine ⟨v, _, rfl, own_base hown HK2.out.size, HK2.out.trans hk, Or.inr ⟨t, ?_, ?_, ?_, ?_, ?_⟩⟩
        · rw [HNA.out]; rcases Nat.eq_zero_or_pos N with h | h
          · exfalso
            apply HZ.out
            rw [h]
            simp
          · exact h
        · rw [HNA.out, ← HDD.out]; exact hlt
        · rw [HNA.out]; exact HM.out
        · rw [HNA.out]; exact HZ.out
        · rw [HNA.out, ← HDD.out, HNG.out, ← digI_take N D t ht]
    · have q0 : t = D := by omega
      subst q0
      have j1 : ¬ (0 : Int) ≤ (t : Int) - 1 - (t : Int) := by omega
      have q1 : ((t : Int) - (t : Int)) = 0 := by omega
      have HN0 := Lib.hid (eq_zero_of_mod HM.out HLT.out)
      clear e0
      go_wp2_with fail
      refine (toNumber_none _ _ _ _ _).mono ?_
      rintro e w3 ⟨v, rfl, hown, hk⟩
      go_wp2
      go_ret
      exact ⟨v, [128], rfl, own_base hown HK2.out.size, HK2.out.trans hk, Or.inl ⟨by have := HNA.out; have := HN0.out; omega, rfl⟩⟩
end Go.Proofs.YtcdbnjhkjfimkaaDoor
