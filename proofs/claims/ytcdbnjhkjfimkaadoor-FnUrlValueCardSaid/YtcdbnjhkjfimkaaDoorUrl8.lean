/-
  zzTrimRight and zzSplit.
-/
import Derived.Test.YtcdbnjhkjfimkaaDoorUrl7
import Derived.Test.YtcdbnjhkjfimkaaDoorSrv7
namespace Go.Proofs.YtcdbnjhkjfimkaaDoor
open Go Go.RowKit

/-- What zzTrimRight gives: a beginning, behind which stand the signs that are cut off. -/
def TrimPost (s : ByteArray) (w : World) (e : Ending) (w' : World) : Prop := ∃ k, k ≤ s.size ∧ e = .returned (.string (s.extract 0 k)) ∧ (∀ i, k ≤ i → i < s.size → s.data.toList.getD i 0 = 38) ∧ (k = 0 ∨ s.data.toList.getD (k - 1) 0 ≠ 38) ∧ Kp w w'
set_option maxRecDepth 100000 in
set_option maxHeartbeats 4000000 in
theorem zzTrimRight_any (s : ByteArray) (w : World) (hs : s.size ≤ 1000000) :
    Calls Tryd.prog 123 #[.string s, .string ⟨#[38]⟩] w (TrimPost s w) := by
  have i0 : (s.size : Int) ≤ 1000000 := by omega
  clear hs
  go_enter Tryd.func123, Tryd.ntmps123
  go_wp2_with fail
  go_loopg [5] s.size (fun G st wr => ∃ k : Nat, k = G ∧ k ≤ s.size ∧ st = .int .i64 (k : Int) ∧ (∀ i, k ≤ i → i < s.size → s.data.toList.getD i 0 = 38) ∧ Kp w wr)
  case atStart => exact ⟨s.size, rfl, Nat.le_refl _, rfl, fun i h1 h2 => by omega, Kp.refl w⟩
  case round =>
    obtain ⟨k, rfl, hk, rfl, hall, hkw⟩ := hrel
    have HKN := Lib.hid hk
    have HALL := Lib.hid hall
    have HKW := Lib.hid hkw
    have j0 : (0 : Int) ≤ (k : Int) := by omega
    have j1 : (k : Int) ≤ (s.size : Int) := by omega
    clear hall hkw
    by_cases h0 : k = 0
    · subst h0
      clear hk
      go_wp2_with fail
      go_ret
      exact ⟨0, Nat.zero_le _, by show Ending.returned (.string _) = _; congr 2; exact (ByteArray.ext (by simp)), HALL.out, .inl rfl, HKW.out⟩
    · have j2 : (0 : Int) < (k : Int) := by omega
      have j3 : (1 : Int) ≤ (k : Int) := by omega
      have j4 : ((k : Int) - 1).toNat = k - 1 := by omega
      have hlt : k - 1 < s.size := by omega
      have HLT := Lib.hid hlt
      have HK0 := Lib.hid h0
      obtain ⟨c, hc⟩ : ∃ c, c = s.data.toList.getD (k - 1) 0 := ⟨_, rfl⟩
      have HC := Lib.hid hc
      have hgd : (s[k - 1]'hlt) = c := by
        rw [hc, List.getD_eq_getElem?_getD, List.getElem?_eq_getElem (show k - 1 < s.data.toList.length from hlt)]; rfl
      obtain ⟨x, hx⟩ : ∃ x, (s[k - 1]'hlt).toNat = x := ⟨_, rfl⟩
      have hxc : x = c.toNat := by rw [← hx, hgd]
      obtain ⟨b, hb⟩ : ∃ b : Bool, ((((⟨#[38]⟩ : ByteArray)[0]'(by decide)).toNat : Int) == (x : Int)) = b := ⟨_, rfl⟩
      have hcb : b = true ↔ c = 38 := by
        rw [← hb, beq_iff_eq, hxc]
        constructor
        · intro h
          have h' : (38 : Int) = (c.toNat : Int) := h
          exact UInt8.toNat_inj.1 (by show c.toNat = 38; omega)
        · rintro rfl; rfl
      have HCB := Lib.hid hcb
      clear hc hgd h0 hk hxc hcb
      obtain ⟨wo, rfl⟩ : ∃ wo : World, wo = wr := ⟨_, rfl⟩
      cases b
      · have HN : ¬ (s.data.toList.getD (k - 1) 0 = 38) := fun h => by have := HCB.out.2 (by rw [HC.out]; exact h); cases this
        have HN := Lib.hid HN
        go_wp2_with fail
        go_loopg [6, 7] 1 (fun G s6 s7 wr => ∃ j : Nat, 1 - j = G ∧ s7 = .int .i64 (j : Int) ∧ s6 = .bool false ∧ j ≤ 1 ∧ Kp wo wr)
        case atStart => exact ⟨0, rfl, rfl, rfl, Nat.zero_le _, Kp.refl _⟩
        case round =>
          obtain ⟨j, rfl, rfl, rfl, hj, hkw⟩ := hrel
          have HKW2 := Lib.hid hkw
          clear hkw
          rcases (show j = 0 ∨ j = 1 by omega) with rfl | rfl
          · clear hj
            go_wp2_with fail
            go_quiet (fail)
            go_wp2_with fail
            go_roundg 0
            case measure => omega
            case rel => exact ⟨1, rfl, rfl, rfl, Nat.le_refl _, HKW2.out.drewN _⟩
          · clear hj
            go_wp2_with fail
            go_ret
            exact ⟨k, HKN.out, rfl, HALL.out, .inr HN.out, HKW.out.trans HKW2.out⟩
      · have HY : s.data.toList.getD (k - 1) 0 = 38 := by rw [← HC.out]; exact HCB.out.1 rfl
        have HY := Lib.hid HY
        go_wp2_with fail
        go_loopg [6, 7] 1 (fun G s6 s7 wr => ∃ j : Nat, 1 - j = G ∧ s7 = .int .i64 (j : Int) ∧ s6 = .bool (decide (j = 1)) ∧ j ≤ 1 ∧ Kp wo wr)
        case atStart => exact ⟨0, rfl, rfl, rfl, Nat.zero_le _, Kp.refl _⟩
        case round =>
          obtain ⟨j, rfl, rfl, rfl, hj, hkw⟩ := hrel
          have HKW2 := Lib.hid hkw
          clear hkw
          rcases (show j = 0 ∨ j = 1 by omega) with rfl | rfl
          · clear hj
            go_wp2_with fail
            go_quiet (fail)
            go_wp2_with fail
            go_roundg 0
            case measure => omega
            case rel => exact ⟨1, rfl, rfl, rfl, Nat.le_refl _, HKW2.out.drewN _⟩
          · clear hj
            go_wp2_with fail
            go_roundg (k - 1)
            case measure => have := HLT.out; omega
            case rel => exact ⟨k - 1, rfl, by omega, by congr 1; omega, (fun i h1 h2 => by
              rcases Nat.lt_or_ge i k with h | h
              · obtain rfl : i = k - 1 := by omega
                exact HY.out
              · exact HALL.out i h h2), HKW.out.trans HKW2.out⟩

/-- The parts of a text between commas. -/
def splitC : List UInt8 → List (List UInt8)
  | [] => [[]]
  | c :: l => if c = 44 then [] :: splitC l else match splitC l with
    | [] => [[c]]
    | h :: t => (c :: h) :: t
theorem splitC_none : ∀ l : List UInt8, (44 : UInt8) ∉ l → splitC l = [l]
  | [], _ => rfl
  | c :: l, h => by
    have h1 : ¬ c = 44 := fun e => h (by rw [e]; exact List.mem_cons_self)
    have h2 : (44 : UInt8) ∉ l := fun e => h (List.mem_cons_of_mem _ e)
    rw [splitC, if_neg h1, splitC_none l h2]
theorem splitC_at : ∀ (l : List UInt8) (n : Nat), n < l.length → l.getD n 0 = 44 → (44 : UInt8) ∉ l.take n → splitC l = l.take n :: splitC (l.drop (n + 1))
  | [], n, h, _, _ => absurd h (Nat.not_lt_zero _)
  | c :: l, 0, _, h, _ => by
    have h1 : c = 44 := h
    rw [splitC, if_pos h1]; rfl
  | c :: l, n + 1, h, h1, h2 => by
    rw [List.take_succ_cons] at h2
    have h3 : ¬ c = 44 := fun e => h2 (by rw [e]; exact List.mem_cons_self)
    rw [splitC, if_neg h3, splitC_at l n (by simpa using h) h1 (fun e => h2 (List.mem_cons_of_mem _ e))]
    rfl
def strC (L : List (List UInt8)) : List Value := L.map fun l => .string ⟨l.toArray⟩
theorem strC_snoc (L : List (List UInt8)) (x : List UInt8) : strC (L ++ [x]) = strC L ++ [.string ⟨x.toArray⟩] := by simp [strC]
theorem infoStr : (Tryd.prog.info? 9).map (fun i => (i.zero, i.size, i.bytes)) = some (some (.string ByteArray.empty), 1, 16) := by kernel_rfl
/-- A row of texts. -/
def StrRow (w : World) (base : Nat) (v : Value) (L : List (List UInt8)) : Prop := w.ownsRow base 9 1 v L.length (strC L)
theorem ext_list (s : ByteArray) (i : Nat) : (s.extract 0 i) = ⟨(s.data.toList.take i).toArray⟩ := by
  apply Go.WideShapes.bytes_inj
  rw [Lib.extract_data]
  simp
theorem drop_list (s : ByteArray) (i : Nat) : (s.extract i s.size).data.toList = s.data.toList.drop i := by
  rw [Lib.extract_data]
  exact List.take_of_length_le (by rw [List.length_drop]; exact Nat.le_refl _)
theorem mk_list (s : ByteArray) : (⟨s.data.toList.toArray⟩ : ByteArray) = s := by
  apply Go.WideShapes.bytes_inj
  simp
/-- append of one text. -/
theorem str_add {w wr : World} {v : Value} {L : List (List UInt8)} (W : World) (h : StrRow wr w.heap.size v L) (h0 : Kp w wr) (hk : Kp wr W) (hn : L.length ≤ 100000) (s : ByteArray) (x : List UInt8) (hx : s = ⟨x.toArray⟩) :
    ∃ v1 w5, (Builtin.append_ #[74, 74] 74 #[v, .slice (some ⟨W.heap.size, 0, none⟩) 1 1]).run Tryd.prog (W.alloc (.cells #[.string s] 9)) = .ok v1 w5 ∧ StrRow w5 w.heap.size v1 (L ++ [x]) ∧ Kp w w5 := by
  obtain ⟨v1, w5, r1, r2, r3, r4⟩ := app_one Tryd.underlying74 infoStr rfl (by decide) (by decide) W w.heap.size v _ _ (own_below h hk) (h0.trans hk).size (by omega) [.string s] rfl (fun u hu => by rw [List.mem_singleton.1 hu]; rfl)
  refine ⟨v1, w5, r1, ?_, (h0.trans hk).grown r3 (own_ge h)⟩
  have e : (L ++ [x]).length = L.length + 1 := by simp
  show w5.ownsRow _ _ _ _ (L ++ [x]).length (strC (L ++ [x]))
  rw [e, strC_snoc, ← hx]
  exact r2
def SplitSt (S : List UInt8) (w : World) (r : ByteArray) (vo : Value) (wr : World) : Prop := ∃ xs, StrRow wr w.heap.size vo xs ∧ splitC S = xs ++ splitC r.data.toList ∧ xs.length + r.size ≤ S.length ∧ Kp w wr
def SplitPost (S : List UInt8) (w : World) (e : Ending) (w' : World) : Prop := ∃ v, e = .returned v ∧ StrRow w' w.heap.size v (splitC S) ∧ Kp w w'
set_option maxRecDepth 100000 in
set_option maxHeartbeats 4000000 in
theorem zzSplit_any (s : ByteArray) (w : World) (hs : s.size ≤ 1000) :
    Calls Tryd.prog 120 #[.string s, .string ⟨#[44]⟩] w (SplitPost s.data.toList w) := by
  have HS := Lib.hid hs
  have HL := Lib.hid (show s.data.toList.length = s.size from rfl)
  obtain ⟨T, hT⟩ : ∃ T, T = s.data.toList := ⟨_, rfl⟩
  have HT := Lib.hid (show SplitSt T w s (.slice none 0 0) w from ⟨[], World.ownsRow_nil _ _ _ _, by rw [hT]; rfl, by rw [hT, HL.out]; simp, Kp.refl w⟩)
  have HTL := Lib.hid (show T.length ≤ 1000 by rw [hT, HL.out]; exact hs)
  rw [← hT]
  clear hs hT
  go_enter Tryd.func120, Tryd.ntmps120
  go_wp2_with fail
  go_loopg [0, 5] s.size (fun G s0 s5 wr => ∃ (r : ByteArray) (vo : Value), r.size = G ∧ s0 = .string r ∧ vo = s5 ∧ SplitSt T w r vo wr)
  case atStart => exact ⟨s, _, rfl, rfl, rfl, HT.out⟩
  case round =>
    obtain ⟨r, vo, rfl, rfl, rfl, hst⟩ := hrel
    have HR := Lib.hid hst
    clear hst
    go_wp2_with fail
    refine (zzIndex_any r _ (by obtain ⟨xs, _, _, h, _⟩ := HR.out; have := HTL.out; omega)).mono ?_
    rintro e w1 ⟨i, rfl, hi, rfl⟩
    rcases hi with ⟨rfl, hn⟩ | ⟨n, rfl, hlt, hc, hnt⟩
    · obtain ⟨xs, g1, g2, g3, g4⟩ := HR.out
      have hx : splitC T = xs ++ [r.data.toList] := by rw [g2, splitC_none _ hn]
      have HX := Lib.hid hx
      obtain ⟨v1, w5, r1, r2, r3⟩ := str_add wr g1 g4 (Kp.refl _) (by have := HTL.out; omega) r r.data.toList (mk_list r).symm
      have H1 := Lib.hid r1
      have H2 := Lib.hid r2
      have H3 := Lib.hid r3
      clear r1 r2 r3 g1 g2 g3 g4 hx hn
      go_wp2_with (at_builtin; refine Lib.wpList_append_run _ rfl _ _ _ _ rfl _ _ rfl rfl _ _ H1.out ?_)
      go_ret
      exact ⟨v1, rfl, by rw [HX.out]; exact H2.out, H3.out⟩
    · obtain ⟨xs, g1, g2, g3, g4⟩ := HR.out
      have HX := Lib.hid (show splitC T = (xs ++ [r.data.toList.take n]) ++ splitC (r.data.toList.drop (n + 1)) by rw [g2, splitC_at _ n hlt hc hnt]; simp)
      have j0 : (0 : Int) ≤ (n : Int) := by omega
      have j1 : (n : Int) ≤ (r.size : Int) := by have : n < r.size := hlt; omega
      have j2 : (n : Int) < (r.size : Int) := by have : n < r.size := hlt; omega
      have j3 : (n : Int) + 1 ≤ (r.size : Int) := by omega
      have j4 : (r.size : Int) ≤ 1000 := by have := HTL.out; omega
      have j5 : ((n : Int) + 1).toNat = n + 1 := by omega
      have j6 : ((n : Int) < 0) = False := by simp
      have j7 : decide ((n : Int) < 0) = false := by simp
      have HLT := Lib.hid (show n < r.size from hlt)
      have HLN := Lib.hid (show xs.length + r.size ≤ T.length from g3)
      obtain ⟨v1, w5, r1, r2, r3⟩ := str_add wr g1 g4 (Kp.refl _) (by have := HTL.out; omega) (r.extract 0 n) (r.data.toList.take n) (ext_list r n)
      have H1 := Lib.hid r1
      have H2 := Lib.hid r2
      have H3 := Lib.hid r3
      clear r1 r2 r3 g1 g2 g3 g4 hlt hc hnt
      go_wp2_with (at_builtin; refine Lib.wpList_append_run _ rfl _ _ _ _ rfl _ _ rfl rfl _ _ H1.out ?_)
      go_roundg (r.size - (n + 1))
      case measure => have := HLT.out; omega
      case rel => exact ⟨_, v1, (by show (r.extract (n + 1) r.size).size = _; simp), rfl, rfl, _, H2.out, (by rw [HX.out, drop_list]), (by have := HLN.out; have := HLT.out; rw [List.length_append, List.length_singleton, ByteArray.size_extract]; omega), H3.out⟩
end Go.Proofs.YtcdbnjhkjfimkaaDoor
