/-
  urlParts, spec.ConfigOption.
-/
import Derived.Test.YtcdbnjhkjfimkaaDoorUrl9
namespace Go.Proofs.YtcdbnjhkjfimkaaDoor
open Go Go.RowKit

/-- Printable ASCII. -/
def printB (c : UInt8) : Bool := decide (32 ≤ c.toNat) && decide (c.toNat < 127)
theorem isSp_print (c : UInt8) (h : printB c = true) : Lib.isSp c = (c == 32) := by
  have h1 : 32 ≤ c.toNat := by simp [printB] at h; exact h.1
  have e : ∀ n : UInt8, n.toNat < 32 → (c == n) = false := fun n hn => by
    rw [beq_eq_false_iff_ne]; rintro rfl; omega
  simp only [Lib.isSp, e 9 (by decide), e 10 (by decide), e 11 (by decide), e 12 (by decide), e 13 (by decide), Bool.false_or]
theorem drop_print : ∀ (l : List UInt8), (∀ c ∈ l, printB c = true) → l.dropWhile Lib.isSp = trimL l
  | [], _ => rfl
  | c :: l, h => by
    have h1 := isSp_print c (h c List.mem_cons_self)
    have ih := drop_print l (fun b hb => h b (List.mem_cons_of_mem _ hb))
    rw [trimL] at ih ⊢
    rw [List.dropWhile, List.dropWhile, h1, ih]
theorem trimL_mem (l : List UInt8) : ∀ c ∈ trimL l, c ∈ l := fun _ hc => (List.dropWhile_sublist _).subset hc
theorem trimR_mem (l : List UInt8) : ∀ c ∈ trimR l, c ∈ l := fun c hc => by
  have := trimL_mem l.reverse c (by simpa [trimR] using hc)
  simpa using this
theorem trimB_mem (l : List UInt8) : ∀ c ∈ trimB l, c ∈ l := fun c hc => trimL_mem l c (trimR_mem _ c hc)
theorem trimSpace_print (l : List UInt8) (h : ∀ c ∈ l, printB c = true) : Lib.trimSpace l = trimB l := by
  rw [Lib.trimSpace, drop_print l h, drop_print _ (fun c hc => h c (trimL_mem l c (by simpa using hc)))]
  rfl
theorem splitC_mem : ∀ (l : List UInt8), ∀ x ∈ splitC l, ∀ c ∈ x, c ∈ l
  | [], x, hx, c, hc => by simp [splitC] at hx; subst hx; cases hc
  | b :: l, x, hx, c, hc => by
    have ih := splitC_mem l
    rw [splitC] at hx
    split at hx
    · rcases List.mem_cons.1 hx with rfl | hx
      · cases hc
      · exact List.mem_cons_of_mem _ (ih x hx c hc)
    · split at hx
      · rw [List.mem_singleton] at hx
        subst hx
        rw [List.mem_singleton] at hc
        subst hc; exact List.mem_cons_self
      · rename_i y t he
        rcases List.mem_cons.1 hx with rfl | hx
        · rcases List.mem_cons.1 hc with rfl | hc
          · exact List.mem_cons_self
          · exact List.mem_cons_of_mem _ (ih y (by rw [he]; exact List.mem_cons_self) c hc)
        · exact List.mem_cons_of_mem _ (ih x (by rw [he]; exact List.mem_cons_of_mem _ hx) c hc)
theorem kp_bytes (w : World) (e : TypeId) (s : ByteArray) : Kp w (Lib.bytesWorld w e s) :=
  ⟨rfl, rfl, rfl, by rw [Lib.bytesWorld_size]; omega, fun k hk => Lib.bytesWorld_at_old w e s k (by omega)⟩
/-- TrimSpace of printable ASCII. -/
theorem trimSpace_any (s : ByteArray) (w : World) (hs : s.size ≤ 1000) (hp : ∀ c ∈ s.data.toList, printB c = true) (ht : Lib.TabIs Tryd.prog w "strings.asciiSpace" .u8 Lib.asciiSpaceTab) :
    Calls Tryd.prog 119 #[.string s] w fun e w' => e = .returned (.string ⟨(trimB s.data.toList).toArray⟩) ∧ Kp w w' := by
  refine (Tryd.strings_TrimSpace s w (by omega) (fun j b hj => ?_) ht).mono ?_
  · have := hp b (List.mem_of_getElem? hj)
    simp [printB] at this
    omega
  · rintro e w' ⟨rfl, hw⟩
    rw [trimSpace_print _ hp]
    exact ⟨rfl, by rw [hw]; exact kp_bytes w _ s⟩
def PrintPost (s : ByteArray) (w : World) (e : Ending) (w' : World) : Prop := ∃ b : Bool, e = .returned (.bool b) ∧ (b = true → (∀ c ∈ s.data.toList, printB c = true) ∧ ∀ p ∈ splitC s.data.toList, trimB p ≠ []) ∧ Kp w w'
set_option maxRecDepth 100000 in
set_option maxHeartbeats 4000000 in
theorem urlParts_any (s : ByteArray) (w : World) (hs : s.size ≤ 300) :
    Calls Tryd.prog 39 #[.string s] w (PrintPost s w) := by
  have i0 : (s.size : Int) ≤ 300 := by omega
  have HC := Lib.hid (fun w1 c e m i hi => bytes_cell w1 s c e m i hi)
  have HL := Lib.hid (show s.data.toList.length = s.size from rfl)
  have CP := Lib.hid (fun w1 => configParts_any s w1 hs)
  have HS := Lib.hid hs
  clear hs
  go_enter Tryd.func39, Tryd.ntmps39
  go_wp2_with fail
  rw [run_bytes_of_string w 9 26 5 s Tryd.underlying9 Tryd.underlying26 Tryd.underlying5]
  simp only [Result.andThen]
  rw [Oper.upon_value]
  generalize hX : w.drew.alloc (.cells (bytesRow s (grownCap w s.size 0 5)) 5 ((bytesRow s (grownCap w s.size 0 5)).size, (bytesRow s (grownCap w s.size 0 5)).size + 1)) = X
  have HK := Lib.hid (show Kp w X from (hX ▸ (Kp.refl w).drew.alloc _))
  have HX := Lib.hid (fun i hi => (hX ▸ HC.out w _ _ _ i hi : X.cell? ⟨w.heap.size, i, none⟩ = some (.int .u8 ((s.data.toList.getD i 0).toNat : Int))))
  clear hX
  go_wp2_with fail
  go_loopg [8] s.size (fun G s8 wr => ∃ k : Nat, s.size - k = G ∧ k ≤ s.size ∧ s8 = .int .i64 (k : Int) ∧ (∀ c ∈ s.data.toList.take k, printB c = true) ∧ X = wr)
  case atStart => exact ⟨0, rfl, Nat.zero_le _, rfl, by simp, rfl⟩
  case round =>
    obtain ⟨k, rfl, hk, rfl, hall, rfl⟩ := hrel
    have HKN := Lib.hid hk
    have HALL := Lib.hid hall
    have j0 : (0 : Int) ≤ (k : Int) := by omega
    have j1 : (k : Int) ≤ (s.size : Int) := by omega
    clear hk hall
    by_cases hlt : k < s.size
    · have j2 : (k : Int) < (s.size : Int) := by omega
      have d0 := HX.out k hlt
      have HLT := Lib.hid hlt
      obtain ⟨c, hc⟩ : ∃ c, c = s.data.toList.getD k 0 := ⟨_, rfl⟩
      have HTK := Lib.hid (show s.data.toList.take (k + 1) = s.data.toList.take k ++ [c] from by
        rw [List.take_succ_eq_append_getElem (by rw [HL.out]; exact hlt)]
        have e : s.data.toList[k]'(by rw [HL.out]; exact hlt) = c := by rw [hc, List.getD_eq_getElem?_getD, List.getElem?_eq_getElem (by rw [HL.out]; exact hlt)]; rfl
        rw [e])
      rw [← hc] at d0
      obtain ⟨x, hx⟩ : ∃ x, x = c.toNat := ⟨_, rfl⟩
      have x0 : (0 : Int) ≤ (x : Int) := by omega
      have x1 : (x : Int) < 256 := by have := c.toNat_lt; omega
      have HXC := Lib.hid hx
      rw [← hx] at d0
      clear hlt hc hx
      by_cases h1 : x < 32
      · have e1 : decide ((x : Int) < 32) = true := by simp; omega
        go_wp2_with fail
        go_ret
        exact ⟨false, rfl, fun h => (by cases h), HK.out⟩
      · have e1 : decide ((x : Int) < 32) = false := by simp; omega
        by_cases h2 : x < 127
        · have e2 : decide ((127 : Int) ≤ (x : Int)) = false := by simp; omega
          have HP := Lib.hid (show printB c = true by simp [printB]; rw [← HXC.out]; omega)
          clear h1 h2
          go_wp2_with fail
          go_roundg (s.size - (k + 1))
          case measure => have := HLT.out; omega
          case rel => exact ⟨k + 1, rfl, HLT.out, by go_num, fun b hb => (by
            rw [HTK.out] at hb
            rcases List.mem_append.1 hb with hb | hb
            · exact HALL.out b hb
            · rw [List.mem_singleton.1 hb]; exact HP.out), rfl⟩
        · have e2 : decide ((127 : Int) ≤ (x : Int)) = true := by simp; omega
          clear h1 h2
          go_wp2_with fail
          go_ret
          exact ⟨false, rfl, fun h => (by cases h), HK.out⟩
    · obtain rfl : k = s.size := by have := HKN.out; omega
      clear hlt
      have HPR := Lib.hid (show ∀ c ∈ s.data.toList, printB c = true from by
        have h := HALL.out
        rwa [List.take_of_length_le (by rw [HL.out]; exact Nat.le_refl _)] at h)
      go_wp2_with fail
      refine (CP.out _).mono ?_
      rintro e w1 ⟨v, rfl, hrow, hk1⟩
      have HK1 := Lib.hid (HK.out.trans hk1)
      obtain ⟨g, cap, rfl⟩ : ∃ g cap, v = .slice (some ⟨g, 0, none⟩) ((splitC s.data.toList).map trimB).length cap := by
        rcases hrow.2 with ⟨_, h⟩ | ⟨g, cap, cur, h, _⟩
        · exact absurd (List.length_eq_zero_iff.1 h) (by simp [splitC_ne])
        · exact ⟨g, cap, h⟩
      have hsc := splitC_count s.data.toList
      obtain ⟨zs, hz⟩ : ∃ zs : List ByteArray, zs = ((splitC s.data.toList).map trimB).map fun l => ⟨l.toArray⟩ := ⟨_, rfl⟩
      have hzl : zs.length = ((splitC s.data.toList).map trimB).length := by rw [hz]; simp
      have HCON := Lib.hid (Tryd.slices_Contains_string g 0 ((splitC s.data.toList).map trimB).length cap zs ⟨#[]⟩ w1 (by rw [hzl]; exact Nat.le_refl _) (by simp; have := HL.out; have := HS.out; omega) (fun j hj => by
        have hh := hrow
        unfold StrRow at hh
        rw [Nat.zero_add, World.ownsRow.cellAt hh j (by rw [← hzl]; omega), strC, hz]
        rw [hz] at hj
        simp only [List.length_map] at hj
        simp [List.getD_eq_getElem?_getD, hj]))
      have HZ := Lib.hid hz
      rw [← hzl] at HCON ⊢
      rw [List.take_length] at HCON
      obtain ⟨b, hb⟩ : ∃ b, b = Lib.containsS zs ⟨#[]⟩ := ⟨_, rfl⟩
      have HB := Lib.hid hb
      rw [← hb] at HCON
      clear hrow hk1 hsc hz hzl hb
      go_wp2_with fail
      refine HCON.out.mono ?_
      rintro e w2 ⟨rfl, rfl⟩
      go_wp2_with fail
      go_ret
      refine ⟨!b, rfl, fun h => ⟨HPR.out, fun p hp he => ?_⟩, HK1.out⟩
      have hb : b = false := by simpa using h
      have hc : Lib.containsS zs ⟨#[]⟩ = true := (Lib.containsS_iff _ _).2 (by
        rw [HZ.out]
        exact List.mem_map.2 ⟨trimB p, List.mem_map.2 ⟨p, hp, rfl⟩, by rw [he]⟩)
      rw [← HB.out, hb] at hc
      cases hc
end Go.Proofs.YtcdbnjhkjfimkaaDoor
