/-
  ConfigPlain and configServers: servers with short addresses of ASCII characters.
-/
import Derived.Test.YtmojecgmneodlaaDoorCfg1
import Derived.Laws.IdiomStrings
namespace Go.Proofs.YtmojecgmneodlaaDoor
open Go Go.RowKit

def plainL (l : List UInt8) : Bool := l.all fun b => decide (b.toNat < 128)
theorem plainL_iff (l : List UInt8) : plainL l = true ↔ ∀ b ∈ l, b.toNat < 128 := by simp [plainL]
theorem bytes_cell (w : World) (s : ByteArray) (c : Nat) (e : TypeId) (m : Nat × Nat) (i : Nat) (hi : i < s.size) : (w.drew.alloc (.cells (bytesRow s c) e m)).cell? ⟨w.heap.size, i, none⟩ = some (.int .u8 ((s.data.toList.getD i 0).toNat : Int)) := by
  have h := cell_of_row (w.drew.alloc (.cells (bytesRow s c) e m)) w.heap.size i (bytesRow s c) e m (heap_alloc_new w.drew _)
  rw [h, bytesRow_at s c i hi]
  have hl : i < s.data.toList.length := hi
  rw [List.getD_eq_getElem?_getD, List.getElem?_eq_getElem hl, Option.getD_some]
  rfl
set_option maxRecDepth 100000 in
set_option maxHeartbeats 1000000 in
theorem plain_any (s : ByteArray) (w : World) (hs : s.size ≤ 300) :
    Calls Tryd.prog 40 #[.string s] w fun e w' => e = .returned (.bool (plainL s.data.toList)) ∧ Kp w w' := by
  have i0 : (s.size : Int) ≤ 300 := by omega
  have HC := Lib.hid (fun c e m i hi => bytes_cell w s c e m i hi)
  have HL := Lib.hid (show s.data.toList.length = s.size from rfl)
  clear hs
  go_enter Tryd.func40, Tryd.ntmps40
  go_wp2_with fail
  rw [run_bytes_of_string w 9 33 5 s Tryd.underlying9 Tryd.underlying33 Tryd.underlying5]
  simp only [Result.andThen]
  rw [Oper.upon_value]
  generalize hX : w.drew.alloc (.cells (bytesRow s (grownCap w s.size 0 5)) 5 ((bytesRow s (grownCap w s.size 0 5)).size, (bytesRow s (grownCap w s.size 0 5)).size + 1)) = X
  have HK := Lib.hid (show Kp w X from hX ▸ (Kp.refl w).drew.alloc _)
  have HX := Lib.hid (fun i hi => (hX ▸ HC.out _ _ _ i hi : X.cell? ⟨w.heap.size, i, none⟩ = some (.int .u8 ((s.data.toList.getD i 0).toNat : Int))))
  clear hX HC
  go_wp2_with fail
  go_loopg [8] s.size (fun G st wr => ∃ k : Nat, G = s.size - k ∧ k ≤ s.size ∧ st = .int .i64 (k : Int) ∧ plainL (s.data.toList.take k) = true ∧ X = wr)
  case atStart => exact ⟨0, rfl, Nat.zero_le _, rfl, rfl, rfl⟩
  case round =>
    obtain ⟨k, rfl, hk, rfl, hp, rfl⟩ := hrel
    have HP := Lib.hid hp
    have HKN := Lib.hid hk
    have j0 : (0 : Int) ≤ (k : Int) := by omega
    have j1 : (k : Int) ≤ (s.size : Int) := by omega
    clear hp hk
    by_cases hlt : k < s.size
    · have j2 : (k : Int) < (s.size : Int) := by omega
      have d0 := HX.out k hlt
      have HLT := Lib.hid hlt
      obtain ⟨c, hc⟩ : ∃ c, c = s.data.toList.getD k 0 := ⟨_, rfl⟩
      have HCE := Lib.hid (show s.data.toList.take (k + 1) = s.data.toList.take k ++ [c] from by
        rw [List.take_succ_eq_append_getElem (by rw [HL.out]; exact hlt), hc, List.getD_eq_getElem?_getD, List.getElem?_eq_getElem (by rw [HL.out]; exact hlt)]; rfl)
      have HMEM := Lib.hid (show c ∈ s.data.toList from by
        rw [hc, List.getD_eq_getElem?_getD, List.getElem?_eq_getElem (by rw [HL.out]; exact hlt)]; exact List.getElem_mem _)
      rw [← hc] at d0
      clear hlt hc
      obtain ⟨x, hx⟩ : ∃ x, x = c.toNat := ⟨_, rfl⟩
      rw [← hx] at d0
      have x0 : (0 : Int) ≤ (x : Int) := by omega
      have x1 : (x : Int) < 256 := by have := c.toNat_lt; omega
      have HXE := Lib.hid hx
      clear hx
      by_cases h3 : x < 128
      · have j4 : (x : Int) < 128 := by omega
        have H3 := Lib.hid h3
        clear h3
        go_wp2_with fail
        go_roundg (s.size - (k + 1))
        case measure => have := HLT.out; omega
        case rel => exact ⟨k + 1, rfl, HLT.out, by go_num, by
          rw [HCE.out, plainL_iff]
          intro b hb
          rcases List.mem_append.1 hb with hb | hb
          · exact (plainL_iff _).1 HP.out b hb
          · simp only [List.mem_cons, List.not_mem_nil, or_false] at hb
            have := HXE.out
            have := H3.out
            subst hb
            omega, rfl⟩
      · have j4 : (128 : Int) ≤ (x : Int) := by omega
        have H3 := Lib.hid h3
        clear h3
        go_wp2_with fail
        go_ret
        refine ⟨?_, HK.out⟩
        have e : plainL s.data.toList = false := by
          cases h : plainL s.data.toList
          · rfl
          · exact absurd ((plainL_iff _).1 h c HMEM.out) (by have := HXE.out; have := H3.out; omega)
        rw [e]; rfl
    · obtain rfl : k = s.size := by have := HKN.out; omega
      clear hlt
      go_wp2_with fail
      go_ret
      refine ⟨?_, HK.out⟩
      have := HP.out
      rw [List.take_of_length_le (by rw [HL.out]; exact Nat.le_refl _)] at this
      rw [this]; rfl

/-- Servers as they lie in memory. -/
def SrvAt (w : World) (b n : Nat) (PR AD : Nat → ByteArray) (PO : Nat → Int) : Prop := ∀ r, r < n → w.cell? ⟨b, r * 3, none⟩ = some (.string (PR r)) ∧ w.cell? ⟨b, r * 3 + 1, none⟩ = some (.string (AD r)) ∧ w.cell? ⟨b, r * 3 + 2, none⟩ = some (.int .i64 (PO r)) ∧ (PR r).size ≤ maxLen ∧ (AD r).size ≤ maxLen
theorem SrvAt.kp {w w' : World} {b n : Nat} {PR AD : Nat → ByteArray} {PO : Nat → Int} (h : SrvAt w b n PR AD PO) (hk : Kp w w') : SrvAt w' b n PR AD PO := fun r hr => by
  obtain ⟨h1, h2, h3, h4⟩ := h r hr
  exact ⟨below_some hk h1, below_some hk h2, below_some hk h3, h4⟩
def srvOk (pr ad : ByteArray) : Bool := (decide (ad.size ≤ 300) && decide (pr.size ≤ 300)) && plainL ad.data.toList
def srvL (PR AD : Nat → ByteArray) : Nat → Bool
  | 0 => true
  | k + 1 => srvL PR AD k && srvOk (PR k) (AD k)
theorem srvL_no (PR AD : Nat → ByteArray) (k : Nat) (h : srvOk (PR k) (AD k) = false) : ∀ n, k < n → srvL PR AD n = false
  | 0, hk => by omega
  | n + 1, hk => by
    by_cases e : k = n
    · subst e; simp [srvL, h]
    · simp [srvL, srvL_no PR AD k h n (by omega)]
theorem srvL_at (PR AD : Nat → ByteArray) : ∀ n, srvL PR AD n = true → ∀ r, r < n → srvOk (PR r) (AD r) = true
  | 0, _, r, hr => by omega
  | n + 1, h, r, hr => by
    simp only [srvL, Bool.and_eq_true] at h
    by_cases e : r = n
    · rw [e]; exact h.2
    · exact srvL_at PR AD n h.1 r (by omega)
set_option maxRecDepth 100000 in
set_option maxHeartbeats 2000000 in
theorem configServers_any (b n c : Nat) (PR AD : Nat → ByteArray) (PO : Nat → Int) (w : World) (h : SrvAt w b n PR AD PO) (hn : n ≤ 100) :
    Calls Tryd.prog 11 #[.slice (some ⟨b, 0, none⟩) n c] w fun e w' => e = .returned (.bool (srvL PR AD n)) ∧ Kp w w' := by
  have i0 : (n : Int) ≤ 100 := by omega
  have H := Lib.hid h
  clear h hn
  go_enter Tryd.func11, Tryd.ntmps11
  go_wp2_with fail
  go_loopg [10] n (fun G st wr => ∃ k : Nat, G = n - k ∧ k ≤ n ∧ st = .int .i64 (k : Int) ∧ srvL PR AD k = true ∧ Kp w wr)
  case atStart => exact ⟨0, rfl, Nat.zero_le _, rfl, rfl, Kp.refl w⟩
  case round =>
    obtain ⟨k, rfl, hk, rfl, hs, hkp⟩ := hrel
    have HS := Lib.hid hs
    have HK := Lib.hid hkp
    have HKN := Lib.hid hk
    have j0 : (0 : Int) ≤ (k : Int) := by omega
    have j1 : (k : Int) ≤ (n : Int) := by omega
    clear hs hkp hk
    by_cases hlt : k < n
    · have j2 : (k : Int) < (n : Int) := by omega
      obtain ⟨d0, d1, d2, m0, m1⟩ := H.out.kp HK.out k hlt
      have HLT := Lib.hid hlt
      have HNO := Lib.hid (fun h => srvL_no PR AD k h n hlt)
      have HYE := Lib.hid (fun (h : srvOk (PR k) (AD k) = true) => (show srvL PR AD (k + 1) = true by simp [srvL, HS.out, h]))
      clear hlt
      generalize PR k = pr at d0 m0 HNO HYE
      generalize AD k = ad at d1 m1 HNO HYE
      generalize PO k = po at d2
      have HM := Lib.hid (And.intro m1 m0)
      clear m0 m1
      go_wp2_with fail
      generalize hX : (wr.alloc (.cells #[.string pr, .string ad, .int .i64 po] 27)).alloc (.cells #[.string ad, .string pr] 9) = X
      obtain ⟨sb, hsb⟩ : ∃ sb, sb = wr.heap.size := ⟨_, rfl⟩
      have hB2 : Blk X (sb + 1) 9 #[.string ad, .string pr] := by rw [hsb, ← hX]; exact Blk.new2 wr _ _ _
      have HB1 := Lib.hid (show Blk X sb 27 #[.string pr, .string ad, .int .i64 po] from by rw [hsb, ← hX]; exact (Blk.new wr _ _).alloc _)
      have HKX := Lib.hid (show Kp wr X from hX ▸ ((Kp.refl wr).alloc _).alloc _)
      have CSH := Lib.hid (configShort_any (sb + 1) 2 2 (fun r => if r = 0 then ad else pr) X (fun r hr => by
        rcases (show r = 0 ∨ r = 1 by omega) with rfl | rfl
        · exact hB2.cell 0
        · exact hB2.cell 1) (fun r _ => by show (if r = 0 then ad else pr).size ≤ maxLen; split; exact HM.out.1; exact HM.out.2) (by omega))
      have HSE := Lib.hid (show shortL (fun r => if r = 0 then ad else pr) 2 = (decide (ad.size ≤ 300) && decide (pr.size ≤ 300)) from by simp [shortL])
      rw [HSE.out] at CSH
      rw [← hsb]
      clear hX hsb hB2 d0 d1 d2
      refine CSH.out.mono ?_
      rintro e wx ⟨rfl, rfl⟩
      clear CSH
      cases hsh : (decide (ad.size ≤ 300) && decide (pr.size ≤ 300))
      · have HOK := Lib.hid (show srvOk pr ad = false from by simp [srvOk, hsh])
        clear hsh
        go_wp2_with fail
        go_ret
        exact ⟨by rw [HNO.out HOK.out]; rfl, HK.out.trans HKX.out⟩
      · have HSH := Lib.hid hsh
        have u1 : X.cell? ⟨sb, 1, none⟩ = some (.string ad) := HB1.out.cell 1
        clear hsh
        go_wp2_with fail
        refine (plain_any ad _ (by have := HSH.out; simp at this; exact this.1)).mono ?_
        rintro e w3 ⟨rfl, hk3⟩
        have K3 := Lib.hid (HK.out.trans (HKX.out.trans hk3))
        clear hk3 u1
        cases hpl : plainL ad.data.toList
        · have HOK := Lib.hid (show srvOk pr ad = false from by simp [srvOk, hpl])
          clear hpl
          go_wp2_with fail
          go_ret
          exact ⟨by rw [HNO.out HOK.out]; rfl, K3.out⟩
        · have HOK := Lib.hid (show srvOk pr ad = true from by simp only [srvOk, hpl, HSH.out]; rfl)
          clear hpl
          go_wp2_with fail
          go_roundg (n - (k + 1))
          case measure => have := HLT.out; omega
          case rel => exact ⟨k + 1, rfl, HLT.out, by go_num, HYE.out HOK.out, K3.out⟩
    · obtain rfl : k = n := by have := HKN.out; omega
      clear hlt
      go_wp2_with fail
      go_ret
      exact ⟨by rw [HS.out]; rfl, HK.out⟩
end Go.Proofs.YtmojecgmneodlaaDoor
