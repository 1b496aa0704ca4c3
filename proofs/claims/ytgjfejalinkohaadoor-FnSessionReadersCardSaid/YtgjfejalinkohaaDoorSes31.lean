/-
  impl.SessionGet at one number that is torn.
-/
import Derived.Test.YtgjfejalinkohaaDoorSes30
import Derived.Test.YtgjfejalinkohaaDoorSes16
namespace Go.Proofs.YtgjfejalinkohaaDoor
open Go Go.RowKit

def zeroGot : List Value := [.bool false, .slice none 0 0, .slice none 0 0, .int .i64 0, .string { data := #[] }]
/-- One answer, and none at that. -/
def TornS (w : World) (e : Ending) (w' : World) : Prop := ∃ g cap q l d, e = .returned (.tuple #[.slice (some ⟨g, 0, none⟩) 1 cap, .slice q l d]) ∧ 1 ≤ cap ∧ cap ≤ maxLen ∧ (∀ j u, zeroGot[j]? = some u → w'.cell? ⟨g, j, none⟩ = some u) ∧ Kp w w'

set_option maxRecDepth 100000 in
set_option maxHeartbeats 8000000 in
theorem sessionGet_torn (p : Option Addr) (m cp : Nat) (xs : List Int) (a : Option Addr) (c : Nat) (s : GStep) (big : Bool) (w : World) (tp : TypeId) (ad : Addr) (hi : Lib.BytesIn w p m xs) (hx : xs.length = m) (hb : ∀ x ∈ xs, 0 ≤ x ∧ x < 256) (hm : m ≤ 1000000000) (h : GetsIn w a 1 (fun _ => s)) (hk : s.kind = 4 ∨ s.kind = 5) (ht : TornI s.size s.comp xs) (he : EndAt w tp ad) :
    Calls Tryd.prog 16 #[.slice p m cp, .slice a 1 c, .bool big] w (TornS w) := by
  have HP := Lib.hid h
  have HX := Lib.hid hx
  have HB := Lib.hid hb
  have HM := Lib.hid hm
  have HK := Lib.hid hk
  have HT := Lib.hid ht
  have HE := Lib.hid he
  have CL := Lib.hid (clone_any w p m cp xs hi hx (by omega))
  clear h hx hb hi hm hk ht he
  go_enter Tryd.func16, Tryd.ntmps16
  go_wp2_with fail
  refine CL.out.mono ?_
  rintro e w1 ⟨q1, d1, rfl, hown, hb1⟩
  have HO := Lib.hid hown
  have HB1 := Lib.hid hb1
  clear hown hb1 CL
  go_wp2_with fail
  refine (newSession_any _ _ ⟨_, _, _, rfl⟩).mono ?_
  rintro e w2 ⟨rfl, rfl⟩
  go_wp2_with fail
  generalize hW : w1.alloc (.cells #[.slice q1 m d1, .slice none 0 0, .int .i64 0, .int .i8 0, .int .i64 0, .bool big, .int .i64 64] 82) = W
  obtain ⟨g, hg⟩ : ∃ g, g = w1.heap.size := ⟨_, rfl⟩
  have HFR := Lib.hid (own_fresh HO.out)
  have HRS := Lib.hid (show RS W g q1 m d1 xs big 0 from
        { blk := by rw [hg, ← hW]; exact Blk.new w1 _ _
          inp := by rw [← hW]; exact bin_alloc (bin_of_own HO.out) _
          old := fun a ha => by
            subst ha
            rcases HO.out.2 with ⟨h, _⟩ | ⟨g', cap, cur, h, _⟩
            · cases h
            · injection h with h1
              injection h1 with h1
              subst h1
              exact ⟨g', 0, rfl, by rw [hg]; exact (HFR.out _ rfl).2⟩
          len := HX.out
          byt := HB.out
          le := Nat.zero_le _
          nc := own_cap HO.out
          nm := by have := HM.out; omega
          cm := by
            rcases HO.out.2 with ⟨h, _⟩ | ⟨_, _, _, h, _, _, _, hm, _⟩
            · injection h with _ _ h3; subst h3; decide
            · injection h with _ _ h3; omega
          nl := fun hq => by
            subst hq
            rcases HO.out.2 with ⟨h, _⟩ | ⟨_, _, _, h, _⟩
            · injection h
            · cases h })
  have HKW := Lib.hid (show Kp w W from by rw [← hW]; exact HB1.out.alloc HB1.out.size _)
  have HGW := Lib.hid (show w.heap.size ≤ g from by rw [hg]; exact HB1.out.size)
  rw [← hg]
  clear hW hg
  go_loopg [22, 9] 1 (fun G st v wr => G = 1 ∧ st = .int .i64 0 ∧ v = .slice none 0 0 ∧ W = wr)
  case atStart => exact ⟨rfl, rfl, rfl, rfl⟩
  case round =>
    obtain ⟨rfl, rfl, rfl, rfl⟩ := hrel
    obtain ⟨b, o, rfl, hc⟩ := (HP.out.kp HKW.out) 0 (by omega)
    have d0 : W.cell? ⟨b, o, none⟩ = some (.int .i64 s.kind) := hc 0 _ rfl
    have d1' : W.cell? ⟨b, o + 1, none⟩ = some (.int .i64 s.size) := hc 1 _ rfl
    have d2 : W.cell? ⟨b, o + 2, none⟩ = some (.bool s.big) := hc 2 _ rfl
    have d3 : W.cell? ⟨b, o + 3, none⟩ = some (.bool s.comp) := hc 3 _ rfl
    clear hc
    go_wp2_with fail
    have hk1 : Kp W (W.alloc (.cells #[.int .i64 (s.kind : Int), .int .i64 (s.size : Int), .bool s.big, .bool s.comp] 33)) := (Kp.refl W).alloc _
    refine (got_torn g q1 m d1 xs big 0 s.kind s.size s.big s.comp _ tp ad (HRS.out.kp hk1) (HE.out.kp (HKW.out.trans hk1)) HK.out HT.out).mono ?_
    rintro e w3 ⟨j, rfl, hrs3, hg3⟩
    have hg3' : W.grownBy w3 (some g) := grown_trans (grown_below hk1 _) hg3
    generalize hU : (w3.alloc (.cells #[.bool false, .slice none 0 0, .slice none 0 0, .int .i64 0, .string { data := #[] }] 39)).alloc (.cells #[.bool false, .slice none 0 0, .slice none 0 0, .int .i64 0, .string { data := #[] }] 39) = U
    have hkU : Kp w3 U := hU ▸ ((Kp.refl w3).alloc _).alloc _
    have hsU : U.heap.size = w3.heap.size + 2 := by rw [← hU]; simp
    obtain ⟨v', w5, happ, hown5, hg5, _⟩ := app_rec Tryd.underlying34 infoGot rfl (by decide) (by decide) U (g + 1) (.slice none 0 0) 0 [] (World.ownsRow_nil _ _ _ _) (w3.heap.size + 1) zeroGot (hU ▸ Blk.new2 w3 _ _ _) rfl (fun u hu => by simp only [zeroGot, List.mem_cons, List.not_mem_nil, or_false] at hu; rcases hu with rfl | rfl | rfl | rfl | rfl <;> rfl) (by omega) (by have := hrs3.blk.lt; omega)
    have hk5 : Kp U w5 := (Kp.refl U).grown hg5 (fun k hk => by simp [Value.ownBlock] at hk)
    have b5 : w5.cell? ⟨w3.heap.size, 0, none⟩ = some (.bool false) := by
      have : Blk U w3.heap.size 39 #[.bool false, .slice none 0 0, .slice none 0 0, .int .i64 0, .string { data := #[] }] := hU ▸ (Blk.new w3 _ _).alloc _
      exact (this.kp hk5).cell 0
    obtain ⟨gv, cap, rfl, hc1, hc2, _, _, hcell⟩ := own_form hown5 (by omega)
    have HAPP := Lib.hid (show (Builtin.append_ #[34, 34] 34 #[.slice none 0 0, .slice (some ⟨w3.heap.size + 1, 0, none⟩) 1 1]).run Tryd.prog ((w3.alloc (.cells #[.bool false, .slice none 0 0, .slice none 0 0, .int .i64 0, .string { data := #[] }] 39)).alloc (.cells #[.bool false, .slice none 0 0, .slice none 0 0, .int .i64 0, .string { data := #[] }] 39)) = .ok (.slice (some ⟨gv, 0, none⟩) 1 cap) w5 from by rw [hU]; exact happ)
    have HRS5 := Lib.hid ((hrs3.kp hkU).kp hk5)
    have HC5 := Lib.hid (And.intro hc1 (And.intro hc2 hcell))
    have HKP5 := Lib.hid (show Kp w w5 from ((HKW.out.grown hg3' (fun k hk => by injection hk with hk; have := HGW.out; omega)).trans hkU).trans hk5)
    clear hk1 hrs3 hg3 hg3' hU hkU hsU happ hown5 hg5 hk5 hc1 hc2 hcell d0 d1' d2 d3
    go_wp2_with (at_builtin; refine Lib.wpList_append_run _ rfl _ _ _ _ rfl _ _ rfl rfl _ _ HAPP.out ?_)
    refine (rest_any g q1 m d1 xs big j w5 HRS5.out).mono ?_
    rintro e w6 ⟨q3, l3, m3, nq, rfl, hl3, hin3, hw3⟩
    have HL3 := Lib.hid hl3
    have HIN3 := Lib.hid hin3
    have HW3 := Lib.hid hw3
    clear hl3 hin3 hw3
    go_wp2_with fail
    refine (clone_any w6 q3 l3 m3 (xs.drop j) HIN3.out HL3.out (by have h1 := HL3.out; have h2 := HX.out; have h3 := HM.out; rw [List.length_drop] at h1; omega)).mono ?_
    rintro e w4 ⟨q4, d4, rfl, hown, hb4⟩
    have HB4 := Lib.hid hb4
    clear hown hb4
    go_wp2_with fail
    go_ret2
    have hk4 : Kp w5 w4 := (show Kp w5 w6 by rw [HW3.out]; exact (Kp.refl w5).drewN nq).call HB4.out
    exact ⟨gv, cap, _, _, _, rfl, HC5.out.1, HC5.out.2.1, fun j u hu => below_some hk4 (HC5.out.2.2 j u hu), HKP5.out.trans hk4⟩
end Go.Proofs.YtgjfejalinkohaaDoor
