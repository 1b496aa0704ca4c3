/-
  bytes.Repeat of one byte.
-/
import Derived.Test.YtiahmmecekfjhaaDoorNum5
import Derived.Lib.SlBuf
import Derived.Lib.MakeNoZero
namespace Go.Proofs.YtiahmmecekfjhaaDoor
open Go Go.RowKit

/-- A buffer of the call's own whose first bytes are all x. -/
structure Fill (w wr : World) (K bp : Nat) (x : Int) : Prop where
  below : Kp w wr
  there : ∀ j, j < K → (wr.cell? ⟨w.heap.size, j, none⟩).isSome = true
  free : ∀ j, j < K → wr.frozen? ⟨w.heap.size, j, none⟩ = false
  holds : ∀ j, j < bp → wr.cell? ⟨w.heap.size, j, none⟩ = some (.int .u8 x)

theorem Fill.start (w : World) (cs : Array Value) (e : TypeId) (K q : Nat) (x : Int) (hK : K ≤ cs.size) : Fill w ((w.alloc (.cells cs e)).drewN q) K 0 x := by
  have h := Lib.Buf.start w cs e K q hK
  exact ⟨h.below, h.there, h.free, fun j hj => absurd hj (Nat.not_lt_zero _)⟩

theorem Fill.put {w wr : World} {K bp L : Nat} {x : Int} (h : Fill w wr K bp x) (hL : bp + L ≤ K) : Fill w (wr.setCells w.heap.size bp (List.replicate L (.int .u8 x))) K (bp + L) x := by
  have hin := World.cell?_setCells_in w.heap.size (List.replicate L (Value.int .u8 x)) bp wr (fun j hj => by rw [List.length_replicate] at hj; exact h.there _ (by omega))
  have hout := World.cell?_setCells_out w.heap.size (List.replicate L (Value.int .u8 x)) bp wr
  have hold : ∀ j, j < bp + L → (wr.setCells w.heap.size bp (List.replicate L (.int .u8 x))).cell? ⟨w.heap.size, j, none⟩ = some (.int .u8 x) := fun j hj => by
    by_cases h1 : j < bp
    · rw [hout ⟨w.heap.size, j, none⟩ (fun _ _ => Or.inl h1)]
      exact h.holds j h1
    · obtain ⟨d, rfl⟩ : ∃ d, j = bp + d := ⟨j - bp, by omega⟩
      rw [hin d (by rw [List.length_replicate]; omega)]
      simp
  refine ⟨Lib.below_setCells _ (Nat.le_refl _) _ _ h.below, fun j hj => ?_, fun j hj => by rw [World.frozen?_setCells]; exact h.free j hj, hold⟩
  by_cases h1 : j < bp + L
  · rw [hold j h1]
    rfl
  · rw [hout ⟨w.heap.size, j, none⟩ (fun _ _ => by rw [List.length_replicate]; exact Or.inr (by show bp + L ≤ j; omega))]
    exact h.there j hj

theorem Fill.drew {w wr : World} {K bp : Nat} {x : Int} (h : Fill w wr K bp x) : Fill w wr.drew K bp x := ⟨h.below.drew, h.there, h.free, h.holds⟩

theorem Fill.copy {w wr : World} {K bp : Nat} {x : Int} (h : Fill w wr K bp x) (g o n c : Nat) (hs : ∀ j, j < n → wr.cell? ⟨g, o + j, none⟩ = some (.int .u8 x)) (ty : TypeId) (hbp : bp ≤ K) :
    (Builtin.copy_ #[22, 22] ty #[.slice (some ⟨w.heap.size, bp, none⟩) (K - bp) (K - bp), .slice (some ⟨g, o, none⟩) n c]).run Tryd.prog wr = .ok (.int .i64 ((min n (K - bp) : Nat) : Int)) (wr.setCells w.heap.size bp (List.replicate (min n (K - bp)) (.int .u8 x))) := by
  have hr := run_copy_cells (P := Tryd.prog) wr 22 22 ty 5 w.heap.size bp (K - bp) (K - bp) ⟨g, o, none⟩ n c (List.replicate (min n (K - bp)) (.int .u8 x)) Tryd.underlying22 (by kernel_rfl) (by rw [List.length_replicate])
    (fun j v hj => by
      have hj1 : j < min n (K - bp) := by have := (List.getElem?_eq_some_iff.1 hj).1; rwa [List.length_replicate] at this
      rw [List.getElem?_replicate, if_pos hj1] at hj
      obtain rfl := Option.some.inj hj
      rw [Go.WideShapes.add_plain]
      exact hs j (by omega))
    (fun j hj => by rw [List.length_replicate] at hj; exact h.there _ (by omega)) (fun j hj => by rw [List.length_replicate] at hj; exact h.free _ (by omega))
    (fun v hv => by rw [(List.mem_replicate.1 hv).2]; rfl)
  rw [List.length_replicate] at hr
  exact hr

theorem bits_mul1 (K : Nat) (hK : K ≤ 255) (w : World) : Calls Tryd.prog 50 #[.int .u64 1, .int .u64 K] w fun e w' => e = .returned (.tuple #[.int .u64 0, .int .u64 K]) ∧ w' = w := by
  have h := Tryd.bits_Mul 1 K (by decide) (by omega) w
  rw [Nat.one_mul, Nat.div_eq_of_lt (by omega), Nat.mod_eq_of_lt (by omega)] at h
  exact h

set_option maxRecDepth 100000 in
set_option maxHeartbeats 2000000 in
theorem repeat1 (g c K : Nat) (x : Int) (w : World) (hc : w.cell? ⟨g, 0, none⟩ = some (.int .u8 x)) (h0 : 1 ≤ K) (h1 : K ≤ 255) :
    Calls Tryd.prog 44 #[.slice (some ⟨g, 0, none⟩) 1 c, .int .i64 K] w fun r w' => r = .returned (.slice (some ⟨w.heap.size, 0, none⟩) K K) ∧ Lib.BytesIn w' (some ⟨w.heap.size, 0, none⟩) K (List.replicate K x) ∧ Kp w w' := by
  have CM := Lib.hid (bits_mul1 K h1 w)
  have HC := Lib.hid hc
  have i0 : (1 : Int) ≤ (K : Int) := by omega
  have i1 : (K : Int) ≤ 255 := by omega
  have b0 : ((K : Int) == 0) = false := by
    simp
    omega
  obtain ⟨cs, hrunM, hle, _⟩ := Lib.run_makeNoZero (P := Tryd.prog) w #[3] 22 5 Tryd.underlying22 K (by omega)
  have hcall : (callFunc 51 #[.int .i64 (K : Int)]).run Tryd.prog w = .ok (.value (.slice (some ⟨w.heap.size, 0, none⟩) K cs.size)) ((w.alloc (.cells cs 5)).drewN 2) := by
    rw [run_callFunc_extern Tryd.func51 (by kernel_rfl) (by kernel_rfl) (by kernel_rfl) (e := Extern.BytealgMakeNoZero.makeNoZero #[3] #[22]) (by kernel_rfl), hrunM]
    rfl
  have HF0 := Lib.hid (Fill.start w cs 5 K 2 x hle)
  have i2 : (K : Int) ≤ (cs.size : Int) := by omega
  clear hrunM hc
  go_enter Tryd.func44, Tryd.ntmps44
  go_wp2_with fail
  refine CM.out.mono ?_
  rintro r w1 ⟨rfl, rfl⟩
  clear CM
  generalize hw2 : (w1.alloc (.cells cs 5)).drewN 2 = w2 at *
  have hcg := below_some HF0.out.below (a := ⟨g, 0, none⟩) (v := .int .u8 x) HC.out
  obtain ⟨w3, hr0, hf1⟩ : ∃ w3, (Builtin.copy_ #[22, 22] 3 #[.slice (some ⟨w1.heap.size, 0, none⟩) K K, .slice (some ⟨g, 0, none⟩) 1 c]).run Tryd.prog w2 = .ok (.int .i64 1) w3 ∧ Fill w1 w3 K 1 x := by
    have h := HF0.out.copy g 0 1 c (fun j hj => by rw [show j = 0 by omega]; exact hcg) 3 (Nat.zero_le _)
    have h2 := HF0.out.put (L := 1) (by omega)
    rw [Nat.sub_zero, Nat.min_eq_left h0] at h
    rw [Nat.zero_add] at h2
    exact ⟨_, h, h2⟩
  have HF1 := Lib.hid hf1
  have n0 : ¬ (9223372036854775807 : Int) < (K : Int) := by omega
  clear hcg hf1
  go_wp2_with fail
  go_loopg [10] (K - 1) (fun g' a wr => ∃ bp : Nat, 1 ≤ bp ∧ bp ≤ K ∧ g' = K - bp ∧ a = .int .i64 (bp : Int) ∧ Fill w1 wr K bp x)
  case atStart => exact ⟨1, Nat.le_refl _, h0, rfl, rfl, HF1.out⟩
  case round =>
    obtain ⟨bp, hb1, hbK, rfl, rfl, hf⟩ := hrel
    have HF := Lib.hid hf
    clear hf
    by_cases hlt : bp < K
    · have j0 : (bp : Int) < (K : Int) := by omega
      have j1 : (bp : Int) ≤ (K : Int) := by omega
      have j2 : (K = bp) = False := by simp; omega
      have j3 : (0 : Int) ≤ (bp : Int) := by omega
      have j4 : min (bp : Int) (K : Int) = (bp : Int) := by omega
      obtain ⟨L, hL⟩ : ∃ L, L = min bp (K - bp) := ⟨_, rfl⟩
      have hL1 : 1 ≤ L := by omega
      have hL2 : bp + L ≤ K := by omega
      obtain ⟨w4, hr, hf4⟩ : ∃ w4, (Builtin.copy_ #[22, 22] 3 #[.slice (some ⟨w1.heap.size, bp, none⟩) (K - bp) (K - bp), .slice (some ⟨w1.heap.size, 0, none⟩) bp K]).run Tryd.prog wr.drew = .ok (.int .i64 (L : Int)) w4 ∧ Fill w1 w4 K (bp + L) x := by
        have h := HF.out.drew.copy w1.heap.size 0 bp K (fun j hj => by rw [Nat.zero_add]; exact HF.out.drew.holds j hj) 3 hbK
        rw [← hL] at h
        exact ⟨_, h, HF.out.drew.put hL2⟩
      have HR := Lib.hid hr
      have HF4 := Lib.hid hf4
      have j5 : (bp : Int) + (L : Int) ≤ 255 := by omega
      clear hr hf4 hL
      go_wp2_with fail
      go_region_held3 (fun _ => True) (trivial)
        (first
          | (refine Lib.wp_copy_run _ _ _ 22 22 rfl _ _ rfl rfl HR.out ?_))
      all_goals
        go_wp2_with fail
        go_roundg (K - (bp + L))
        case measure => omega
        case rel =>
          have wb : IntKind.i64.wrap ((bp : Int) + (L : Int)) = ((bp + L : Nat) : Int) := by
            rw [IntKind.wrap_i64]
            omega
          first | exact ⟨bp + L, by omega, hL2, rfl, by rw [wb], HF4.out⟩ | ((repeat apply Exists.intro); exact ⟨⟨bp + L, by omega, hL2, rfl, by rw [wb], HF4.out⟩, rfl⟩)
    · obtain rfl : bp = K := by omega
      have j0 : ¬ (bp : Int) < (bp : Int) := by omega
      have hin : Lib.BytesIn wr (some ⟨w1.heap.size, 0, none⟩) bp (List.replicate bp x) := fun _ =>
        ⟨_, 0, rfl, fun i hi => by rw [Nat.zero_add, HF.out.holds i hi]; simp [List.getD, hi]⟩
      have HIN := Lib.hid hin
      clear hin
      go_wp2
      go_ret
      exact ⟨rfl, HIN.out, HF.out.below⟩

/-- What PKCS5Padding appends. -/
def padK (n B : Nat) : Nat := B - n % B
theorem padK_pos (n B : Nat) (h : 0 < B) : 1 ≤ padK n B ∧ padK n B ≤ B := by
  unfold padK
  have := Nat.mod_lt n h
  omega

set_option maxRecDepth 100000 in
set_option maxHeartbeats 600000 in
theorem padding_any (q : Option Addr) (n d : Nat) (xs : List Int) (B : Nat) (w0 w : World) (hk : Kp w0 w) (ho : w.ownsRow w0.heap.size 5 1 (.slice q n d) n (xs.map (Value.int .u8))) (hn : n ≤ 2000) (h0 : 1 ≤ B) (h1 : B ≤ 255) :
    Calls Tryd.prog 33 #[.slice q n d, .int .i64 B] w fun r w' => ∃ v, r = .returned v ∧ w'.ownsRow w0.heap.size 5 1 v (n + padK n B) ((xs ++ List.replicate (padK n B) (padK n B : Int)).map (Value.int .u8)) ∧ Kp w0 w' := by
  have HO := Lib.hid ho
  have HK := Lib.hid hk
  obtain ⟨hK1, hK2⟩ := padK_pos n B h0
  obtain ⟨m, hm⟩ : ∃ m, m = n % B := ⟨_, rfl⟩
  obtain ⟨K, hK⟩ : ∃ K, K = padK n B := ⟨_, rfl⟩
  have hmK : B - m = K := by rw [hK, hm]; rfl
  have hmB : m < B := by rw [hm]; exact Nat.mod_lt n h0
  rw [← hK] at hK1 hK2
  rw [← hK]
  have r0 : (n : Int) % (B : Int) = (m : Int) := by rw [hm]; rfl
  have r1 : (B : Int) - (m : Int) = (K : Int) := by omega
  have i0 : (n : Int) ≤ 2000 := by omega
  have i1 : (1 : Int) ≤ (B : Int) := by omega
  have i2 : (B : Int) ≤ 255 := by omega
  have i3 : (1 : Int) ≤ (K : Int) := by omega
  have i4 : (K : Int) ≤ 255 := by omega
  have b0 : ((B : Int) == 0) = false := by
    simp
    omega
  have CR := Lib.hid (fun w1 (h : w1.cell? ⟨w.heap.size, 0, none⟩ = some (.int .u8 (K : Int))) => repeat1 w.heap.size 1 K (K : Int) w1 h hK1 (by omega))
  clear ho hk hm hK hmK h0
  go_enter Tryd.func33, Tryd.ntmps33
  go_wp2_with fail
  have hc0 : (w.alloc (.cells #[.int .u8 (K : Int)] 5)).cell? ⟨w.heap.size, 0, none⟩ = some (.int .u8 (K : Int)) := bin_at (bin_new w [(K : Int)] 5) 0 (by simp)
  refine (CR.out _ hc0).mono ?_
  rintro r w1 ⟨rfl, hin, hk1⟩
  generalize (w.alloc (.cells #[.int .u8 (K : Int)] 5)).heap.size = g1 at hin ⊢
  have hk2 := ((Kp.refl w).alloc _).trans hk1
  obtain ⟨v1, w2, hrun, hov, hgr, _⟩ := run_append_bytes w1 w0.heap.size _ n xs (own_below HO.out hk2) _ K K (List.replicate K (K : Int)) hin (by simp) (by omega) ((HK.out.trans hk2).size)
  have H1 := Lib.hid hrun
  have HO1 := Lib.hid hov
  have HK1 := Lib.hid ((HK.out.trans hk2).grown hgr (own_ge HO.out))
  clear hrun hov hgr hin hk1 hk2 hc0 CR
  go_wp2_with (at_builtin; refine Lib.wpList_append_run _ rfl _ _ _ _ rfl _ _ rfl rfl _ _ H1.out ?_)
  go_ret
  exact ⟨v1, rfl, HO1.out, HK1.out⟩

set_option maxRecDepth 100000 in
set_option maxHeartbeats 2000000 in
theorem padded_any (p : Option Addr) (n c : Nat) (xs : List Int) (B : Nat) (w : World) (hi : Lib.BytesIn w p n xs) (hx : xs.length = n) (hn : n ≤ 2000) (h0 : 1 ≤ B) (h1 : B ≤ 255) :
    Calls Tryd.prog 18 #[.slice p n c, .int .i64 B] w fun r w' => ∃ g d, r = .returned (.slice (some ⟨g, 0, none⟩) (n + padK n B) d) ∧ n + padK n B ≤ d ∧ d ≤ maxLen ∧ Lib.BytesIn w' (some ⟨g, 0, none⟩) (n + padK n B) (xs ++ List.replicate (padK n B) (padK n B : Int)) ∧ Kp w w' := by
  have HI := Lib.hid hi
  have HX := Lib.hid hx
  have hK := padK_pos n B h0
  have CP := Lib.hid (fun q d w1 hk ho => padding_any q n d xs B w w1 hk ho hn h0 h1)
  generalize padK n B = K at *
  clear hi hx
  go_enter Tryd.func18, Tryd.ntmps18
  go_wp2_with fail
  refine (clone_any _ _ _ _ xs HI.out HX.out (by omega)).mono ?_
  rintro r w1 ⟨q, d, rfl, hown, hb⟩
  have HO := Lib.hid hown
  have HK := Lib.hid (show Kp w w1 from hb)
  clear hown hb
  go_wp2_with fail
  refine (CP.out _ _ _ HK.out HO.out).mono ?_
  rintro r w2 ⟨v, rfl, hown, hk⟩
  obtain ⟨g, d2, rfl, hd1, hd2, hin⟩ := own_pos hown (by omega)
  have HIN := Lib.hid hin
  have HK2 := Lib.hid hk
  clear hown hk hin CP
  go_wp2
  go_ret
  exact ⟨g, d2, rfl, hd1, hd2, HIN.out, HK2.out⟩
end Go.Proofs.YtiahmmecekfjhaaDoor
