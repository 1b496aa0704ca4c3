/-
  The reference's PacketData, PacketHeadOf; laws on packets of data.
-/
import Derived.Test.YtaohgebiedkdaaaDoorApp
import Derived.Test.YtaohgebiedkdaaaDoorSpecPut
import Derived.Test.YtaohgebiedkdaaaDoorSpecGet
import Derived.Test.YtaohgebiedkdaaaDoorRead2
namespace Go.Proofs.YtaohgebiedkdaaaDoor
open Go Go.RowKit

theorem headL_ten (long : Bool) (len : Int) : setAll (headL long len 6 0 10) 8 (be2 0) = headL long len 6 0 10 := by
  cases long <;> rfl

theorem dataL_eq (long : Bool) (len : Int) (xs : List Int) : dataL long len xs = headL long len 6 0 10 ++ xs := by
  rw [dataL, headL_ten]

set_option maxHeartbeats 2000000 in
set_option maxRecDepth 100000 in
theorem specData_any (c : Cx) (p : Option Addr) (n k : Nat) (xs : List Int) (w : World) (hi : Lib.BytesIn w p n xs) (hx : xs.length = n) (hm : n ≤ 100000) :
    Calls Tryd.prog 20 #[c.val, .slice p n k] w fun e w' => ∃ v, e = .returned v ∧ w'.ownsRow w.heap.size 5 1 v (10 + n) ((dataL c.long ((n : Int) + 10) xs).map (Value.int .u8)) ∧ Below w.heap.size w w' := by
  have HS := Lib.hid (fun w1 => specHead_any c 10 ((n : Int) + 10) 6 0 10 w1 rfl (by decide) (by decide) (by omega) (by omega))
  have HI := Lib.hid hi
  have HX := Lib.hid hx
  have HE := Lib.hid (dataL_eq c.long ((n : Int) + 10) xs)
  have hn0 : (0 : Int) ≤ ((n : Nat) : Int) := by omega
  have hn1 : ((n : Nat) : Int) ≤ 100000 := by omega
  have hsw : (10 : Int) + (n : Int) = (n : Int) + 10 := by omega
  have HSW := Lib.hid hsw
  clear hi hx hsw
  unfold Cx.val at *
  go_enter Tryd.func20, Tryd.ntmps20
  go_wp2_with fail
  rw [HSW.out]
  refine (HS.out _).mono ?_
  rintro e w1 ⟨g, rfl, ho, hb⟩
  have hb0 : Below w.heap.size w w1 := ((Below.refl w.heap.size w).alloc (Nat.le_refl _) _).trans (hb.mono (by simp))
  obtain ⟨v', w2, hrun, ho2, hg2, hor⟩ := run_append_bytes w1 _ _ 10 _ ho p n k xs (bin_below HI.out hb0) HX.out (by omega) (by simpa using hb.size)
  have HRun := Lib.hid hrun
  have HO2 := Lib.hid ho2
  have HB := Lib.hid hb0
  have HG := Lib.hid hg2
  have hgl := (own_lt ho).1
  clear hrun ho2 hb0 hg2 ho hb hor
  go_wp2_with (at_builtin; refine Lib.wpList_append_run _ rfl _ _ _ _ rfl _ _ rfl rfl _ _ HRun.out ?_)
  go_ret
  have hrow : ∀ k, (Value.slice (some ⟨g, 0, none⟩) 10 10).ownBlock = some k → w.heap.size ≤ k := fun k h => by
    have e : g = k := by simpa [Value.ownBlock] using h
    simp at hgl
    omega
  refine ⟨v', rfl, ?_, HB.out.grown HG.out HB.out.size hrow⟩
  rw [HE.out]
  exact own_base HO2.out (by simp)

/-- The length that stands at the beginning of a packet. -/
def lenOf (long : Bool) (xs : List Int) : Int := if long then g32 xs 0 else g16 xs 0

set_option maxHeartbeats 2000000 in
set_option maxRecDepth 100000 in
theorem headOfSpec_any (long : Bool) (b o n c : Nat) (off : Int) (xs : List Int) (w : World) (hc : ∀ i, i < n → w.cell? ⟨b, o + i, none⟩ = some (.int .u8 (xs.getD i 0))) (hx : xs.length = n) (hr : ∀ x ∈ xs, 0 ≤ x ∧ x < 256) (hnc : n ≤ c) (hcap : c ≤ maxLen) (hn : 6 ≤ n) :
    Calls Tryd.prog 21 #[.bool long, .slice (some ⟨b, o, none⟩) n c, .int .u16 off] w fun e w' => e = .returned (headV (lenOf long xs) (xs.getD 4 0) (xs.getD 5 0) off) ∧ Below w.heap.size w w' := by
  have c4 := hc 4 (by omega)
  have c5 := hc 5 (by omega)
  have hb : b < w.heap.size := heap_lt_of_cell c4
  have r0 := getD_byte hr 0
  have r1 := getD_byte hr 1
  have r2 := getD_byte hr 2
  have r3 := getD_byte hr 3
  have n4 : (4 : Int) < ((n : Nat) : Int) := by omega
  have n5 : (5 : Int) < ((n : Nat) : Int) := by omega
  have hne : b ≠ w.heap.size := by omega
  have hne2 : w.heap.size ≠ b := by omega
  have hw : IntKind.u32.wrap (lenOf long xs) = lenOf long xs := by
    rw [IntKind.wrap_u32]
    cases long
    · show g16 xs 0 % 4294967296 = g16 xs 0
      unfold g16; simp only [Nat.zero_add]; omega
    · show g32 xs 0 % 4294967296 = g32 xs 0
      unfold g32; simp only [Nat.zero_add]; omega
  have G : ∀ (w1 : World), Below w.heap.size w w1 → Calls Tryd.prog 15 #[.slice (some ⟨b, o, none⟩) n c, .int .i64 0, .int .i64 (if long then 4 else 2)] w1 fun e w' => e = .returned (.int .u64 (lenOf long xs)) ∧ w1 = w' := fun w1 hb1 => by
    have hc1 : ∀ i, i < n → w1.cell? ⟨b, o + i, none⟩ = some (.int .u8 (xs.getD i 0)) := fun i hi => (hb1.cell (p := ⟨b, o + i, none⟩) hb).trans (hc i hi)
    cases long
    · have := packetGet_any b o n c 0 2 xs w1 hc1 hx hr hnc hcap (by omega) (by decide) (by decide)
      rw [pg_two xs 0 (by omega)] at this
      exact this
    · have := packetGet_any b o n c 0 4 xs w1 hc1 hx hr hnc hcap (by omega) (by decide) (by decide)
      rw [pg_four xs 0 (by omega)] at this
      exact this
  generalize lenOf long xs = y at *
  generalize xs.getD 4 0 = x4 at *
  generalize xs.getD 5 0 = x5 at *
  have HG := Lib.hid G
  clear hc hx hr r0 r1 r2 r3 G
  cases long
  all_goals
    go_enter Tryd.func21, Tryd.ntmps21
    go_wp2_with fail
    go_region_held3 (fun w' => w'.cell? ⟨b, o + 4, none⟩ = some (.int .u8 x4) ∧ w'.cell? ⟨b, o + 5, none⟩ = some (.int .u8 x5)) (go_keep)
      (first | (go_at_call 15; refine (HG.out _ (by exact ((Below.refl _ _).alloc (Nat.le_refl _) _).drew)).mono ?_; rintro e w2 ⟨rfl, rfl⟩))
    go_wp2
    exact bodyPost_ret (v := .agg #[.int .u32 y, .int .u8 x4, .int .u8 x5, .int .u16 off]) (by simp [results, Tryd.results21, go_sem]) rfl ⟨rfl, ((Below.refl _ _).alloc (Nat.le_refl _) _).drew⟩

theorem specLongX_any (c : Cx) (w : World) :
    Calls Tryd.prog 22 #[c.val] w fun e w' => e = .returned (.bool c.long) ∧ Below w.heap.size w w' := by
  have L := Lib.hid (fun w1 => specLong_any c w1)
  generalize c.long = b at *
  unfold Cx.val at *
  go_enter Tryd.func22, Tryd.ntmps22
  go_wp2_with fail
  refine (L.out _).mono ?_
  rintro e w1 ⟨rfl, hb⟩
  have HB := Lib.hid (((Below.refl w.heap.size w).alloc (Nat.le_refl _) _).trans (hb.mono (by simp)))
  clear hb
  go_wp2_with fail
  go_ret
  exact ⟨rfl, HB.out⟩

/-- What is read of a packet of data that DataBytes has made. -/
theorem dataL_facts (long : Bool) (n : Nat) (xs : List Int) (hx : xs.length = n) (hn : n ≤ 10000) (hr : ∀ x ∈ xs, 0 ≤ x ∧ x < 256) :
    (dataL long ((n : Int) + 10) xs).length = 10 + n ∧ (∀ x ∈ dataL long ((n : Int) + 10) xs, 0 ≤ x ∧ x < 256) ∧ (dataL long ((n : Int) + 10) xs).getD 4 0 = 6 ∧ (dataL long ((n : Int) + 10) xs).getD 5 0 = 0 ∧
    g16 (dataL long ((n : Int) + 10) xs) 8 = 0 ∧ lenOf long (dataL long ((n : Int) + 10) xs) = (n : Int) + 10 ∧ (dataL long ((n : Int) + 10) xs).drop 10 = xs := by
  have hl : (headL long ((n : Int) + 10) 6 0 10).length = 10 := by cases long <;> rfl
  rw [dataL_eq]
  refine ⟨by simp [hl, hx], ?_, ?_, ?_, ?_, ?_, ?_⟩
  · intro x hm
    rcases List.mem_append.1 hm with h | h
    · exact headL_byte long _ 6 0 10 ⟨by decide, by decide⟩ ⟨by decide, by decide⟩ x h
    · exact hr x h
  · cases long <;> rfl
  · cases long <;> rfl
  · cases long <;> rfl
  · cases long
    · show ((n : Int) + 10) % 65536 / 256 % 256 * 256 + ((n : Int) + 10) % 65536 % 256 = _
      omega
    · show ((((n : Int) + 10) / 16777216 % 256 * 256 + ((n : Int) + 10) / 65536 % 256) * 256 + ((n : Int) + 10) / 256 % 256) * 256 + ((n : Int) + 10) % 256 = _
      omega
  · exact List.drop_left' hl
end Go.Proofs.YtaohgebiedkdaaaDoor
