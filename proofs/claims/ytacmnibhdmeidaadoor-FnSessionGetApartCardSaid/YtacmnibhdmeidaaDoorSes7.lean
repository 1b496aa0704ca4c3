/-
  impl.SessionPut: the steps of a writer.
-/
import Derived.Test.YtacmnibhdmeidaaDoorSes6
import Derived.Deep.DeepCutAuto
namespace Go.Proofs.YtacmnibhdmeidaaDoor
open Go Go.RowKit

/-- A step of a writer. -/
structure PStep where
  kind : Nat
  q1 : Option Addr
  k1 : Nat
  c1 : Nat
  ys : List Int
  q2 : Option Addr
  k2 : Nat
  c2 : Nat
  zs : List Int
  num : Int
  uns : Int
  size : Nat
  flag : Nat
  big : Bool
  comp : Bool
def PStep.cells (s : PStep) : List Value := [.int .i64 s.kind, .slice s.q1 s.k1 s.c1, .slice s.q2 s.k2 s.c2, .int .i64 s.num, .int .u64 s.uns, .int .u8 s.size, .int .u8 s.flag, .bool s.big, .bool s.comp]
/-- The steps that the laws take: numbers fit their sizes. -/
structure PStep.Ok (s : PStep) : Prop where
  kind : s.kind ≤ 5
  l1 : s.ys.length = s.k1
  l2 : s.zs.length = s.k2
  k1 : s.k1 ≤ 1000000
  k2 : s.k2 ≤ 1000000
  flag : s.flag < 256
  num : s.kind = 2 → (s.size = 1 ∨ s.size = 2 ∨ s.size = 4 ∨ s.size = 8) ∧ ∃ v : Nat, s.num = v ∧ v < 256 ^ s.size ∧ v ≤ 9223372036854775807
  uns : s.kind = 3 → (s.size = 1 ∨ s.size = 2 ∨ s.size = 4 ∨ s.size = 8) ∧ ∃ v : Nat, s.uns = v ∧ v < 256 ^ s.size
/-- What a step writes. -/
def stepW (big : Bool) (chunk : Nat) (s : PStep) : List Int :=
  if s.kind = 0 then s.ys else if s.kind = 1 then clrW big chunk s.ys else if s.kind = 2 then numW s.size s.big s.comp s.num.toNat else if s.kind = 3 then numW s.size s.big (s.comp && decide (1 < s.size)) s.uns.toNat else
  if s.kind = 4 then kvW big chunk s.ys s.zs s.flag else fixedW s.ys
def putL (big : Bool) (chunk : Nat) (P : Nat → PStep) : Nat → List Int
  | 0 => []
  | k + 1 => putL big chunk P k ++ stepW big chunk (P k)
/-- The steps as they lie in memory. -/
def PutsIn (w : World) (a : Option Addr) (n : Nat) (P : Nat → PStep) : Prop := ∀ r, r < n → ∃ b o, a = some ⟨b, o, none⟩ ∧ (∀ j v, (P r).cells[j]? = some v → w.cell? ⟨b, o + r * 9 + j, none⟩ = some v) ∧ Lib.BytesIn w (P r).q1 (P r).k1 (P r).ys ∧ Lib.BytesIn w (P r).q2 (P r).k2 (P r).zs
theorem PutsIn.kp {w w' : World} {a : Option Addr} {n : Nat} {P : Nat → PStep} (h : PutsIn w a n P) (hk : Kp w w') : PutsIn w' a n P := fun r hr => by
  obtain ⟨b, o, h1, h2, h3, h4⟩ := h r hr
  exact ⟨b, o, h1, fun j v hv => (hk.below.cell (p := ⟨b, o + r * 9 + j, none⟩) (heap_lt_of_cell (h2 j v hv))).trans (h2 j v hv), bin_kp h3 hk, bin_kp h4 hk⟩

/-- A session's block, known whole, is a buffer that holds nothing. -/
theorem buf_of_blk {w : World} {g : Nat} {big : Bool} {chunk : Nat} (h : Blk w g 94 #[.slice none 0 0, .slice none 0 0, .int .i64 0, .int .i8 0, .int .i64 0, .bool big, .int .i64 chunk]) : BufP w 94 (sesR big chunk) g 1 [] none :=
  BufP.zero (lr := 0) ⟨_, h, rfl, rfl, rfl, fun i hi => by
    match i, hi with
    | 0, _ => rfl
    | 1, h => omega
    | 2, h => omega
    | 3, h => omega
    | 4, _ => rfl
    | 5, _ => rfl
    | 6, _ => rfl
    | i + 7, _ => rfl⟩

theorem newSession_any (v : Value) (w : World) (hv : ∃ p n c, v = .slice p n c) :
    Calls Tryd.prog 32 #[v] w fun e w' => e = .returned (.pointer (some ⟨w.heap.size, 0, none⟩)) ∧
      w' = w.alloc (.cells #[v, .slice none 0 0, .int .i64 0, .int .i8 0, .int .i64 0, .bool false, .int .i64 64] 94) := by
  obtain ⟨p, n, c, rfl⟩ := hv
  go_enter Tryd.func32, Tryd.ntmps32
  go_wp2
  go_ret
  exact ⟨rfl, rfl⟩

theorem src_of_own {w : World} {base g k d : Nat} {row : Option Nat} {q : Option Addr} {ys : List Int} (h : w.ownsRow base 5 1 (.slice q k d) k (ys.map (Value.int .u8))) (hg : g < base) (hr : ∀ r, row = some r → r < base) : Src w g row q k d ys := by
  have hl : ys.length = k := by simpa using h.1
  refine ⟨bin_of_own h, hl, own_cap h, ?_, ?_⟩
  · rcases h.2 with ⟨h, h0⟩ | ⟨_, _, _, h, _, _, _, hm, _⟩
    · injection h with _ _ h3; subst h3; decide
    · injection h with _ _ h3; omega
  · intro a ha
    subst ha
    rcases h.2 with ⟨h, h0⟩ | ⟨g', cap, cur, h, hb, hh, _⟩
    · cases h
    · injection h with h1 h2 h3
      injection h1 with h1
      subst h1
      have hlt : g' < w.heap.size := by
        rcases Nat.lt_or_ge g' w.heap.size with hlt | hge
        · exact hlt
        · rw [Array.getElem?_eq_none hge] at hh; cases hh
      exact ⟨hlt, by dsimp only; omega, fun e => by have := hr _ e.symm; dsimp only at this; omega⟩
theorem src_mono {w w1 : World} {g k d : Nat} {row : Option Nat} {q : Option Addr} {ys : List Int} (h : Src w g row q k d ys) (hk : Kp w w1) : Src w1 g row q k d ys := h.stp (Stp.of_kp hk)

theorem src_alloc {w : World} {g k d : Nat} {row : Option Nat} {q : Option Addr} {ys : List Int} (h : Src w g row q k d ys) (o : Obj) : Src (w.alloc o) w.heap.size none q k d ys :=
  ⟨bin_alloc h.bin o, h.len, h.km, h.mm, fun a ha => by
    have := (h.far a ha).1
    exact ⟨by simp; omega, by omega, by simp⟩⟩
theorem fixedW_len (ys : List Int) : (fixedW ys).length ≤ ys.length + 5 := by
  unfold fixedW
  split <;> simp [be_length] <;> omega
theorem stepW_len (big : Bool) (chunk : Nat) (hc : 0 < chunk) (s : PStep) (h : s.Ok) : (stepW big chunk s).length ≤ 30000000 := by
  have h1 := h.k1
  have h2 := h.k2
  have h3 := h.l1
  have h4 := h.l2
  have hk := h.kind
  have e1 := clrW_len big chunk hc s.ys
  have e2 := dlcW_len big chunk hc s.ys
  have e3 := dlcW_len big chunk hc s.zs
  have e4 := packed_len s.flag
  have e5 := fixedW_len s.ys
  have num : ∀ sz b c v, (sz = 1 ∨ sz = 2 ∨ sz = 4 ∨ sz = 8) → (numW sz b c v).length ≤ 9 := fun sz b c v hs => by
    unfold numW
    split
    · exact packed_len v
    · rw [plain_length]; omega
  obtain hkd | hkd | hkd | hkd | hkd | hkd : s.kind = 0 ∨ s.kind = 1 ∨ s.kind = 2 ∨ s.kind = 3 ∨ s.kind = 4 ∨ s.kind = 5 := by omega
  · simp [stepW, hkd]; omega
  · simp [stepW, hkd]; omega
  · have := num s.size s.big s.comp s.num.toNat (h.num hkd).1
    simp [stepW, hkd]; omega
  · have := num s.size s.big (s.comp && decide (1 < s.size)) s.uns.toNat (h.uns hkd).1
    simp [stepW, hkd]; omega
  · simp [stepW, hkd, kvW]; omega
  · simp [stepW, hkd]; omega
theorem putL_len (big : Bool) (chunk : Nat) (hc : 0 < chunk) (P : Nat → PStep) (n : Nat) (h : ∀ r, r < n → (P r).Ok) : ∀ k, k ≤ n → (putL big chunk P k).length ≤ 30000000 * k
  | 0, _ => by simp [putL]
  | k + 1, hk => by
    have h1 := putL_len big chunk hc P n h k (by omega)
    have h2 := stepW_len big chunk hc (P k) (h k (by omega))
    simp only [putL, List.length_append]
    omega
theorem put_next {big : Bool} {chunk : Nat} {P : Nat → PStep} {k : Nat} {s : PStep} {row row' : Option Nat} {w wc w5 : World} (hl : putL big chunk P (k + 1) = putL big chunk P k ++ stepW big chunk s)
    (hb : BufP w5 94 (sesR big chunk) w.heap.size 1 (putL big chunk P k ++ stepW big chunk s) row') (hst : Stp w.heap.size row row' wc w5) (hrow : ∀ r, row = some r → w.heap.size ≤ r) (hk : Kp w wc) :
    BufP w5 94 (sesR big chunk) w.heap.size 1 (putL big chunk P (k + 1)) row' ∧ (∀ r, row' = some r → w.heap.size ≤ r) ∧ Kp w w5 := by
  rw [hl]
  exact ⟨hb, hst.row_ge hrow hk.size, Below.trans hk (hst.below (Nat.le_refl _) hrow hk.size)⟩

set_option maxRecDepth 100000 in
set_option maxHeartbeats 64000000 in
theorem sessionPut_any (a : Option Addr) (n c : Nat) (P : Nat → PStep) (big : Bool) (chunk : Nat) (w : World) (h : PutsIn w a n P) (hok : ∀ r, r < n → (P r).Ok) (hn : n ≤ 100) (hc : 0 < chunk) (hc2 : chunk ≤ 4096) (hcb : big = false → chunk < 256) :
    Calls Tryd.prog 24 #[.slice a n c, .bool big, .int .i64 chunk] w fun e w' => ∃ q l d, e = .returned (.slice q l d) ∧ (putL big chunk P n).length = l ∧ w'.ownsRow w.heap.size 5 1 (.slice q l d) l ((putL big chunk P n).map (Value.int .u8)) ∧ Below w.heap.size w w' := by
  have HP := Lib.hid h
  have HOK := Lib.hid hok
  have HN := Lib.hid hn
  have i0 : (n : Int) ≤ 100 := by omega
  have HC := Lib.hid hc
  have HC2 := Lib.hid hc2
  have HCB := Lib.hid hcb
  clear h hok hn hc hc2 hcb
  go_enter Tryd.func24, Tryd.ntmps24
  go_wp2_with fail
  refine (newSession_any _ _ ⟨_, _, _, rfl⟩).mono ?_
  rintro e w1 ⟨rfl, rfl⟩
  go_wp2_with fail
  generalize hW : w.alloc (.cells #[.slice none 0 0, .slice none 0 0, .int .i64 0, .int .i8 0, .int .i64 0, .bool big, .int .i64 (chunk : Int)] 94) = W
  have hs : W.heap.size = w.heap.size + 1 := by rw [← hW]; simp
  have HB0 := Lib.hid (show BufP W 94 (sesR big chunk) w.heap.size 1 [] none from buf_of_blk (hW ▸ Blk.new w _ _))
  have HK0 := Lib.hid (show Kp w W from hW ▸ (Kp.refl w).alloc _)
  have HS0 := Lib.hid hs
  clear hW hs
  go_loopg [24] n (fun G st wr => ∃ (k : Nat) (row : Option Nat), G = n - k ∧ k ≤ n ∧ st = .int .i64 (k : Int) ∧ BufP wr 94 (sesR big chunk) w.heap.size 1 (putL big chunk P k) row ∧ (∀ r, row = some r → w.heap.size ≤ r) ∧ Kp w wr)
  case atStart => exact ⟨0, none, rfl, Nat.zero_le _, rfl, HB0.out, (fun r hr => by cases hr), HK0.out⟩
  case round =>
    obtain ⟨k, row, rfl, hk, rfl, hb, hrow, hkp⟩ := hrel
    have HB := Lib.hid hb
    have HR := Lib.hid hrow
    have HK := Lib.hid hkp
    have HKN := Lib.hid hk
    have i1 : (0 : Int) ≤ (k : Int) := by omega
    have i2 : (k : Int) ≤ (n : Int) := by omega
    clear hb hrow hkp hk
    by_cases hlt : k < n
    · have i3 : (k : Int) < (n : Int) := by omega
      obtain ⟨b, o, rfl, hc, hy, hz⟩ := (HP.out.kp HK.out) k hlt
      have HY := Lib.hid hy
      have HZ := Lib.hid hz
      have HO := Lib.hid (HOK.out k hlt)
      have HLT := Lib.hid hlt
      clear hlt hy hz
      have HL := Lib.hid (show putL big chunk P (k + 1) = putL big chunk P k ++ stepW big chunk (P k) from rfl)
      generalize P k = s at *
      have d0 : wr.cell? ⟨b, o + k * 9, none⟩ = some (.int .i64 s.kind) := hc 0 _ rfl
      have d1 : wr.cell? ⟨b, o + k * 9 + 1, none⟩ = some (.slice s.q1 s.k1 s.c1) := hc 1 _ rfl
      have d2 : wr.cell? ⟨b, o + k * 9 + 2, none⟩ = some (.slice s.q2 s.k2 s.c2) := hc 2 _ rfl
      have d3 : wr.cell? ⟨b, o + k * 9 + 3, none⟩ = some (.int .i64 s.num) := hc 3 _ rfl
      have d4 : wr.cell? ⟨b, o + k * 9 + 4, none⟩ = some (.int .u64 s.uns) := hc 4 _ rfl
      have d5 : wr.cell? ⟨b, o + k * 9 + 5, none⟩ = some (.int .u8 s.size) := hc 5 _ rfl
      have d6 : wr.cell? ⟨b, o + k * 9 + 6, none⟩ = some (.int .u8 s.flag) := hc 6 _ rfl
      have d7 : wr.cell? ⟨b, o + k * 9 + 7, none⟩ = some (.bool s.big) := hc 7 _ rfl
      have d8 : wr.cell? ⟨b, o + k * 9 + 8, none⟩ = some (.bool s.comp) := hc 8 _ rfl
      clear hc
      go_wp2_with fail
      generalize hX : wr.alloc (.cells #[.int .i64 (s.kind : Int), .slice s.q1 s.k1 s.c1, .slice s.q2 s.k2 s.c2, .int .i64 s.num, .int .u64 s.uns, .int .u8 (s.size : Int), .int .u8 (s.flag : Int), .bool s.big, .bool s.comp] 77) = X
      obtain ⟨xb, hxb⟩ : ∃ xb, xb = wr.heap.size := ⟨_, rfl⟩
      have hXs : X.heap.size = xb + 1 := by rw [← hX, hxb]; simp
      have HX := Lib.hid (show Blk X xb 77 #[.int .i64 (s.kind : Int), .slice s.q1 s.k1 s.c1, .slice s.q2 s.k2 s.c2, .int .i64 s.num, .int .u64 s.uns, .int .u8 (s.size : Int), .int .u8 (s.flag : Int), .bool s.big, .bool s.comp] from by rw [hxb]; exact hX ▸ Blk.new wr _ _)
      have HKX := Lib.hid (show Kp wr X from hX ▸ (Kp.refl wr).alloc _)
      have HXS := Lib.hid hXs
      have HXB := Lib.hid hxb
      have HGX := Lib.hid (show w.heap.size < X.heap.size from by have := HB.out.lt; omega)
      have HYX := Lib.hid (bin_kp HY.out HKX.out)
      have HZX := Lib.hid (bin_kp HZ.out HKX.out)
      rw [← hxb]
      clear hX hXs hxb d0 d1 d2 d3 d4 d5 d6 d7 d8
      go_cut [10, 11] (fun s10 s11 wx => ∃ q1 e1 q2 e2, s10 = .slice q1 s.k1 e1 ∧ s11 = .slice q2 s.k2 e2 ∧ Src wx w.heap.size row q1 s.k1 e1 s.ys ∧ Src wx w.heap.size row q2 s.k2 e2 s.zs ∧ Kp X wx)
      case first =>
        have x1 : X.cell? ⟨xb, 1, none⟩ = some (.slice s.q1 s.k1 s.c1) := HX.out.cell 1
        have x2 : X.cell? ⟨xb, 2, none⟩ = some (.slice s.q2 s.k2 s.c2) := HX.out.cell 2
        go_region_held3 (fun w' => w'.cell? ⟨xb, 1, none⟩ = some (.slice s.q1 s.k1 s.c1) ∧ w'.cell? ⟨xb, 2, none⟩ = some (.slice s.q2 s.k2 s.c2)) (go_keep)
          (first
            | (go_at_call 9; refine (clone_any _ s.q1 s.k1 s.c1 s.ys (by exact HYX.out) HO.out.l1 (by have := HO.out.k1; omega)).mono ?_; rintro e w3 ⟨q3, e3, rfl, hown, hb3⟩; have HO3 := Lib.hid hown; have HB3 := Lib.hid hb3; have y1 : w3.cell? ⟨xb, 1, none⟩ = some (.slice s.q1 s.k1 s.c1) := (by first | exact (HX.out.old hb3).cell 1 | exact (HX.out.drew.old hb3).cell 1); have y2 : w3.cell? ⟨xb, 2, none⟩ = some (.slice s.q2 s.k2 s.c2) := (by first | exact (HX.out.old hb3).cell 2 | exact (HX.out.drew.old hb3).cell 2); clear hown hb3 x1 x2)
            | (go_at_call 9; refine (clone_any _ s.q2 s.k2 s.c2 s.zs (by first | exact bin_below HZX.out HB3.out | exact bin_below (w := X.drew) HZX.out HB3.out) HO.out.l2 (by have := HO.out.k2; omega)).mono ?_; rintro e w4 ⟨q4, e4, rfl, hown, hb4⟩; have HO4 := Lib.hid hown; have HB4 := Lib.hid hb4; have z1 : w4.cell? ⟨xb, 1, none⟩ = some (.slice s.q1 s.k1 s.c1) := below_some hb4 y1; have z2 : w4.cell? ⟨xb, 2, none⟩ = some (.slice s.q2 s.k2 s.c2) := below_some hb4 y2; clear hown hb4 y1 y2))
        all_goals
          go_wp2_with fail
          go_meet
          have hk3 : Kp X w3 := by first | exact (Kp.refl X).call HB3.out | exact (Kp.refl X).drew.call HB3.out
          have hrl : ∀ r, row = some r → r < X.heap.size := fun r hr => by have := (HB.out.row_lt r hr).1; have := HKX.out.size; omega
          have s1 : Src w3 w.heap.size row q3 s.k1 e3 s.ys := src_of_own HO3.out (by exact HGX.out) (by exact hrl)
          have s2 : Src w4 w.heap.size row q4 s.k2 e4 s.zs := src_of_own HO4.out (by have := HGX.out; have := hk3.size; omega) (fun r hr => by have := hrl r hr; have := hk3.size; omega)
          exact ⟨q3, e3, q4, e4, rfl, rfl, s1.stp (Stp.of_kp HB4.out), s2, hk3.call HB4.out⟩
      case rest =>
        obtain ⟨q1, e1, q2, e2, rfl, rfl, hs1, hs2, hkx⟩ := hcut
        have HS1 := Lib.hid hs1
        have HS2 := Lib.hid hs2
        have HKC := Lib.hid ((HK.out.trans HKX.out).trans hkx)
        have HBC := Lib.hid (HB.out.kp (HKX.out.trans hkx))
        have HXC := Lib.hid (HX.out.kp hkx)
        clear hs1 hs2 hkx HX HYX HZX
        have HLEN := Lib.hid (putL_len big chunk HC.out P n HOK.out k (by have := HLT.out; omega))
        have HLIM := Lib.hid (show (putL big chunk P k).length ≤ 3000000000 from by have := HLEN.out; have := HN.out; have := HLT.out; omega)
        have c0 := HXC.out.cell 0
        have c3 := HXC.out.cell 3
        have c4 := HXC.out.cell 4
        have c5 := HXC.out.cell 5
        have c6 := HXC.out.cell 6
        have c7 := HXC.out.cell 7
        have c8 := HXC.out.cell 8
        replace c0 : wc.cell? ⟨xb, 0, none⟩ = some (.int .i64 (s.kind : Int)) := c0
        replace c3 : wc.cell? ⟨xb, 3, none⟩ = some (.int .i64 s.num) := c3
        replace c4 : wc.cell? ⟨xb, 4, none⟩ = some (.int .u64 s.uns) := c4
        replace c5 : wc.cell? ⟨xb, 5, none⟩ = some (.int .u8 (s.size : Int)) := c5
        replace c6 : wc.cell? ⟨xb, 6, none⟩ = some (.int .u8 (s.flag : Int)) := c6
        replace c7 : wc.cell? ⟨xb, 7, none⟩ = some (.bool s.big) := c7
        replace c8 : wc.cell? ⟨xb, 8, none⟩ = some (.bool s.comp) := c8
        have hkd := HO.out.kind
        obtain hkd | hkd | hkd | hkd | hkd | hkd : s.kind = 0 ∨ s.kind = 1 ∨ s.kind = 2 ∨ s.kind = 3 ∨ s.kind = 4 ∨ s.kind = 5 := by omega
        · rw [hkd] at c0
          replace c0 : wc.cell? ⟨xb, 0, none⟩ = some (.int .i64 0) := c0
          have HKD := Lib.hid hkd
          clear hkd
          have HQ := Lib.hid (show stepW big chunk s = s.ys from by simp [stepW, HKD.out])
          go_wp2_with fail
          refine (putBytes_any (sesR big chunk) w.heap.size (putL big chunk P k) s.ys row q1 s.k1 e1 wc HBC.out HS1.out.len (by have := HLIM.out; have := HO.out.k1; omega) HS1.out.bin (fun a ha => (HS1.out.far a ha).2.1)).mono ?_
          rintro e w5 ⟨row5, rfl, hb, hst⟩
          have HE5 := Lib.hid hb
          have HT5 := Lib.hid hst
          clear hb hst c0 c3 c4 c5 c6 c7 c8
          go_wp2_with fail
          go_roundg (n - (k + 1))
          case measure => have := HLT.out; omega
          case rel =>
            obtain ⟨a1, a2, a3⟩ := put_next (big := big) (chunk := chunk) (P := P) (k := k) HL.out (by have hb := HE5.out; rw [HQ.out]; exact hb) HT5.out HR.out HKC.out
            exact ⟨k + 1, row5, rfl, by have := HLT.out; omega, by go_num, a1, a2, a3⟩
        · rw [hkd] at c0
          replace c0 : wc.cell? ⟨xb, 0, none⟩ = some (.int .i64 1) := c0
          have HKD := Lib.hid hkd
          clear hkd
          have HQ := Lib.hid (show stepW big chunk s = clrW big chunk s.ys from by simp [stepW, HKD.out])
          go_wp2_with fail
          refine (putClr_any big chunk w.heap.size (putL big chunk P k) s.ys row q1 s.k1 e1 wc HBC.out HS1.out HO.out.k1 HC.out HC2.out HCB.out (by have := HLIM.out; omega)).mono ?_
          rintro e w5 ⟨row5, rfl, hb, hst⟩
          have HE5 := Lib.hid hb
          have HT5 := Lib.hid hst
          clear hb hst c0 c3 c4 c5 c6 c7 c8
          go_wp2_with fail
          go_roundg (n - (k + 1))
          case measure => have := HLT.out; omega
          case rel =>
            obtain ⟨a1, a2, a3⟩ := put_next (big := big) (chunk := chunk) (P := P) (k := k) HL.out (by have hb := HE5.out; rw [HQ.out]; exact hb) HT5.out HR.out HKC.out
            exact ⟨k + 1, row5, rfl, by have := HLT.out; omega, by go_num, a1, a2, a3⟩
        · rw [hkd] at c0
          replace c0 : wc.cell? ⟨xb, 0, none⟩ = some (.int .i64 2) := c0
          have HKD := Lib.hid hkd
          clear hkd
          obtain ⟨hsz, v, hv, hv1, hv2⟩ := HO.out.num HKD.out
          rw [hv] at c3
          have HV := Lib.hid hv
          have HV1 := Lib.hid hv1
          have HV2 := Lib.hid hv2
          clear hv hv1 hv2
          have HCO := Lib.hid (show s.comp = s.comp from rfl)
          obtain hsz | hsz | hsz | hsz := hsz
          · rw [hsz] at c5
            replace c5 : wc.cell? ⟨xb, 5, none⟩ = some (.int .u8 1) := c5
            have HZ1 := Lib.hid hsz
            have HV3 := Lib.hid (show v < 256 from by have := HV1.out; rw [hsz] at this; simpa using this)
            clear hsz
            cases hco : s.comp
            · rw [hco] at c8
              have HCM := Lib.hid hco
              clear hco
              have HQ := Lib.hid (show stepW big chunk s = plain 1 s.big v from by simp [stepW, HKD.out, HZ1.out, HCM.out, HV.out, numW])
              go_wp2_with fail
              refine (putint_one (sesR big chunk) w.heap.size s.big v (putL big chunk P k) row wc HBC.out (by have := HV3.out; omega) (by have := HLIM.out; omega)).mono ?_
              rintro e w5 ⟨row5, rfl, hb, hst⟩
              have HE5 := Lib.hid hb
              have HT5 := Lib.hid hst
              clear hb hst c0 c3 c4 c5 c6 c7 c8
              go_wp2_with fail
              go_roundg (n - (k + 1))
              case measure => have := HLT.out; omega
              case rel =>
                obtain ⟨a1, a2, a3⟩ := put_next (big := big) (chunk := chunk) (P := P) (k := k) HL.out (by have hb := HE5.out; rw [HQ.out]; exact hb) HT5.out HR.out HKC.out
                exact ⟨k + 1, row5, rfl, by have := HLT.out; omega, by go_num, a1, a2, a3⟩
            · rw [hco] at c8
              have HCM := Lib.hid hco
              clear hco
              have HQ := Lib.hid (show stepW big chunk s = packed v from by simp [stepW, HKD.out, HCM.out, HV.out, numW])
              go_wp2_with fail
              refine (putint_int64 (sesR big chunk) w.heap.size 1 s.big v _ (putL big chunk P k) row wc HBC.out rfl (by omega) (by omega) (sig_small 1 v (by have := HV3.out; omega)) HV2.out (by have := HLIM.out; omega)).mono ?_
              rintro e w5 ⟨row5, rfl, hb, hst⟩
              have HE5 := Lib.hid hb
              have HT5 := Lib.hid hst
              clear hb hst c0 c3 c4 c5 c6 c7 c8
              go_wp2_with fail
              go_roundg (n - (k + 1))
              case measure => have := HLT.out; omega
              case rel =>
                obtain ⟨a1, a2, a3⟩ := put_next (big := big) (chunk := chunk) (P := P) (k := k) HL.out (by have hb := HE5.out; rw [HQ.out]; exact hb) HT5.out HR.out HKC.out
                exact ⟨k + 1, row5, rfl, by have := HLT.out; omega, by go_num, a1, a2, a3⟩
          · rw [hsz] at c5
            replace c5 : wc.cell? ⟨xb, 5, none⟩ = some (.int .u8 2) := c5
            have HZ1 := Lib.hid hsz
            have HV3 := Lib.hid (show v < 65536 from by have := HV1.out; rw [hsz] at this; simpa using this)
            clear hsz
            cases hco : s.comp
            · rw [hco] at c8
              have HCM := Lib.hid hco
              clear hco
              cases hbg : s.big
              · rw [hbg] at c7
                have HBG := Lib.hid hbg
                clear hbg
                have HQ := Lib.hid (show stepW big chunk s = le 2 v from by simp [stepW, HKD.out, HZ1.out, HCM.out, HBG.out, HV.out, numW, plain])
                go_wp2_with fail
                refine (putint_le2 (sesR big chunk) w.heap.size v (putL big chunk P k) row wc HBC.out (by have := HV3.out; have := HV2.out; omega) (by have := HLIM.out; omega)).mono ?_
                rintro e w5 ⟨row5, rfl, hb, hst⟩
                have HE5 := Lib.hid hb
                have HT5 := Lib.hid hst
                clear hb hst c0 c3 c4 c5 c6 c7 c8
                go_wp2_with fail
                go_roundg (n - (k + 1))
                case measure => have := HLT.out; omega
                case rel =>
                  obtain ⟨a1, a2, a3⟩ := put_next (big := big) (chunk := chunk) (P := P) (k := k) HL.out (by have hb := HE5.out; rw [HQ.out]; exact hb) HT5.out HR.out HKC.out
                  exact ⟨k + 1, row5, rfl, by have := HLT.out; omega, by go_num, a1, a2, a3⟩
              · rw [hbg] at c7
                have HBG := Lib.hid hbg
                clear hbg
                have HQ := Lib.hid (show stepW big chunk s = be 2 v from by simp [stepW, HKD.out, HZ1.out, HCM.out, HBG.out, HV.out, numW, plain])
                go_wp2_with fail
                refine (putint_be2 (sesR big chunk) w.heap.size v (putL big chunk P k) row wc HBC.out (by have := HV3.out; have := HV2.out; omega) (by have := HLIM.out; omega)).mono ?_
                rintro e w5 ⟨row5, rfl, hb, hst⟩
                have HE5 := Lib.hid hb
                have HT5 := Lib.hid hst
                clear hb hst c0 c3 c4 c5 c6 c7 c8
                go_wp2_with fail
                go_roundg (n - (k + 1))
                case measure => have := HLT.out; omega
                case rel =>
                  obtain ⟨a1, a2, a3⟩ := put_next (big := big) (chunk := chunk) (P := P) (k := k) HL.out (by have hb := HE5.out; rw [HQ.out]; exact hb) HT5.out HR.out HKC.out
                  exact ⟨k + 1, row5, rfl, by have := HLT.out; omega, by go_num, a1, a2, a3⟩
            · rw [hco] at c8
              have HCM := Lib.hid hco
              clear hco
              have HQ := Lib.hid (show stepW big chunk s = packed v from by simp [stepW, HKD.out, HCM.out, HV.out, numW])
              go_wp2_with fail
              refine (putint_int64 (sesR big chunk) w.heap.size 2 s.big v _ (putL big chunk P k) row wc HBC.out rfl (by omega) (by omega) (sig_small 2 v (by have := HV3.out; omega)) HV2.out (by have := HLIM.out; omega)).mono ?_
              rintro e w5 ⟨row5, rfl, hb, hst⟩
              have HE5 := Lib.hid hb
              have HT5 := Lib.hid hst
              clear hb hst c0 c3 c4 c5 c6 c7 c8
              go_wp2_with fail
              go_roundg (n - (k + 1))
              case measure => have := HLT.out; omega
              case rel =>
                obtain ⟨a1, a2, a3⟩ := put_next (big := big) (chunk := chunk) (P := P) (k := k) HL.out (by have hb := HE5.out; rw [HQ.out]; exact hb) HT5.out HR.out HKC.out
                exact ⟨k + 1, row5, rfl, by have := HLT.out; omega, by go_num, a1, a2, a3⟩
          · rw [hsz] at c5
            replace c5 : wc.cell? ⟨xb, 5, none⟩ = some (.int .u8 4) := c5
            have HZ1 := Lib.hid hsz
            have HV3 := Lib.hid (show v < 4294967296 from by have := HV1.out; rw [hsz] at this; simpa using this)
            clear hsz
            cases hco : s.comp
            · rw [hco] at c8
              have HCM := Lib.hid hco
              clear hco
              cases hbg : s.big
              · rw [hbg] at c7
                have HBG := Lib.hid hbg
                clear hbg
                have HQ := Lib.hid (show stepW big chunk s = le 4 v from by simp [stepW, HKD.out, HZ1.out, HCM.out, HBG.out, HV.out, numW, plain])
                go_wp2_with fail
                refine (putint_le4 (sesR big chunk) w.heap.size v (putL big chunk P k) row wc HBC.out (by have := HV3.out; have := HV2.out; omega) (by have := HLIM.out; omega)).mono ?_
                rintro e w5 ⟨row5, rfl, hb, hst⟩
                have HE5 := Lib.hid hb
                have HT5 := Lib.hid hst
                clear hb hst c0 c3 c4 c5 c6 c7 c8
                go_wp2_with fail
                go_roundg (n - (k + 1))
                case measure => have := HLT.out; omega
                case rel =>
                  obtain ⟨a1, a2, a3⟩ := put_next (big := big) (chunk := chunk) (P := P) (k := k) HL.out (by have hb := HE5.out; rw [HQ.out]; exact hb) HT5.out HR.out HKC.out
                  exact ⟨k + 1, row5, rfl, by have := HLT.out; omega, by go_num, a1, a2, a3⟩
              · rw [hbg] at c7
                have HBG := Lib.hid hbg
                clear hbg
                have HQ := Lib.hid (show stepW big chunk s = be 4 v from by simp [stepW, HKD.out, HZ1.out, HCM.out, HBG.out, HV.out, numW, plain])
                go_wp2_with fail
                refine (putint_be4 (sesR big chunk) w.heap.size v (putL big chunk P k) row wc HBC.out (by have := HV3.out; have := HV2.out; omega) (by have := HLIM.out; omega)).mono ?_
                rintro e w5 ⟨row5, rfl, hb, hst⟩
                have HE5 := Lib.hid hb
                have HT5 := Lib.hid hst
                clear hb hst c0 c3 c4 c5 c6 c7 c8
                go_wp2_with fail
                go_roundg (n - (k + 1))
                case measure => have := HLT.out; omega
                case rel =>
                  obtain ⟨a1, a2, a3⟩ := put_next (big := big) (chunk := chunk) (P := P) (k := k) HL.out (by have hb := HE5.out; rw [HQ.out]; exact hb) HT5.out HR.out HKC.out
                  exact ⟨k + 1, row5, rfl, by have := HLT.out; omega, by go_num, a1, a2, a3⟩
            · rw [hco] at c8
              have HCM := Lib.hid hco
              clear hco
              have HQ := Lib.hid (show stepW big chunk s = packed v from by simp [stepW, HKD.out, HCM.out, HV.out, numW])
              go_wp2_with fail
              refine (putint_int64 (sesR big chunk) w.heap.size 4 s.big v _ (putL big chunk P k) row wc HBC.out rfl (by omega) (by omega) (sig_small 4 v (by have := HV3.out; omega)) HV2.out (by have := HLIM.out; omega)).mono ?_
              rintro e w5 ⟨row5, rfl, hb, hst⟩
              have HE5 := Lib.hid hb
              have HT5 := Lib.hid hst
              clear hb hst c0 c3 c4 c5 c6 c7 c8
              go_wp2_with fail
              go_roundg (n - (k + 1))
              case measure => have := HLT.out; omega
              case rel =>
                obtain ⟨a1, a2, a3⟩ := put_next (big := big) (chunk := chunk) (P := P) (k := k) HL.out (by have hb := HE5.out; rw [HQ.out]; exact hb) HT5.out HR.out HKC.out
                exact ⟨k + 1, row5, rfl, by have := HLT.out; omega, by go_num, a1, a2, a3⟩
          · rw [hsz] at c5
            replace c5 : wc.cell? ⟨xb, 5, none⟩ = some (.int .u8 8) := c5
            have HZ1 := Lib.hid hsz
            have HV3 := Lib.hid (show v < 18446744073709551616 from by have := HV1.out; rw [hsz] at this; simpa using this)
            clear hsz
            cases hco : s.comp
            · rw [hco] at c8
              have HCM := Lib.hid hco
              clear hco
              cases hbg : s.big
              · rw [hbg] at c7
                have HBG := Lib.hid hbg
                clear hbg
                have HQ := Lib.hid (show stepW big chunk s = le 8 v from by simp [stepW, HKD.out, HZ1.out, HCM.out, HBG.out, HV.out, numW, plain])
                go_wp2_with fail
                refine (putint_le8 (sesR big chunk) w.heap.size v (putL big chunk P k) row wc HBC.out (by have := HV3.out; have := HV2.out; omega) (by have := HLIM.out; omega)).mono ?_
                rintro e w5 ⟨row5, rfl, hb, hst⟩
                have HE5 := Lib.hid hb
                have HT5 := Lib.hid hst
                clear hb hst c0 c3 c4 c5 c6 c7 c8
                go_wp2_with fail
                go_roundg (n - (k + 1))
                case measure => have := HLT.out; omega
                case rel =>
                  obtain ⟨a1, a2, a3⟩ := put_next (big := big) (chunk := chunk) (P := P) (k := k) HL.out (by have hb := HE5.out; rw [HQ.out]; exact hb) HT5.out HR.out HKC.out
                  exact ⟨k + 1, row5, rfl, by have := HLT.out; omega, by go_num, a1, a2, a3⟩
              · rw [hbg] at c7
                have HBG := Lib.hid hbg
                clear hbg
                have HQ := Lib.hid (show stepW big chunk s = be 8 v from by simp [stepW, HKD.out, HZ1.out, HCM.out, HBG.out, HV.out, numW, plain])
                go_wp2_with fail
                refine (putint_be8 (sesR big chunk) w.heap.size v (putL big chunk P k) row wc HBC.out (by have := HV3.out; have := HV2.out; omega) (by have := HLIM.out; omega)).mono ?_
                rintro e w5 ⟨row5, rfl, hb, hst⟩
                have HE5 := Lib.hid hb
                have HT5 := Lib.hid hst
                clear hb hst c0 c3 c4 c5 c6 c7 c8
                go_wp2_with fail
                go_roundg (n - (k + 1))
                case measure => have := HLT.out; omega
                case rel =>
                  obtain ⟨a1, a2, a3⟩ := put_next (big := big) (chunk := chunk) (P := P) (k := k) HL.out (by have hb := HE5.out; rw [HQ.out]; exact hb) HT5.out HR.out HKC.out
                  exact ⟨k + 1, row5, rfl, by have := HLT.out; omega, by go_num, a1, a2, a3⟩
            · rw [hco] at c8
              have HCM := Lib.hid hco
              clear hco
              have HQ := Lib.hid (show stepW big chunk s = packed v from by simp [stepW, HKD.out, HCM.out, HV.out, numW])
              go_wp2_with fail
              refine (putint_int64 (sesR big chunk) w.heap.size 8 s.big v _ (putL big chunk P k) row wc HBC.out rfl (by omega) (by omega) (sig_small 8 v (by have := HV3.out; omega)) HV2.out (by have := HLIM.out; omega)).mono ?_
              rintro e w5 ⟨row5, rfl, hb, hst⟩
              have HE5 := Lib.hid hb
              have HT5 := Lib.hid hst
              clear hb hst c0 c3 c4 c5 c6 c7 c8
              go_wp2_with fail
              go_roundg (n - (k + 1))
              case measure => have := HLT.out; omega
              case rel =>
                obtain ⟨a1, a2, a3⟩ := put_next (big := big) (chunk := chunk) (P := P) (k := k) HL.out (by have hb := HE5.out; rw [HQ.out]; exact hb) HT5.out HR.out HKC.out
                exact ⟨k + 1, row5, rfl, by have := HLT.out; omega, by go_num, a1, a2, a3⟩
        · rw [hkd] at c0
          replace c0 : wc.cell? ⟨xb, 0, none⟩ = some (.int .i64 3) := c0
          have HKD := Lib.hid hkd
          clear hkd
          obtain ⟨hsz, v, hv, hv1⟩ := HO.out.uns HKD.out
          rw [hv] at c4
          have HV := Lib.hid hv
          have HV1 := Lib.hid hv1
          clear hv hv1
          have HCO := Lib.hid (show s.comp = s.comp from rfl)
          obtain hsz | hsz | hsz | hsz := hsz
          · rw [hsz] at c5
            replace c5 : wc.cell? ⟨xb, 5, none⟩ = some (.int .u8 1) := c5
            have HZ1 := Lib.hid hsz
            have HV3 := Lib.hid (show v < 256 from by have := HV1.out; rw [hsz] at this; simpa using this)
            clear hsz
            have HQ := Lib.hid (show stepW big chunk s = plain 1 s.big v from by simp [stepW, HKD.out, HZ1.out, HV.out, numW])
            go_wp2_with fail
            refine (putuint_one (sesR big chunk) w.heap.size s.big s.comp v (putL big chunk P k) row wc HBC.out (by have := HV3.out; omega) (by have := HLIM.out; omega)).mono ?_
            rintro e w5 ⟨row5, rfl, hb, hst⟩
            have HE5 := Lib.hid hb
            have HT5 := Lib.hid hst
            clear hb hst c0 c3 c4 c5 c6 c7 c8
            go_wp2_with fail
            go_roundg (n - (k + 1))
            case measure => have := HLT.out; omega
            case rel =>
              obtain ⟨a1, a2, a3⟩ := put_next (big := big) (chunk := chunk) (P := P) (k := k) HL.out (by have hb := HE5.out; rw [HQ.out]; exact hb) HT5.out HR.out HKC.out
              exact ⟨k + 1, row5, rfl, by have := HLT.out; omega, by go_num, a1, a2, a3⟩
          · rw [hsz] at c5
            replace c5 : wc.cell? ⟨xb, 5, none⟩ = some (.int .u8 2) := c5
            have HZ1 := Lib.hid hsz
            have HV3 := Lib.hid (show v < 65536 from by have := HV1.out; rw [hsz] at this; simpa using this)
            clear hsz
            cases hco : s.comp
            · rw [hco] at c8
              have HCM := Lib.hid hco
              clear hco
              cases hbg : s.big
              · rw [hbg] at c7
                have HBG := Lib.hid hbg
                clear hbg
                have HQ := Lib.hid (show stepW big chunk s = le 2 v from by simp [stepW, HKD.out, HZ1.out, HCM.out, HBG.out, HV.out, numW, plain])
                go_wp2_with fail
                refine (putuint_le2 (sesR big chunk) w.heap.size v (putL big chunk P k) row wc HBC.out (by have := HV3.out; omega) (by have := HLIM.out; omega)).mono ?_
                rintro e w5 ⟨row5, rfl, hb, hst⟩
                have HE5 := Lib.hid hb
                have HT5 := Lib.hid hst
                clear hb hst c0 c3 c4 c5 c6 c7 c8
                go_wp2_with fail
                go_roundg (n - (k + 1))
                case measure => have := HLT.out; omega
                case rel =>
                  obtain ⟨a1, a2, a3⟩ := put_next (big := big) (chunk := chunk) (P := P) (k := k) HL.out (by have hb := HE5.out; rw [HQ.out]; exact hb) HT5.out HR.out HKC.out
                  exact ⟨k + 1, row5, rfl, by have := HLT.out; omega, by go_num, a1, a2, a3⟩
              · rw [hbg] at c7
                have HBG := Lib.hid hbg
                clear hbg
                have HQ := Lib.hid (show stepW big chunk s = be 2 v from by simp [stepW, HKD.out, HZ1.out, HCM.out, HBG.out, HV.out, numW, plain])
                go_wp2_with fail
                refine (putuint_be2 (sesR big chunk) w.heap.size v (putL big chunk P k) row wc HBC.out (by have := HV3.out; omega) (by have := HLIM.out; omega)).mono ?_
                rintro e w5 ⟨row5, rfl, hb, hst⟩
                have HE5 := Lib.hid hb
                have HT5 := Lib.hid hst
                clear hb hst c0 c3 c4 c5 c6 c7 c8
                go_wp2_with fail
                go_roundg (n - (k + 1))
                case measure => have := HLT.out; omega
                case rel =>
                  obtain ⟨a1, a2, a3⟩ := put_next (big := big) (chunk := chunk) (P := P) (k := k) HL.out (by have hb := HE5.out; rw [HQ.out]; exact hb) HT5.out HR.out HKC.out
                  exact ⟨k + 1, row5, rfl, by have := HLT.out; omega, by go_num, a1, a2, a3⟩
            · rw [hco] at c8
              have HCM := Lib.hid hco
              clear hco
              have HQ := Lib.hid (show stepW big chunk s = packed v from by simp [stepW, HKD.out, HZ1.out, HCM.out, HV.out, numW])
              go_wp2_with fail
              refine (putuint_uint64 (sesR big chunk) w.heap.size 2 s.big v _ (putL big chunk P k) row wc HBC.out rfl (by omega) (by omega) (sig_small 2 v (by have := HV3.out; omega)) (by have := HV3.out; omega) (by have := HLIM.out; omega)).mono ?_
              rintro e w5 ⟨row5, rfl, hb, hst⟩
              have HE5 := Lib.hid hb
              have HT5 := Lib.hid hst
              clear hb hst c0 c3 c4 c5 c6 c7 c8
              go_wp2_with fail
              go_roundg (n - (k + 1))
              case measure => have := HLT.out; omega
              case rel =>
                obtain ⟨a1, a2, a3⟩ := put_next (big := big) (chunk := chunk) (P := P) (k := k) HL.out (by have hb := HE5.out; rw [HQ.out]; exact hb) HT5.out HR.out HKC.out
                exact ⟨k + 1, row5, rfl, by have := HLT.out; omega, by go_num, a1, a2, a3⟩
          · rw [hsz] at c5
            replace c5 : wc.cell? ⟨xb, 5, none⟩ = some (.int .u8 4) := c5
            have HZ1 := Lib.hid hsz
            have HV3 := Lib.hid (show v < 4294967296 from by have := HV1.out; rw [hsz] at this; simpa using this)
            clear hsz
            cases hco : s.comp
            · rw [hco] at c8
              have HCM := Lib.hid hco
              clear hco
              cases hbg : s.big
              · rw [hbg] at c7
                have HBG := Lib.hid hbg
                clear hbg
                have HQ := Lib.hid (show stepW big chunk s = le 4 v from by simp [stepW, HKD.out, HZ1.out, HCM.out, HBG.out, HV.out, numW, plain])
                go_wp2_with fail
                refine (putuint_le4 (sesR big chunk) w.heap.size v (putL big chunk P k) row wc HBC.out (by have := HV3.out; omega) (by have := HLIM.out; omega)).mono ?_
                rintro e w5 ⟨row5, rfl, hb, hst⟩
                have HE5 := Lib.hid hb
                have HT5 := Lib.hid hst
                clear hb hst c0 c3 c4 c5 c6 c7 c8
                go_wp2_with fail
                go_roundg (n - (k + 1))
                case measure => have := HLT.out; omega
                case rel =>
                  obtain ⟨a1, a2, a3⟩ := put_next (big := big) (chunk := chunk) (P := P) (k := k) HL.out (by have hb := HE5.out; rw [HQ.out]; exact hb) HT5.out HR.out HKC.out
                  exact ⟨k + 1, row5, rfl, by have := HLT.out; omega, by go_num, a1, a2, a3⟩
              · rw [hbg] at c7
                have HBG := Lib.hid hbg
                clear hbg
                have HQ := Lib.hid (show stepW big chunk s = be 4 v from by simp [stepW, HKD.out, HZ1.out, HCM.out, HBG.out, HV.out, numW, plain])
                go_wp2_with fail
                refine (putuint_be4 (sesR big chunk) w.heap.size v (putL big chunk P k) row wc HBC.out (by have := HV3.out; omega) (by have := HLIM.out; omega)).mono ?_
                rintro e w5 ⟨row5, rfl, hb, hst⟩
                have HE5 := Lib.hid hb
                have HT5 := Lib.hid hst
                clear hb hst c0 c3 c4 c5 c6 c7 c8
                go_wp2_with fail
                go_roundg (n - (k + 1))
                case measure => have := HLT.out; omega
                case rel =>
                  obtain ⟨a1, a2, a3⟩ := put_next (big := big) (chunk := chunk) (P := P) (k := k) HL.out (by have hb := HE5.out; rw [HQ.out]; exact hb) HT5.out HR.out HKC.out
                  exact ⟨k + 1, row5, rfl, by have := HLT.out; omega, by go_num, a1, a2, a3⟩
            · rw [hco] at c8
              have HCM := Lib.hid hco
              clear hco
              have HQ := Lib.hid (show stepW big chunk s = packed v from by simp [stepW, HKD.out, HZ1.out, HCM.out, HV.out, numW])
              go_wp2_with fail
              refine (putuint_uint64 (sesR big chunk) w.heap.size 4 s.big v _ (putL big chunk P k) row wc HBC.out rfl (by omega) (by omega) (sig_small 4 v (by have := HV3.out; omega)) (by have := HV3.out; omega) (by have := HLIM.out; omega)).mono ?_
              rintro e w5 ⟨row5, rfl, hb, hst⟩
              have HE5 := Lib.hid hb
              have HT5 := Lib.hid hst
              clear hb hst c0 c3 c4 c5 c6 c7 c8
              go_wp2_with fail
              go_roundg (n - (k + 1))
              case measure => have := HLT.out; omega
              case rel =>
                obtain ⟨a1, a2, a3⟩ := put_next (big := big) (chunk := chunk) (P := P) (k := k) HL.out (by have hb := HE5.out; rw [HQ.out]; exact hb) HT5.out HR.out HKC.out
                exact ⟨k + 1, row5, rfl, by have := HLT.out; omega, by go_num, a1, a2, a3⟩
          · rw [hsz] at c5
            replace c5 : wc.cell? ⟨xb, 5, none⟩ = some (.int .u8 8) := c5
            have HZ1 := Lib.hid hsz
            have HV3 := Lib.hid (show v < 18446744073709551616 from by have := HV1.out; rw [hsz] at this; simpa using this)
            clear hsz
            cases hco : s.comp
            · rw [hco] at c8
              have HCM := Lib.hid hco
              clear hco
              cases hbg : s.big
              · rw [hbg] at c7
                have HBG := Lib.hid hbg
                clear hbg
                have HQ := Lib.hid (show stepW big chunk s = le 8 v from by simp [stepW, HKD.out, HZ1.out, HCM.out, HBG.out, HV.out, numW, plain])
                go_wp2_with fail
                refine (putuint_le8 (sesR big chunk) w.heap.size v (putL big chunk P k) row wc HBC.out (by have := HV3.out; omega) (by have := HLIM.out; omega)).mono ?_
                rintro e w5 ⟨row5, rfl, hb, hst⟩
                have HE5 := Lib.hid hb
                have HT5 := Lib.hid hst
                clear hb hst c0 c3 c4 c5 c6 c7 c8
                go_wp2_with fail
                go_roundg (n - (k + 1))
                case measure => have := HLT.out; omega
                case rel =>
                  obtain ⟨a1, a2, a3⟩ := put_next (big := big) (chunk := chunk) (P := P) (k := k) HL.out (by have hb := HE5.out; rw [HQ.out]; exact hb) HT5.out HR.out HKC.out
                  exact ⟨k + 1, row5, rfl, by have := HLT.out; omega, by go_num, a1, a2, a3⟩
              · rw [hbg] at c7
                have HBG := Lib.hid hbg
                clear hbg
                have HQ := Lib.hid (show stepW big chunk s = be 8 v from by simp [stepW, HKD.out, HZ1.out, HCM.out, HBG.out, HV.out, numW, plain])
                go_wp2_with fail
                refine (putuint_be8 (sesR big chunk) w.heap.size v (putL big chunk P k) row wc HBC.out (by have := HV3.out; omega) (by have := HLIM.out; omega)).mono ?_
                rintro e w5 ⟨row5, rfl, hb, hst⟩
                have HE5 := Lib.hid hb
                have HT5 := Lib.hid hst
                clear hb hst c0 c3 c4 c5 c6 c7 c8
                go_wp2_with fail
                go_roundg (n - (k + 1))
                case measure => have := HLT.out; omega
                case rel =>
                  obtain ⟨a1, a2, a3⟩ := put_next (big := big) (chunk := chunk) (P := P) (k := k) HL.out (by have hb := HE5.out; rw [HQ.out]; exact hb) HT5.out HR.out HKC.out
                  exact ⟨k + 1, row5, rfl, by have := HLT.out; omega, by go_num, a1, a2, a3⟩
            · rw [hco] at c8
              have HCM := Lib.hid hco
              clear hco
              have HQ := Lib.hid (show stepW big chunk s = packed v from by simp [stepW, HKD.out, HZ1.out, HCM.out, HV.out, numW])
              go_wp2_with fail
              refine (putuint_uint64 (sesR big chunk) w.heap.size 8 s.big v _ (putL big chunk P k) row wc HBC.out rfl (by omega) (by omega) (sig_small 8 v (by have := HV3.out; omega)) (by have := HV3.out; omega) (by have := HLIM.out; omega)).mono ?_
              rintro e w5 ⟨row5, rfl, hb, hst⟩
              have HE5 := Lib.hid hb
              have HT5 := Lib.hid hst
              clear hb hst c0 c3 c4 c5 c6 c7 c8
              go_wp2_with fail
              go_roundg (n - (k + 1))
              case measure => have := HLT.out; omega
              case rel =>
                obtain ⟨a1, a2, a3⟩ := put_next (big := big) (chunk := chunk) (P := P) (k := k) HL.out (by have hb := HE5.out; rw [HQ.out]; exact hb) HT5.out HR.out HKC.out
                exact ⟨k + 1, row5, rfl, by have := HLT.out; omega, by go_num, a1, a2, a3⟩
        · rw [hkd] at c0
          replace c0 : wc.cell? ⟨xb, 0, none⟩ = some (.int .i64 4) := c0
          have HKD := Lib.hid hkd
          clear hkd
          have HQ := Lib.hid (show stepW big chunk s = kvW big chunk s.ys s.zs s.flag from by simp [stepW, HKD.out])
          go_wp2_with fail
          refine (putKv_any big chunk w.heap.size (putL big chunk P k) s.ys s.zs row q1 q2 s.k1 e1 s.k2 e2 s.flag wc HBC.out HS1.out HS2.out HO.out.k1 HO.out.k2 HC.out HC2.out HCB.out HO.out.flag (by have := HLIM.out; omega)).mono ?_
          rintro e w5 ⟨row5, rfl, hb, hst⟩
          have HE5 := Lib.hid hb
          have HT5 := Lib.hid hst
          clear hb hst c0 c3 c4 c5 c6 c7 c8
          go_wp2_with fail
          go_roundg (n - (k + 1))
          case measure => have := HLT.out; omega
          case rel =>
            obtain ⟨a1, a2, a3⟩ := put_next (big := big) (chunk := chunk) (P := P) (k := k) HL.out (by have hb := HE5.out; rw [HQ.out]; exact hb) HT5.out HR.out HKC.out
            exact ⟨k + 1, row5, rfl, by have := HLT.out; omega, by go_num, a1, a2, a3⟩
        · rw [hkd] at c0
          replace c0 : wc.cell? ⟨xb, 0, none⟩ = some (.int .i64 5) := c0
          have HKD := Lib.hid hkd
          clear hkd
          have HQ := Lib.hid (show stepW big chunk s = fixedW s.ys from by simp [stepW, HKD.out])
          go_wp2_with fail
          have hsf : Src (wc.alloc (.cells #[.slice none 0 0, .int .i64 0, .int .i8 0] 92)) wc.heap.size none q1 s.k1 e1 s.ys := (src_alloc HS1.out _)
          refine (fixed_any 92 (fun _ => none) w.heap.size wc.heap.size [] s.ys none q1 s.k1 e1 _ (BufP.fresh wc 92) hsf HO.out.k1 (by simp)).mono ?_
          rintro e w6 ⟨row6, rfl, hb6, hst6⟩
          rw [List.nil_append] at hb6
          have hk6 : Kp wc w6 := Below.trans ((Kp.refl wc).alloc _) (hst6.below (Nat.le_refl _) (fun _ h => by cases h) (by simp))
          have hr6 : ∀ r, row6 = some r → wc.heap.size < r := fun r hr => by
            rcases hst6.next with h | ⟨j, h, hj⟩
            · rw [h] at hr; cases hr
            · rw [h] at hr; injection hr with hr; simp at hj; omega
          have HB6 := Lib.hid hb6
          have HK6 := Lib.hid hk6
          have HR6 := Lib.hid hr6
          clear hb6 hst6 hk6 hr6 hsf
          go_wp2_with fail
          refine (bytes_any 92 (fun _ => none) wc.heap.size 0 _ row6 w6 HB6.out).mono ?_
          rintro e w7 ⟨a7, l7, cap7, nq, rfl, hl7, hlc7, hcm7, hin7, hrow7, hw7⟩
          have HK7 := Lib.hid (show Kp wc w7 from by rw [hw7]; exact HK6.out.drewN nq)
          have HL7 := Lib.hid hl7
          have HIN7 := Lib.hid hin7
          have HR7 := Lib.hid hrow7
          clear hw7 hl7 hin7 hrow7 hlc7 hcm7
          go_wp2_with fail
          refine (putBytes_any (sesR big chunk) w.heap.size (putL big chunk P k) (fixedW s.ys) row a7 l7 cap7 w7 (HBC.out.kp HK7.out) HL7.out (by have := HLIM.out; have := HL7.out; have := fixedW_len s.ys; have := HO.out.k1; have := HO.out.l1; omega) HIN7.out (fun p hp => by obtain ⟨g', hg', rfl⟩ := HR7.out p hp; have := HR6.out _ hg'; have := HBC.out.lt; dsimp only; omega)).mono ?_
          rintro e w5 ⟨row5, rfl, hb, hst0⟩
          have hst : Stp w.heap.size row row5 wc w5 := (Stp.of_kp HK7.out).trans hst0
          clear hst0
          have HE5 := Lib.hid hb
          have HT5 := Lib.hid hst
          clear hb hst c0 c3 c4 c5 c6 c7 c8
          go_wp2_with fail
          go_roundg (n - (k + 1))
          case measure => have := HLT.out; omega
          case rel =>
            obtain ⟨a1, a2, a3⟩ := put_next (big := big) (chunk := chunk) (P := P) (k := k) HL.out (by have hb := HE5.out; rw [HQ.out]; exact hb) HT5.out HR.out HKC.out
            exact ⟨k + 1, row5, rfl, by have := HLT.out; omega, by go_num, a1, a2, a3⟩
    · obtain rfl : k = n := by have := HKN.out; omega
      go_wp2_with fail
      refine (output_any (sesR big chunk) w.heap.size (putL big chunk P k) row wr HB.out).mono ?_
      rintro e w3 ⟨a3, l3, cap3, nq, rfl, hl3, _, _, hin3, _, hw3⟩
      have HL3 := Lib.hid hl3
      have HIN3 := Lib.hid hin3
      have HK3 := Lib.hid (show Kp w w3 from by rw [hw3]; exact HK.out.drewN nq)
      clear hl3 hin3 hw3
      go_wp2_with fail
      have hlim := putL_len big chunk HC.out P k HOK.out k (Nat.le_refl _)
      refine (clone_any w3 a3 l3 cap3 (putL big chunk P k) HIN3.out HL3.out (by have := HN.out; have := HL3.out; omega)).mono ?_
      rintro e w4 ⟨q4, d4, rfl, hown, hb4⟩
      have HO4 := Lib.hid hown
      have HB4 := Lib.hid hb4
      clear hown hb4 hlim
      go_wp2_with fail
      go_ret
      exact ⟨q4, l3, d4, rfl, HL3.out, own_base HO4.out HK3.out.size, HK3.out.call HB4.out⟩
end Go.Proofs.YtacmnibhdmeidaaDoor
