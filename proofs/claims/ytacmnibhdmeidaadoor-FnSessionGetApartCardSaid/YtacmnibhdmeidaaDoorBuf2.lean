/-
  bytes.Buffer: Write, WriteByte, Bytes.
-/
import Derived.Test.YtacmnibhdmeidaaDoorBuf1
namespace Go.Proofs.YtacmnibhdmeidaaDoor
open Go Go.RowKit

section
variable {T : TypeId} {R : Nat → Option Value} {b o n : Nat} {bs : List Int} {w w1 : World}
theorem grow_any (row : Option Nat) (h : BufP w T R b o bs row) (hn : 1 ≤ n) (hroom : ∀ a l c, w.cell? ⟨b, o, none⟩ = some (.slice a l c) → c < l + n) (hm : bs.length + n ≤ 1099511627776) :
    Calls Tryd.prog 82 #[.pointer (some ⟨b, o, none⟩), .int .i64 n] w (Grew T R b o bs n w) := by
  obtain ⟨v, lr, h3, h4⟩ := h
  rcases h4 with ⟨rfl, _, rfl⟩ | ⟨g, cap, cur, _, hgb, rfl, h0, hg, hlc, hcm, hcs, htk⟩
  · by_cases h64 : n ≤ 64
    · exact grow_small T R b o n lr w h3 hn h64
    · exact grow_big T R b o n lr w h3 (by omega) (by simpa using hm)
  · exact grow_row T R b o n g cap bs.length lr cur bs w h3 rfl hg hlc hcs htk hgb h0 (hroom _ _ _ h3.c0) hm
end

/-- What a writer leaves. -/
def Wrote (T : TypeId) (R : Nat → Option Value) (b o : Nat) (bs : List Int) (row : Option Nat) (v : Value) (w : World) (e : Ending) (w' : World) : Prop :=
  ∃ row', e = .returned v ∧ BufP w' T R b o bs row' ∧ Stp b row row' w w'

theorem setCell_stp {b : Nat} {row : Option Nat} {w : World} {p : Addr} (h : p.block = b ∨ row = some p.block) (v : Value) : Stp b row row w (w.setCell p v) :=
  ⟨rfl, rfl, rfl, by simp [World.setCell], fun i _ hb hr => Below.heap_setCell w p v i (by
    rcases h with h | h
    · omega
    · rintro rfl; exact hr h.symm), .inl rfl⟩
theorem setRow_stp {b g : Nat} {w : World} (cs : Array Value) : Stp b (some g) (some g) w (w.setRow g cs) :=
  ⟨rfl, rfl, rfl, by simp, fun i _ _ hr => setRow_other w g i cs (fun e => hr (by rw [e])), .inl rfl⟩

/-- A row with room: some bytes behind the old ones. -/
theorem wrote_row {T : TypeId} {R : Nat → Option Value} {b o g cap l : Nat} {lr : Int} {cur : Array Value} {bs ys : List Int} {w : World} (hl : bs.length = l) (h : LibA.Three w b o T R (.slice (some ⟨g, 0, none⟩) (l + ys.length) cap) (.int .i64 0) (.int .i8 lr)) (hg : w.heap[g]? = some (.cells cur 5 (0, 0)))
    (hgb : g ≠ b) (hlc : l + ys.length ≤ cap) (hcm : cap ≤ maxLen) (hcs : cur.size = cap) (htk : cur.toList.take l = bs.map (Value.int .u8)) (h0 : 0 < l + ys.length) :
    BufP (w.setRow g (cur.toList.take l ++ ys.map (Value.int .u8) ++ cur.toList.drop (l + (ys.map (Value.int .u8)).length)).toArray) T R b o (bs ++ ys) (some g) := by
  subst hl
  have hcl : cur.toList.length = cap := by simpa using hcs
  refine ⟨_, lr, (h.of_heap (setRow_other _ _ _ _ (Ne.symm hgb))), .inr ⟨g, cap, _, rfl, hgb, by rw [List.length_append], by rw [List.length_append]; exact h0, setRow_heap w g cur _ _ _ hg, by rw [List.length_append]; exact hlc, hcm, ?_, ?_⟩⟩
  · simp; omega
  · rw [htk, ← List.map_append, List.toList_toArray, List.take_left' (by simp)]

theorem info1b : (Tryd.prog.info? 5).map (·.size) = some 1 := by kernel_rfl
theorem copy_nil (W : World) (d s : Option Addr) (dl dc c : Nat) : (Builtin.copy_ #[26, 26] 3 #[.slice d dl dc, .slice s 0 c]).run Tryd.prog W = .ok (.int .i64 0) W := run_copy_none W 26 26 3 5 d s dl dc 0 c Tryd.underlying26 info1b (by simp)

set_option maxRecDepth 100000 in
set_option maxHeartbeats 4000000 in
theorem write_nil0 (T : TypeId) (R : Nat → Option Value) (b o : Nat) (lr : Int) (q : Option Addr) (m : Nat) (w : World) (h : LibA.Three w b o T R (.slice none 0 0) (.int .i64 0) (.int .i8 lr)) :
    Calls Tryd.prog 65 #[.pointer (some ⟨b, o, none⟩), .slice q 0 m] w (Wrote T R b o [] none (.tuple #[.int .i64 0, .nilIface]) w) := by
  have c2 := h.c2
  have f2 := h.f (o + 2)
  have CN := copy_nil
  have H3 := Lib.hid (h.set2 (.int .i8 0))
  have HG := Lib.hid (Lib.grownBy_setCell w b (o + 2) (.int .i8 0))
  have TG := Lib.hid (fun W c f => Tryd.Buffer_tryGrow_room_at b o none 0 0 0 W c f (Nat.le_refl _) (by decide) (by omega))
  clear h
  go_enter Tryd.func65, Tryd.ntmps65
  go_wp2_with fail
  refine (TG.out _ H3.out.c0 (H3.out.f o)).mono ?_
  rintro e w2 ⟨rfl, hw2⟩
  have e0 : w2.cell? ⟨b, o, none⟩ = some (.slice none 0 0) := by rw [hw2]; exact (H3.out.set0 _).c0
  have HW := Lib.hid hw2
  clear hw2 c2 f2
  go_wp2_with fail
  go_ret2
  refine ⟨none, rfl, ?_, ?_⟩
  · rw [HW.out]; exact ⟨_, 0, H3.out.set0 _, .inl ⟨rfl, rfl, rfl⟩⟩
  · rw [HW.out]; exact (Stp.of_grown HG.out).trans (setCell_stp (p := ⟨b, o, none⟩) (.inl rfl) _)

/-- What is known of a buffer with a row. -/
def RowB (w : World) (T : TypeId) (R : Nat → Option Value) (b o : Nat) (bs : List Int) (g l cap : Nat) (cur : Array Value) (lr : Int) : Prop := LibA.Three w b o T R (.slice (some ⟨g, 0, none⟩) l cap) (.int .i64 0) (.int .i8 lr) ∧ g ≠ b ∧ bs.length = l ∧ 0 < l ∧ w.heap[g]? = some (.cells cur 5 (0, 0)) ∧ l ≤ cap ∧ cap ≤ maxLen ∧ cur.size = cap ∧ cur.toList.take l = bs.map (Value.int .u8)
theorem RowB.buf {w : World} {T : TypeId} {R : Nat → Option Value} {b o : Nat} {bs : List Int} {g l cap : Nat} {cur : Array Value} {lr : Int} (h : RowB w T R b o bs g l cap cur lr) : BufP w T R b o bs (some g) := by
  obtain ⟨h3, hgb, rfl, h0, hg, hlc, hcm, hcs, htk⟩ := h
  exact ⟨_, lr, h3, .inr ⟨g, cap, cur, rfl, hgb, rfl, h0, hg, hlc, hcm, hcs, htk⟩⟩

set_option maxRecDepth 100000 in
set_option maxHeartbeats 4000000 in
theorem write_row0 (T : TypeId) (R : Nat → Option Value) (b o g l cap : Nat) (cur : Array Value) (bs : List Int) (lr : Int) (q : Option Addr) (m : Nat) (w : World) (h : RowB w T R b o bs g l cap cur lr) :
    Calls Tryd.prog 65 #[.pointer (some ⟨b, o, none⟩), .slice q 0 m] w (Wrote T R b o bs (some g) (.tuple #[.int .i64 0, .nilIface]) w) := by
  have HH := Lib.hid h
  obtain ⟨h3, hgb, hl, h0, hg, hlc, hcm, hcs, htk⟩ := h
  have c2 := h3.c2
  have f2 := h3.f (o + 2)
  have CN := copy_nil
  have H3 := Lib.hid (h3.set2 (.int .i8 0))
  have HG := Lib.hid (Lib.grownBy_setCell w b (o + 2) (.int .i8 0))
  have TG := Lib.hid (fun W c f => Tryd.Buffer_tryGrow_room_at b o (some ⟨g, 0, none⟩) l cap 0 W c f hlc hcm (by omega))
  have i0 : (l : Int) ≤ (cap : Int) := by omega
  have hcm' := hcm
  unfold maxLen at hcm'
  have i1 : (cap : Int) ≤ 9223372036854775807 := by omega
  clear h3 hg htk hcs hl hcm hcm'
  go_enter Tryd.func65, Tryd.ntmps65
  go_wp2_with fail
  refine (TG.out _ H3.out.c0 (H3.out.f o)).mono ?_
  rintro e w2 ⟨rfl, hw2⟩
  have e0 : w2.cell? ⟨b, o, none⟩ = some (.slice (some ⟨g, 0, none⟩) l cap) := by rw [hw2]; exact (H3.out.set0 _).c0
  have HW := Lib.hid hw2
  clear hw2 c2 f2
  go_wp2_with fail
  all_goals
    go_ret2
    obtain ⟨h3, hgb, hl, h0, hg, r⟩ := HH.out
    refine ⟨some g, rfl, ?_, ?_⟩
    · rw [HW.out]
      have h3' := (H3.out.set0 (.slice (some ⟨g, 0, none⟩) l cap))
      exact RowB.buf (cur := cur) (l := l) (cap := cap) (lr := 0) ⟨h3', hgb, hl, h0, (Below.heap_setCell _ _ _ _ hgb).trans ((Below.heap_setCell _ _ _ _ hgb).trans hg), r⟩
    · rw [HW.out]; exact (Stp.of_grown HG.out).trans (setCell_stp (p := ⟨b, o, none⟩) (.inl rfl) _)

set_option maxRecDepth 100000 in
set_option maxHeartbeats 4000000 in
theorem write_room (T : TypeId) (R : Nat → Option Value) (b o g l cap : Nat) (cur : Array Value) (bs ys : List Int) (lr : Int) (q : Addr) (k m : Nat) (w : World) (h : RowB w T R b o bs g l cap cur lr) (hk : ys.length = k) (h0 : 0 < k) (hroom : l + k ≤ cap) (hin : Lib.BytesIn w (some q) k ys) (hq : q.block ≠ b) :
    Calls Tryd.prog 65 #[.pointer (some ⟨b, o, none⟩), .slice (some q) k m] w (Wrote T R b o (bs ++ ys) (some g) (.tuple #[.int .i64 k, .nilIface]) w) := by
  have HH := Lib.hid h
  obtain ⟨h3, hgb, hl, _, hg, hlc, hcm, hcs, htk⟩ := h
  have c2 := h3.c2
  have f2 := h3.f (o + 2)
  have H3 := Lib.hid (h3.set2 (.int .i8 0))
  have HG := Lib.hid (Lib.grownBy_setCell w b (o + 2) (.int .i8 0))
  have TG := Lib.hid (fun W c f => Tryd.Buffer_tryGrow_room_at b o (some ⟨g, 0, none⟩) l cap k W c f hlc hcm (by omega))
  have i0 : (l : Int) ≤ (cap : Int) := by omega
  have i2 : (l : Int) + (k : Int) ≤ (cap : Int) := by omega
  have e1 : (cap = l) = False := by simp; omega
  have e2 : l + k - l = k := by omega
  have hcm' := hcm
  unfold maxLen at hcm'
  have i1 : (cap : Int) ≤ 9223372036854775807 := by omega
  have i3 : (0 : Int) < (k : Int) := by omega
  have HK := Lib.hid hk
  have HIN := Lib.hid hin
  have HQ := Lib.hid hq
  have HR := Lib.hid hroom
  have H0 := Lib.hid h0
  clear h3 hg htk hcs hl hcm hcm' hk hin hroom h0
  go_enter Tryd.func65, Tryd.ntmps65
  go_wp2_with fail
  refine (TG.out _ H3.out.c0 (H3.out.f o)).mono ?_
  rintro e w2 ⟨rfl, hw2⟩
  have e0 : w2.cell? ⟨b, o, none⟩ = some (.slice (some ⟨g, 0, none⟩) (l + k) cap) := by rw [hw2]; exact (H3.out.set0 _).c0
  have HW := Lib.hid hw2
  have hgg : w2.heap[g]? = some (.cells cur 5 (0, 0)) := by rw [hw2]; exact (Below.heap_setCell _ _ _ _ hgb).trans ((Below.heap_setCell _ _ _ _ hgb).trans HH.out.2.2.2.2.1)
  have hg2 : w.grownBy w2 (some b) := by rw [hw2]; exact grown_trans HG.out (Lib.grownBy_setCell _ b o _)
  have hsrc : ∀ j v, (ys.map (Value.int .u8))[j]? = some v → w2.cell? (q.add j) = some v := fun j v hj => by
    have hj' : j < ys.length := by have := (List.getElem?_eq_some_iff.1 hj).1; simpa using this
    obtain ⟨b', o', he, hc⟩ := HIN.out H0.out
    injection he with he
    subst he
    rw [Go.WideShapes.add_plain, grown_cell hg2 (hc j (by have := HK.out; omega)) HQ.out]
    simpa [List.getD, List.getElem?_eq_getElem hj'] using hj
  have hcp := run_copy_row (P := Tryd.prog) w2 26 26 3 5 g l k (cap - l) q k m cur 5 (ys.map (Value.int .u8)) Tryd.underlying26 info1b hgg (by rw [List.length_map, HK.out]; exact (Nat.min_self k).symm) hsrc (by rw [List.length_map, HK.out, HH.out.2.2.2.2.2.2.2.1]; exact HR.out) (oneInts ys)
  rw [List.length_map, HK.out] at hcp
  have HGG := Lib.hid hgg
  have HG2 := Lib.hid hg2
  clear hw2 c2 f2 hgg hg2 hsrc
  go_wp2_with fail
  go_ret2
  obtain ⟨h3, hgb, hl, h0, hg, hlc, hcm, hcs, htk⟩ := HH.out
  have h3' := H3.out.set0 (.slice (some ⟨g, 0, none⟩) (l + k) cap)
  rw [← HW.out, ← HK.out] at h3'
  refine ⟨some g, rfl, ?_, (Stp.of_grown HG2.out).trans (setRow_stp _)⟩
  have := wrote_row hl h3' HGG.out hgb (by rw [HK.out]; exact HR.out) hcm hcs htk (by omega)
  rw [List.length_map, HK.out, List.append_assoc] at this
  exact this

set_option maxRecDepth 100000 in
set_option maxHeartbeats 4000000 in
theorem write_grow (T : TypeId) (R : Nat → Option Value) (b o : Nat) (a0 : Option Addr) (l cap : Nat) (bs ys : List Int) (row : Option Nat) (q : Addr) (k m : Nat) (w : World) (h : BufP w T R b o bs row) (h0c : w.cell? ⟨b, o, none⟩ = some (.slice a0 l cap)) (hl : bs.length = l) (hlc : l ≤ cap) (hcm : cap ≤ maxLen) (hk : ys.length = k) (h0 : 0 < k) (hroom : cap < l + k) (hlim : l + k ≤ 1099511627776) (hin : Lib.BytesIn w (some q) k ys) (hq : q.block ≠ b) :
    Calls Tryd.prog 65 #[.pointer (some ⟨b, o, none⟩), .slice (some q) k m] w (Wrote T R b o (bs ++ ys) row (.tuple #[.int .i64 k, .nilIface]) w) := by
  obtain ⟨h1, hg1⟩ := h.last
  obtain ⟨lr0, c2⟩ : ∃ lr, w.cell? ⟨b, o + 2, none⟩ = some (.int .i8 lr) := by obtain ⟨v, lr, h3, _⟩ := h; exact ⟨lr, h3.c2⟩
  have f2 : w.frozen? ⟨b, o + 2, none⟩ = false := by obtain ⟨v, lr, h3, _⟩ := h; exact h3.f (o + 2)
  have d0 : (w.setCell ⟨b, o + 2, none⟩ (.int .i8 0)).cell? ⟨b, o, none⟩ = some (.slice a0 l cap) := by
    rw [World.cell?_setCell_other _ _ _ _ (fun e => by injection e; omega)]; exact h0c
  have TG := Lib.hid (fun W c => Tryd.Buffer_tryGrow_none_at b o a0 l cap k W c hlc hcm (by omega))
  have GR := Lib.hid (grow_any row h1 (n := k) h0 (fun a l' c' hc => by rw [d0] at hc; injection hc with hc; injection hc with _ h2 h3; omega) (by rw [hl]; exact hlim))
  have i2 : (l : Int) + (k : Int) ≤ 1099511627776 := by omega
  have i3 : (0 : Int) < (k : Int) := by omega
  have e2 : l + k - l = k := by omega
  have HB := Lib.hid h.lt
  have HL := Lib.hid hl
  have HK := Lib.hid hk
  have HIN := Lib.hid hin
  have HQ := Lib.hid hq
  have H0 := Lib.hid h0
  have HG1 := Lib.hid hg1
  clear h h1 hg1 h0c hl hlc hcm hk h0 hroom hlim hin
  go_enter Tryd.func65, Tryd.ntmps65
  go_wp2_with fail
  refine (TG.out _ d0).mono ?_
  rintro e w2 ⟨rfl, rfl⟩
  go_wp2_with fail
  refine GR.out.mono ?_
  rintro e w3 ⟨cap2, cur, lr, rfl, h3, hN, hc1, hc2, hcs, htk, hg3⟩
  rw [HL.out] at h3 hc1 htk
  rw [HL.out]
  have hs : (w.setCell ⟨b, o + 2, none⟩ (.int .i8 0)).heap.size = w.heap.size := by simp [World.setCell]
  rw [hs] at h3 hN
  have e0 : w3.cell? ⟨b, o, none⟩ = some (.slice (some ⟨w.heap.size, 0, none⟩) (l + k) cap2) := h3.c0
  have hg2 : w.grownBy w3 (some b) := grown_trans HG1.out hg3
  have hsrc : ∀ j v, (ys.map (Value.int .u8))[j]? = some v → w3.cell? (q.add j) = some v := fun j v hj => by
    have hj' : j < ys.length := by have := (List.getElem?_eq_some_iff.1 hj).1; simpa using this
    obtain ⟨b', o', he, hc⟩ := HIN.out H0.out
    injection he with he
    subst he
    rw [Go.WideShapes.add_plain, grown_cell hg2 (hc j (by have := HK.out; omega)) HQ.out]
    simpa [List.getD, List.getElem?_eq_getElem hj'] using hj
  have hcp := run_copy_row (P := Tryd.prog) w3 26 26 3 5 w.heap.size l k (cap2 - l) q k m cur 5 (ys.map (Value.int .u8)) Tryd.underlying26 info1b hN (by rw [List.length_map, HK.out]; exact (Nat.min_self k).symm) hsrc (by rw [List.length_map, HK.out, hcs]; exact hc1) (oneInts ys)
  rw [List.length_map, HK.out] at hcp
  have i4 : (l : Int) + (k : Int) ≤ (cap2 : Int) := by omega
  have hc2' := hc2
  unfold maxLen at hc2'
  have i5 : (cap2 : Int) ≤ 9223372036854775807 := by omega
  have e1 : (cap2 = l) = False := by simp; have := H0.out; omega
  have H3 := Lib.hid h3
  have HN := Lib.hid hN
  have HC1 := Lib.hid hc1
  have HC2 := Lib.hid hc2
  have HCS := Lib.hid hcs
  have HTK := Lib.hid htk
  have HG2 := Lib.hid hg2
  clear d0 c2 f2 h3 hN hc1 hc2 hc2' hcs htk hg3 hg2 hsrc hs
  go_wp2_with fail
  go_ret2
  have hne : w.heap.size ≠ b := by have := HB.out; omega
  refine ⟨some w.heap.size, rfl, ?_, (Stp.trans (row1 := some w.heap.size) ⟨HG2.out.os, HG2.out.tape, HG2.out.output, HG2.out.size, fun i hi hb _ => HG2.out.block i hi (fun e => by injection e; omega), .inr ⟨_, rfl, Nat.le_refl _⟩⟩ (setRow_stp _))⟩
  have := wrote_row HL.out (by rw [HK.out]; exact H3.out) HN.out hne (by rw [HK.out]; exact HC1.out) HC2.out HCS.out HTK.out (by have := H0.out; have := HK.out; omega)
  rw [List.length_map, HK.out, List.append_assoc] at this
  exact this

/-- Write: some bytes that lie in no block of the buffer's. -/
theorem write_any (T : TypeId) (R : Nat → Option Value) (b o : Nat) (bs ys : List Int) (row : Option Nat) (q : Option Addr) (k m : Nat) (w : World) (h : BufP w T R b o bs row) (hk : ys.length = k) (hlim : bs.length + k ≤ 1099511627776) (hin : Lib.BytesIn w q k ys) (hq : ∀ a, q = some a → a.block ≠ b) :
    Calls Tryd.prog 65 #[.pointer (some ⟨b, o, none⟩), .slice q k m] w (Wrote T R b o (bs ++ ys) row (.tuple #[.int .i64 k, .nilIface]) w) := by
  rcases Nat.eq_zero_or_pos k with h0 | h0
  · subst h0
    obtain rfl := List.eq_nil_of_length_eq_zero hk
    rw [List.append_nil]
    obtain ⟨v, lr, h3, h4⟩ := h
    rcases h4 with ⟨rfl, rfl, rfl⟩ | ⟨g, cap, cur, rfl, hgb, rfl, h0, hg, hlc, hcm, hcs, htk⟩
    · exact write_nil0 T R b o lr q m w h3
    · exact write_row0 T R b o g bs.length cap cur bs lr q m w ⟨h3, hgb, rfl, h0, hg, hlc, hcm, hcs, htk⟩
  · obtain ⟨b', o', rfl, _⟩ := hin h0
    have hb := hq _ rfl
    have hh := h
    obtain ⟨v, lr, h3, h4⟩ := h
    rcases h4 with ⟨rfl, rfl, rfl⟩ | ⟨g, cap, cur, rfl, hgb, rfl, hl0, hg, hlc, hcm, hcs, htk⟩
    · exact write_grow T R b o none 0 0 [] ys none _ k m w hh h3.c0 rfl (Nat.le_refl _) (by decide) hk h0 (by omega) (by simpa using hlim) hin hb
    · by_cases hr : bs.length + k ≤ cap
      · exact write_room T R b o g bs.length cap cur bs ys lr _ k m w ⟨h3, hgb, rfl, hl0, hg, hlc, hcm, hcs, htk⟩ hk h0 hr hin hb
      · exact write_grow T R b o _ bs.length cap bs ys (some g) _ k m w hh h3.c0 rfl hlc hcm hk h0 (by omega) hlim hin hb

/-- A row with room: one byte behind the old ones. -/
theorem poked_row {T : TypeId} {R : Nat → Option Value} {b o g cap l : Nat} {lr : Int} {cur : Array Value} {bs : List Int} {x : Int} {w : World} (hl : bs.length = l) (h : LibA.Three w b o T R (.slice (some ⟨g, 0, none⟩) (l + 1) cap) (.int .i64 0) (.int .i8 lr)) (hg : w.heap[g]? = some (.cells cur 5 (0, 0)))
    (hgb : g ≠ b) (hlc : l + 1 ≤ cap) (hcm : cap ≤ maxLen) (hcs : cur.size = cap) (htk : cur.toList.take l = bs.map (Value.int .u8)) :
    BufP (w.setCell ⟨g, l, none⟩ (.int .u8 x)) T R b o (bs ++ [x]) (some g) := by
  subst hl
  have hcl : cur.toList.length = cap := by simpa using hcs
  refine ⟨_, lr, (h.of_heap (Below.heap_setCell _ _ _ _ (Ne.symm hgb))), .inr ⟨g, cap, _, rfl, hgb, by rw [List.length_append]; rfl, by simp, Lib.heap_setCell_same (i := bs.length) hg _, by rw [List.length_append]; exact hlc, hcm, by simpa using hcs, ?_⟩⟩
  rw [List.length_append, List.map_append, Array.toList_setIfInBounds, List.length_singleton, List.take_add_one, List.take_set_of_le (Nat.le_refl _), htk, List.getElem?_set_self (by omega)]
  rfl

set_option maxRecDepth 100000 in
set_option maxHeartbeats 4000000 in
theorem byte_room (T : TypeId) (R : Nat → Option Value) (b o g l cap : Nat) (cur : Array Value) (bs : List Int) (x lr : Int) (w : World) (h : RowB w T R b o bs g l cap cur lr) (hroom : l + 1 ≤ cap) :
    Calls Tryd.prog 66 #[.pointer (some ⟨b, o, none⟩), .int .u8 x] w (Wrote T R b o (bs ++ [x]) (some g) .nilIface w) := by
  have HH := Lib.hid h
  obtain ⟨h3, hgb, hl, _, hg, hlc, hcm, hcs, htk⟩ := h
  have c2 := h3.c2
  have f2 := h3.f (o + 2)
  have H3 := Lib.hid (h3.set2 (.int .i8 0))
  have HG := Lib.hid (Lib.grownBy_setCell w b (o + 2) (.int .i8 0))
  have TG := Lib.hid (fun W c f => Tryd.Buffer_tryGrow_room_at b o (some ⟨g, 0, none⟩) l cap 1 W c f hlc hcm (by omega))
  have i2 : (l : Int) < (cap : Int) := by omega
  have hcm' := hcm
  unfold maxLen at hcm'
  have i1 : (cap : Int) ≤ 9223372036854775807 := by omega
  have HR := Lib.hid hroom
  clear h3 hg htk hl hcm hcm' hroom
  go_enter Tryd.func66, Tryd.ntmps66
  go_wp2_with fail
  refine (TG.out _ H3.out.c0 (H3.out.f o)).mono ?_
  rintro e w2 ⟨rfl, hw2⟩
  have e0 : w2.cell? ⟨b, o, none⟩ = some (.slice (some ⟨g, 0, none⟩) (l + 1) cap) := by rw [hw2]; exact (H3.out.set0 _).c0
  have hgg : w2.heap[g]? = some (.cells cur 5 (0, 0)) := by rw [hw2]; exact (Below.heap_setCell _ _ _ _ hgb).trans ((Below.heap_setCell _ _ _ _ hgb).trans HH.out.2.2.2.2.1)
  have hg2 : w.grownBy w2 (some b) := by rw [hw2]; exact grown_trans HG.out (Lib.grownBy_setCell _ b o _)
  obtain ⟨u, e1⟩ : ∃ u, w2.cell? ⟨g, l, none⟩ = some u := ⟨_, by rw [Lib.cell_of_heap hgg]; exact Array.getElem?_eq_getElem (by have := HR.out; omega)⟩
  have e2 : w2.frozen? ⟨g, l, none⟩ = false := Lib.frozen_of_heap hgg l
  have HW := Lib.hid hw2
  have HGG := Lib.hid hgg
  have HG2 := Lib.hid hg2
  clear hw2 c2 f2 hgg hg2 hcs
  go_wp2_with fail
  go_ret
  obtain ⟨h3, hgb, hl, h0, hg, hlc, hcm, hcs, htk⟩ := HH.out
  have h3' := H3.out.set0 (.slice (some ⟨g, 0, none⟩) (l + 1) cap)
  rw [← HW.out] at h3'
  exact ⟨some g, rfl, poked_row hl h3' HGG.out hgb HR.out hcm hcs htk, (Stp.of_grown HG2.out).trans (setCell_stp (p := ⟨g, l, none⟩) (.inr rfl) _)⟩

set_option maxRecDepth 100000 in
set_option maxHeartbeats 4000000 in
theorem byte_grow (T : TypeId) (R : Nat → Option Value) (b o : Nat) (a0 : Option Addr) (l cap : Nat) (bs : List Int) (x : Int) (row : Option Nat) (w : World) (h : BufP w T R b o bs row) (h0c : w.cell? ⟨b, o, none⟩ = some (.slice a0 l cap)) (hl : bs.length = l) (hlc : l ≤ cap) (hcm : cap ≤ maxLen) (hroom : cap < l + 1) (hlim : l + 1 ≤ 1099511627776) :
    Calls Tryd.prog 66 #[.pointer (some ⟨b, o, none⟩), .int .u8 x] w (Wrote T R b o (bs ++ [x]) row .nilIface w) := by
  obtain ⟨h1, hg1⟩ := h.last
  obtain ⟨lr0, c2⟩ : ∃ lr, w.cell? ⟨b, o + 2, none⟩ = some (.int .i8 lr) := by obtain ⟨v, lr, h3, _⟩ := h; exact ⟨lr, h3.c2⟩
  have f2 : w.frozen? ⟨b, o + 2, none⟩ = false := by obtain ⟨v, lr, h3, _⟩ := h; exact h3.f (o + 2)
  have d0 : (w.setCell ⟨b, o + 2, none⟩ (.int .i8 0)).cell? ⟨b, o, none⟩ = some (.slice a0 l cap) := by
    rw [World.cell?_setCell_other _ _ _ _ (fun e => by injection e; omega)]; exact h0c
  have TG := Lib.hid (fun W c => Tryd.Buffer_tryGrow_none_at b o a0 l cap 1 W c hlc hcm (by omega))
  have GR := Lib.hid (grow_any row h1 (n := 1) (Nat.le_refl _) (fun a l' c' hc => by rw [d0] at hc; injection hc with hc; injection hc with _ h2 h3; omega) (by rw [hl]; exact hlim))
  have i2 : (l : Int) < 1099511627776 := by omega
  have HB := Lib.hid h.lt
  have HL := Lib.hid hl
  have HG1 := Lib.hid hg1
  clear h h1 hg1 h0c hl hlc hcm hroom hlim
  go_enter Tryd.func66, Tryd.ntmps66
  go_wp2_with fail
  refine (TG.out _ d0).mono ?_
  rintro e w2 ⟨rfl, rfl⟩
  go_wp2_with fail
  refine GR.out.mono ?_
  rintro e w3 ⟨cap2, cur, lr, rfl, h3, hN, hc1, hc2, hcs, htk, hg3⟩
  rw [HL.out] at h3 hc1 htk
  rw [HL.out]
  have hs : (w.setCell ⟨b, o + 2, none⟩ (.int .i8 0)).heap.size = w.heap.size := by simp [World.setCell]
  rw [hs] at h3 hN
  have e0 : w3.cell? ⟨b, o, none⟩ = some (.slice (some ⟨w.heap.size, 0, none⟩) (l + 1) cap2) := h3.c0
  have hg2 : w.grownBy w3 (some b) := grown_trans HG1.out hg3
  obtain ⟨u, e1⟩ : ∃ u, w3.cell? ⟨w.heap.size, l, none⟩ = some u := ⟨_, by rw [Lib.cell_of_heap hN]; exact Array.getElem?_eq_getElem (by omega)⟩
  have e2 : w3.frozen? ⟨w.heap.size, l, none⟩ = false := Lib.frozen_of_heap hN l
  have i4 : (l : Int) < (cap2 : Int) := by omega
  have hc2' := hc2
  unfold maxLen at hc2'
  have i5 : (cap2 : Int) ≤ 9223372036854775807 := by omega
  have H3 := Lib.hid h3
  have HN := Lib.hid hN
  have HC1 := Lib.hid hc1
  have HC2 := Lib.hid hc2
  have HCS := Lib.hid hcs
  have HTK := Lib.hid htk
  have HG2 := Lib.hid hg2
  clear d0 c2 f2 h3 hN hc1 hc2 hc2' hcs htk hg3 hg2 hs
  go_wp2_with fail
  go_ret
  have hne : w.heap.size ≠ b := by have := HB.out; omega
  exact ⟨some w.heap.size, rfl, poked_row HL.out H3.out HN.out hne HC1.out HC2.out HCS.out HTK.out, (Stp.trans (row1 := some w.heap.size) ⟨HG2.out.os, HG2.out.tape, HG2.out.output, HG2.out.size, fun i hi hb _ => HG2.out.block i hi (fun e => by injection e; omega), .inr ⟨_, rfl, Nat.le_refl _⟩⟩ (setCell_stp (p := ⟨w.heap.size, l, none⟩) (.inr rfl) _))⟩

/-- WriteByte. -/
theorem byte_any (T : TypeId) (R : Nat → Option Value) (b o : Nat) (bs : List Int) (x : Int) (row : Option Nat) (w : World) (h : BufP w T R b o bs row) (hlim : bs.length + 1 ≤ 1099511627776) :
    Calls Tryd.prog 66 #[.pointer (some ⟨b, o, none⟩), .int .u8 x] w (Wrote T R b o (bs ++ [x]) row .nilIface w) := by
  have hh := h
  obtain ⟨v, lr, h3, h4⟩ := h
  rcases h4 with ⟨rfl, rfl, rfl⟩ | ⟨g, cap, cur, rfl, hgb, rfl, hl0, hg, hlc, hcm, hcs, htk⟩
  · exact byte_grow T R b o none 0 0 [] x none w hh h3.c0 rfl (Nat.le_refl _) (by decide) (by omega) (by omega)
  · by_cases hr : bs.length + 1 ≤ cap
    · exact byte_room T R b o g bs.length cap cur bs x lr w ⟨h3, hgb, rfl, hl0, hg, hlc, hcm, hcs, htk⟩ hr
    · exact byte_grow T R b o _ bs.length cap bs x (some g) w hh h3.c0 rfl hlc hcm (by omega) hlim

set_option maxRecDepth 100000 in
set_option maxHeartbeats 4000000 in
theorem bytes_row (T : TypeId) (R : Nat → Option Value) (b o l cap : Nat) (lr : Int) (a : Option Addr) (w : World) (h : LibA.Three w b o T R (.slice a l cap) (.int .i64 0) (.int .i8 lr)) (hm : cap ≤ maxLen) (hlc : l ≤ cap) :
    Calls Tryd.prog 46 #[.pointer (some ⟨b, o, none⟩)] w fun e w' => e = .returned (.slice a l cap) ∧ ∃ nq, w' = w.drewN nq := by
  have c0 := h.c0
  have c1 := h.c1
  unfold maxLen at hm
  have i0 : (l : Int) ≤ (cap : Int) := by omega
  have i1 : (cap : Int) ≤ 9223372036854775807 := by omega
  clear h
  go_enter Tryd.func46, Tryd.ntmps46
  go_wp2
  go_quiet (fail)
  go_wp2
  all_goals
    go_ret
    exact ⟨by simp, _, rfl⟩

/-- What Bytes returns: the row. -/
def BytesOf (bs : List Int) (row : Option Nat) (w : World) (e : Ending) (w' : World) : Prop := ∃ a l cap nq, e = .returned (.slice a l cap) ∧ bs.length = l ∧ l ≤ cap ∧ cap ≤ maxLen ∧ Lib.BytesIn w' a l bs ∧ (∀ p, a = some p → ∃ g, row = some g ∧ p = ⟨g, 0, none⟩) ∧ w' = w.drewN nq
theorem bytes_any (T : TypeId) (R : Nat → Option Value) (b o : Nat) (bs : List Int) (row : Option Nat) (w : World) (h : BufP w T R b o bs row) :
    Calls Tryd.prog 46 #[.pointer (some ⟨b, o, none⟩)] w (BytesOf bs row w) := by
  obtain ⟨v, lr, h3, h4⟩ := h
  rcases h4 with ⟨rfl, rfl, rfl⟩ | ⟨g, cap, cur, rfl, hgb, rfl, h0, hg, hlc, hcm, hcs, htk⟩
  · refine (bytes_row T R b o 0 0 lr none w h3 (by decide) (Nat.le_refl _)).mono ?_
    rintro e w' ⟨rfl, nq, rfl⟩
    exact ⟨none, 0, 0, nq, rfl, rfl, Nat.le_refl _, by decide, Lib.BytesIn.nil _ _ _, (fun p hp => by cases hp), rfl⟩
  · refine (bytes_row T R b o bs.length cap lr _ w h3 hcm hlc).mono ?_
    rintro e w' ⟨rfl, nq, rfl⟩
    refine ⟨_, _, cap, nq, rfl, rfl, hlc, hcm, fun _ => ⟨g, 0, rfl, fun j hj => ?_⟩, fun p hp => ⟨g, rfl, (Option.some.inj hp).symm⟩, rfl⟩
    have hcl : cur.toList.length = cap := by simpa using hcs
    show w.cell? _ = _
    rw [Nat.zero_add, Lib.cell_of_heap hg]
    have h1 : cur[j]? = cur.toList[j]? := by simp
    have h2 : (cur.toList.take bs.length)[j]? = cur.toList[j]? := by rw [List.getElem?_take, if_pos hj]
    rw [h1, ← h2, htk]
    simp [List.getD, List.getElem?_eq_getElem hj]
end Go.Proofs.YtacmnibhdmeidaaDoor
