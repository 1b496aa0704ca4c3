/-
  spec.ConfigParts.
-/
import Derived.Test.YtcdbnjhkjfimkaaDoorUrl8
namespace Go.Proofs.YtcdbnjhkjfimkaaDoor
open Go Go.RowKit

def joinH (h : List UInt8) : List (List UInt8) → List (List UInt8)
  | [] => [h]
  | x :: t => (h ++ x) :: t
theorem splitC_ne : ∀ l : List UInt8, splitC l ≠ []
  | [] => by simp [splitC]
  | c :: l => by
    rw [splitC]
    split
    · simp
    · split <;> simp
theorem joinH_nil (L : List (List UInt8)) (h : L ≠ []) : joinH [] L = L := by
  cases L with
  | nil => exact absurd rfl h
  | cons x t => rfl
theorem joinH_comma (h : List UInt8) (l : List UInt8) : joinH h (splitC (44 :: l)) = h :: joinH [] (splitC l) := by
  rw [joinH_nil _ (splitC_ne l), splitC, if_pos rfl]
  simp [joinH]
theorem joinH_other (h : List UInt8) (c : UInt8) (l : List UInt8) (hc : ¬ c = 44) : joinH h (splitC (c :: l)) = joinH (h ++ [c]) (splitC l) := by
  rw [splitC, if_neg hc]
  cases splitC l with
  | nil => rfl
  | cons x t => simp [joinH]
theorem cell_same {w w' : World} {b : Nat} (h : w.heap[b]? = w'.heap[b]?) (i : Nat) : w.cell? ⟨b, i, none⟩ = w'.cell? ⟨b, i, none⟩ := by
  simp [World.cell?, h]
/-- The state of ConfigParts behind k bytes. -/
def PtSt (S : List UInt8) (b0 : Nat) (O : Option Obj) (w : World) (k : Nat) (v : Value) (wr : World) : Prop := ∃ A h, StrRow wr w.heap.size v (A ++ [h]) ∧ splitC S = A ++ joinH h (splitC (S.drop k)) ∧ A.length ≤ k ∧ h.length ≤ k ∧ wr.heap[b0]? = O ∧ v.ownBlock ≠ some b0 ∧ b0 < wr.heap.size ∧ Kp w wr
theorem StrRow.form {w : World} {base : Nat} {v : Value} {A : List (List UInt8)} {h : List UInt8} (hr : StrRow w base v (A ++ [h])) : ∃ g cap, v = .slice (some ⟨g, 0, none⟩) (A.length + 1) cap ∧ base ≤ g ∧ g < w.heap.size ∧ cap ≤ maxLen := by
  have hr' := hr
  rcases hr.2 with ⟨rfl, h0⟩ | ⟨g, cap, cur, rfl, hg, h1, _, h2, _⟩
  · simp at h0
  · obtain ⟨hlt, _⟩ := Array.getElem?_eq_some_iff.1 h1
    exact ⟨g, cap, by simp, hg, hlt, h2⟩
theorem getD_drop (S : List UInt8) (k : Nat) (h : k < S.length) : S.drop k = S.getD k 0 :: S.drop (k + 1) := by
  rw [List.drop_eq_getElem_cons h, List.getD_eq_getElem?_getD, List.getElem?_eq_getElem h]; rfl
/-- A comma: a new part. -/
theorem PtSt.add {S : List UInt8} {b0 : Nat} {O : Option Obj} {w : World} {k : Nat} {v : Value} {wr : World} (h : PtSt S b0 O w k v wr) (hk : k < S.length) (hc : S.getD k 0 = 44) (hn : k ≤ 1000) :
    ∃ v1 w5, (Builtin.append_ #[74, 74] 74 #[v, .slice (some ⟨wr.heap.size, 0, none⟩) 1 1]).run Tryd.prog (wr.alloc (.cells #[.string ⟨#[]⟩] 9)) = .ok v1 w5 ∧ PtSt S b0 O w (k + 1) v1 w5 := by
  obtain ⟨A, h, h1, h2, h3, h4, h5, h6, h7, h8⟩ := h
  obtain ⟨v1, w5, r1, r2, r3, r4⟩ := app_one Tryd.underlying74 infoStr rfl (by decide) (by decide) wr w.heap.size v _ _ h1 h8.size (by simp; omega) [.string ⟨#[]⟩] rfl (fun u hu => by rw [List.mem_singleton.1 hu]; rfl)
  refine ⟨v1, w5, r1, A ++ [h], [], ?_, ?_, by simp; omega, by simp, ?_, ?_, ?_, h8.grown r3 (own_ge h1)⟩
  · have e : (A ++ [h] ++ [[]]).length = (A ++ [h]).length + 1 := by simp
    show w5.ownsRow _ _ _ _ (A ++ [h] ++ [[]]).length (strC (A ++ [h] ++ [[]]))
    rw [e, strC_snoc]
    exact r2
  · rw [h2, getD_drop S k hk, hc, joinH_comma]; simp
  · rw [r3.block b0 h7 (fun e => h6 e.symm)]; exact h5
  · rcases r4 with r4 | r4
    · rw [r4]; exact h6
    · rw [r4]; intro e; injection e with e; omega
  · exact Nat.lt_of_lt_of_le h7 (h8.grown r3 (own_ge h1) |> fun _ => r3.size)
/-- A byte onto the last part. -/
theorem PtSt.put {S : List UInt8} {b0 : Nat} {O : Option Obj} {w : World} {k g n cap : Nat} {wr W : World} {A : List (List UInt8)} {h : List UInt8} (h1 : StrRow wr w.heap.size (.slice (some ⟨g, 0, none⟩) n cap) (A ++ [h])) (h2 : splitC S = A ++ joinH h (splitC (S.drop k))) (h3 : A.length ≤ k) (h4 : h.length ≤ k) (h5 : wr.heap[b0]? = O) (h6 : g ≠ b0) (h7 : b0 < wr.heap.size) (h8 : Kp w wr)
    (hk : k < S.length) (hc : ¬ S.getD k 0 = 44) (hW : Kp wr W) (x : ByteArray) (hx : x.data.toList = h ++ [S.getD k 0]) : PtSt S b0 O w (k + 1) (.slice (some ⟨g, 0, none⟩) n cap) (W.setCell ⟨g, A.length, none⟩ (.string x)) := by
  have g1 := own_below h1 hW
  have hn : n = A.length + 1 := by
    obtain ⟨g', cap', e, _⟩ := StrRow.form h1
    injection e
  obtain rfl : n = (A ++ [h]).length := by simp [hn]
  have hm := (own_lt' g1 g rfl)
  have ho := (World.ownsRow.stored g1 A.length (.string x)).1
  refine ⟨A, h ++ [S.getD k 0], ?_, ?_, by omega, by simp; omega, ?_, ?_, ?_, ?_⟩
  · have e : (strC (A ++ [h])).set A.length (.string x) = strC (A ++ [h ++ [S.getD k 0]]) := by
      have ex : x = ⟨(h ++ [S.getD k 0]).toArray⟩ := by rw [← hx, mk_list]
      rw [strC_snoc, strC_snoc, ← ex]
      have hl : (strC A).length = A.length := by simp [strC]
      rw [← hl]
      simp
    have el : (A ++ [h ++ [S.getD k 0]]).length = (A ++ [h]).length := by simp
    show World.ownsRow _ _ _ _ (.slice (some ⟨g, 0, none⟩) (A ++ [h]).length cap) (A ++ [h ++ [S.getD k 0]]).length _
    rw [el, ← e]
    exact ho
  · rw [h2, getD_drop S k hk, joinH_other _ _ _ hc]
  · have := hW.block b0 h7
    rw [heap_setCell_other W ⟨g, A.length, none⟩ b0 (.string x) (by first | exact fun e => h6 e.symm | exact h6)]
    rw [this]; exact h5
  · simpa [Value.ownBlock] using h6
  · have := hW.size; simp; omega
  · exact (h8.trans hW).set hm.1 _

theorem PtSt.kp {S : List UInt8} {b0 : Nat} {O : Option Obj} {w : World} {k : Nat} {v : Value} {wr W : World} (h : PtSt S b0 O w k v wr) (hk : Kp wr W) : PtSt S b0 O w k v W := by
  obtain ⟨A, h, h1, h2, h3, h4, h5, h6, h7, h8⟩ := h
  exact ⟨A, h, own_below h1 hk, h2, h3, h4, by rw [hk.block b0 h7]; exact h5, h6, Nat.lt_of_lt_of_le h7 hk.size, h8.trans hk⟩
/-- string([]byte{c}). -/
theorem one_byte (wr : World) (c : UInt8) (x : Nat) (hx : x = c.toNat) (E : ByteArray) (hE : E = ⟨[c].toArray⟩) :
    Sem.run Tryd.prog (convert 26 9 (.slice (some ⟨wr.heap.size, 0, none⟩) 1 1)) (wr.alloc (.cells #[.int .u8 (x : Int)] 5)).drew = .ok (.string E) (wr.alloc (.cells #[.int .u8 (x : Int)] 5)).drew := by
  have hb : Blk (wr.alloc (.cells #[.int .u8 (x : Int)] 5)).drew wr.heap.size 5 #[.int .u8 (x : Int)] := (Blk.new wr _ _).drew
  subst hE hx
  exact run_convert_bytes_back _ 26 9 5 ⟨wr.heap.size, 0, none⟩ 1 [c] Tryd.underlying26 Tryd.underlying5 Tryd.underlying9 (fun j hj => by
    have : j = 0 := by simpa using hj
    subst this
    exact hb.cell 0)

/-- A text without the blanks around it. -/
def trimL (l : List UInt8) : List UInt8 := l.dropWhile (· == 32)
def trimR (l : List UInt8) : List UInt8 := (trimL l.reverse).reverse
def trimB (l : List UInt8) : List UInt8 := trimR (trimL l)
theorem trimL_blank (l : List UInt8) : trimL (32 :: l) = trimL l := rfl
theorem trimL_other (c : UInt8) (l : List UInt8) (h : c ≠ 32) : trimL (c :: l) = c :: l := by
  have h1 : (c == 32) = false := by simpa using h
  simp [trimL, List.dropWhile, h1]
theorem trimR_blank (l : List UInt8) : trimR (l ++ [32]) = trimR l := by simp [trimR, trimL_blank]
theorem trimR_other (l : List UInt8) (c : UInt8) (h : c ≠ 32) : trimR (l ++ [c]) = l ++ [c] := by simp [trimR, trimL_other _ _ h]
theorem head_list (r : ByteArray) (h : 0 < r.size) : r.data.toList = r[0] :: (r.extract 1 r.size).data.toList := by
  rw [drop_list]
  have := List.drop_eq_getElem_cons (show 0 < r.data.toList.length from h)
  rw [List.drop_zero] at this
  exact this
theorem last_list (r : ByteArray) (h : r.size - 1 < r.size) : r.data.toList = (r.extract 0 (r.size - 1)).data.toList ++ [r[r.size - 1]] := by
  rw [Lib.extract_data, List.drop_zero, Nat.sub_zero]
  have h1 := List.take_succ_eq_append_getElem (show r.size - 1 < r.data.toList.length from h)
  rw [show r.size - 1 + 1 = r.data.toList.length from Nat.sub_add_cancel (Nat.lt_of_le_of_lt (Nat.zero_le _) h), List.take_length] at h1
  exact h1
theorem splitC_len : ∀ (l : List UInt8), ∀ x ∈ splitC l, x.length ≤ l.length
  | [], x, hx => by simp [splitC] at hx; simp [hx]
  | c :: l, x, hx => by
    have ih := splitC_len l
    rw [splitC] at hx
    split at hx
    · rcases List.mem_cons.1 hx with rfl | hx
      · simp
      · have := ih x hx; simp; omega
    · split at hx
      · simp at hx; simp [hx]
      · rename_i y t he
        rcases List.mem_cons.1 hx with rfl | hx
        · have := ih y (by rw [he]; exact List.mem_cons_self); simp; omega
        · have := ih x (by rw [he]; exact List.mem_cons_of_mem _ hx); simp; omega
theorem splitC_count : ∀ (l : List UInt8), (splitC l).length ≤ l.length + 1
  | [] => by simp [splitC]
  | c :: l => by
    have ih := splitC_count l
    rw [splitC]
    split
    · simp; omega
    · split
      · simp
      · rename_i y t he
        rw [he] at ih
        simp at ih ⊢; omega
theorem PtSt.fin {S : List UInt8} {b0 : Nat} {O : Option Obj} {w : World} {k : Nat} {v : Value} {wr : World} (h : PtSt S b0 O w k v wr) (hk : S.length ≤ k) : StrRow wr w.heap.size v (splitC S) ∧ Kp w wr := by
  obtain ⟨A, h, h1, h2, h3, h4, h5, h6, h7, h8⟩ := h
  rw [List.drop_of_length_le hk] at h2
  have e : splitC S = A ++ [h] := by rw [h2]; simp [splitC, joinH]
  rw [e]
  exact ⟨h1, h8⟩
/-- The parts behind i of them are trimmed. -/
def partL (L : List (List UInt8)) (i : Nat) : List (List UInt8) := (L.take i).map trimB ++ L.drop i
theorem partL_len (L : List (List UInt8)) (i : Nat) : (partL L i).length = L.length := by simp [partL]; omega
theorem partL_get (L : List (List UInt8)) (i : Nat) (h : i < L.length) : (strC (partL L i))[i]? = some (.string ⟨(L.getD i []).toArray⟩) := by
  rw [partL, List.drop_eq_getElem_cons h, strC, List.map_append, List.getElem?_append_right (by simp; omega)]
  have e : i - (((L.take i).map trimB).map fun l => Value.string ⟨l.toArray⟩).length = 0 := by simp; omega
  rw [e, List.getD_eq_getElem?_getD, List.getElem?_eq_getElem h]
  rfl
theorem partL_set (L : List (List UInt8)) (i : Nat) (h : i < L.length) (x : ByteArray) (hx : x.data.toList = trimB (L.getD i [])) : (strC (partL L i)).set i (.string x) = strC (partL L (i + 1)) := by
  have hl : ((L.take i).map trimB).length = i := by simp; omega
  have ex : x = ⟨(trimB (L.getD i [])).toArray⟩ := by rw [← hx, mk_list]
  rw [partL, partL, List.drop_eq_getElem_cons h, List.take_succ_eq_append_getElem h, strC, strC, List.map_append, List.map_append, List.map_append, List.map_append, List.set_append_right _ _ (by rw [List.length_map, hl]; exact Nat.le_refl _), List.length_map, hl, Nat.sub_self, ex, List.getD_eq_getElem?_getD, List.getElem?_eq_getElem h, List.append_assoc]
  rfl
def PartsPost (S : List UInt8) (w : World) (e : Ending) (w' : World) : Prop := ∃ v, e = .returned v ∧ StrRow w' w.heap.size v ((splitC S).map trimB) ∧ Kp w w'
set_option maxRecDepth 100000 in
set_option maxHeartbeats 4000000 in
theorem configParts_any (s : ByteArray) (w : World) (hs : s.size ≤ 300) :
    Calls Tryd.prog 40 #[.string s] w (PartsPost s.data.toList w) := by
  have i0 : (s.size : Int) ≤ 300 := by omega
  have HC := Lib.hid (fun w1 c e m i hi => bytes_cell w1 s c e m i hi)
  have HL := Lib.hid (show s.data.toList.length = s.size from rfl)
  obtain ⟨S, hS⟩ : ∃ S, S = s.data.toList := ⟨_, rfl⟩
  have HS := Lib.hid hS
  rw [← hS]
  clear hs hS
  go_enter Tryd.func40, Tryd.ntmps40
  go_wp2_with fail
  generalize hW1 : w.alloc (.cells #[.string ⟨#[]⟩] 9) = W1
  have H0 := Lib.hid (show StrRow W1 w.heap.size (.slice (some ⟨w.heap.size, 0, none⟩) 1 1) ([] ++ [[]]) from hW1 ▸ World.ownsRow_lit w #[.string ⟨#[]⟩] 1 (Nat.le_refl _) (by decide) rfl)
  have HK1 := Lib.hid (show Kp w W1 from hW1 ▸ (Kp.refl w).alloc _)
  have HSZ := Lib.hid (show W1.heap.size = w.heap.size + 1 from by rw [← hW1]; simp)
  clear hW1
  rw [run_bytes_of_string W1 9 26 5 s Tryd.underlying9 Tryd.underlying26 Tryd.underlying5]
  simp only [Result.andThen]
  rw [Oper.upon_value]
  generalize hX : W1.drew.alloc (.cells (bytesRow s (grownCap W1 s.size 0 5)) 5 ((bytesRow s (grownCap W1 s.size 0 5)).size, (bytesRow s (grownCap W1 s.size 0 5)).size + 1)) = X
  have hkx : Kp W1 X := hX ▸ (Kp.refl W1).drew.alloc _
  have hXc := (fun i hi => (hX ▸ HC.out W1 _ _ _ i hi : X.cell? ⟨W1.heap.size, i, none⟩ = some (.int .u8 ((s.data.toList.getD i 0).toNat : Int))))
  have hXs : X.heap.size = W1.heap.size + 1 := by rw [← hX]; simp
  obtain ⟨b0, hb0⟩ : ∃ b0, b0 = W1.heap.size := ⟨_, rfl⟩
  rw [← hb0] at hXc hXs ⊢
  have HX := Lib.hid (fun (wr : World) (h : wr.heap[b0]? = X.heap[b0]?) i hi => (cell_same h i).trans (hXc i hi))
  have HP := Lib.hid (show PtSt S b0 (X.heap[b0]?) w 0 (.slice (some ⟨w.heap.size, 0, none⟩) 1 1) X from
    ⟨[], [], own_below H0.out hkx, by rw [List.drop_zero, joinH_nil _ (splitC_ne _)]; rfl, Nat.le_refl _, Nat.le_refl _, rfl, by
      intro e; have e : w.heap.size = b0 := Option.some.inj e; have := HSZ.out; omega, by omega, HK1.out.trans hkx⟩)
  clear hX hkx hXc hXs hb0 H0
  go_wp2_with fail
  go_loopg [3, 12] s.size (fun G s3 s12 wr => ∃ (k : Nat) (v : Value), s.size - k = G ∧ k ≤ s.size ∧ v = s3 ∧ s12 = .int .i64 (k : Int) ∧ PtSt S b0 (X.heap[b0]?) w k v wr)
  case atStart => exact ⟨0, _, rfl, Nat.zero_le _, rfl, rfl, HP.out⟩
  case round =>
    obtain ⟨k, v, rfl, hk, rfl, rfl, hpt⟩ := hrel
    have HKN := Lib.hid hk
    have HR := Lib.hid hpt
    have j0 : (0 : Int) ≤ (k : Int) := by omega
    have j1 : (k : Int) ≤ (s.size : Int) := by omega
    clear hk hpt
    by_cases hlt : k < s.size
    · have j2 : (k : Int) < (s.size : Int) := by omega
      have HLT := Lib.hid hlt
      have hLT' : k < S.length := by rw [HS.out, HL.out]; exact hlt
      have HLT2 := Lib.hid hLT'
      obtain ⟨A, h, h1, h2, h3, h4, h5, h6, h7, h8⟩ := HR.out
      have d0 := HX.out wr h5 k hlt
      rw [← HS.out] at d0
      obtain ⟨c, hc⟩ : ∃ c, c = S.getD k 0 := ⟨_, rfl⟩
      have HCC := Lib.hid hc
      rw [← hc] at d0
      obtain ⟨x, hx⟩ : ∃ x, x = c.toNat := ⟨_, rfl⟩
      have x0 : (0 : Int) ≤ (x : Int) := by omega
      have x1 : (x : Int) < 256 := by have := c.toNat_lt; omega
      have HXC := Lib.hid hx
      rw [← hx] at d0
      by_cases h44 : x = 44
      · have e0 : ((x : Int) == 44) = true := by rw [h44]; rfl
        have hcc : S.getD k 0 = 44 := by rw [← hc]; apply UInt8.toNat_inj.1; rw [← hx, h44]; rfl
        obtain ⟨v1, w5, r1, r2⟩ := HR.out.add hLT' hcc (by omega)
        have HA1 := Lib.hid r1
        have HA2 := Lib.hid r2
        clear hlt hLT' h1 h2 h3 h4 h5 h6 h7 h8 hc hx h44 hcc r1 r2
        go_wp2_with (at_builtin; refine Lib.wpList_append_run _ rfl _ _ _ _ rfl _ _ rfl rfl _ _ HA1.out ?_)
        go_roundg (s.size - (k + 1))
        case measure => have := HLT.out; omega
        case rel => exact ⟨k + 1, v1, rfl, HLT.out, rfl, by go_num, HA2.out⟩
      · have e0 : ((x : Int) == 44) = false := by simp; omega
        obtain ⟨g, cap, rfl, hg0, hg1, hcap⟩ := h1.form
        have hcc : ¬ S.getD k 0 = 44 := by rw [← hc]; intro e; apply h44; rw [hx, e]; rfl
        have hln : (A ++ [h]).length = A.length + 1 := by simp
        have d1 : wr.cell? ⟨g, A.length, none⟩ = some (.string ⟨h.toArray⟩) := by
          have hh := h1
          unfold StrRow at hh
          rw [← hln] at hh
          rw [World.ownsRow.cellAt hh A.length (by rw [hln]; omega), strC_snoc]
          have hl : (strC A).length = A.length := by simp [strC]
          rw [← hl]; simp
        have d2 : wr.frozen? ⟨g, A.length, none⟩ = false := by
          have hh := h1
          unfold StrRow at hh
          rw [← hln] at hh
          exact World.ownsRow.frozenAt hh A.length
        obtain ⟨n, hn⟩ : ∃ n, n = A.length + 1 := ⟨_, rfl⟩
        obtain ⟨m, hm⟩ : ∃ m, m = A.length := ⟨_, rfl⟩
        have HM := Lib.hid hm
        have w1 : IntKind.i64.wrap ((n : Int) - 1) = (m : Int) := by rw [IntKind.wrap_i64]; omega
        have j7 : (m : Int) < (n : Int) := by omega

        obtain ⟨E, hE⟩ : ∃ E : ByteArray, E = ⟨[c].toArray⟩ := ⟨_, rfl⟩
        have HE := Lib.hid hE
        have jE : (E.size : Int) ≤ 1 := by rw [hE]; show ((1 : Nat) : Int) ≤ 1; omega
        have CV := one_byte wr c x hx E hE
        have j3 : (0 : Int) ≤ (m : Int) := by omega
        have j9 : (n : Int) ≤ 400 := by omega
        have j4 : (A.length : Int) ≤ 300 := by omega
        have j5 : (h.length : Int) ≤ 300 := by omega
        obtain ⟨H, hH⟩ : ∃ H : ByteArray, H = ⟨h.toArray⟩ := ⟨_, rfl⟩
        rw [← hH] at d1
        rw [← hm] at d1 d2
        have j6 : (H.size : Int) ≤ 300 := by rw [hH]; exact j5
        have HH := Lib.hid hH
        have jS : ¬ (9223372036854775807 < H.size + E.size) := by omega
        have PUT := Lib.hid (fun W (hW : Kp wr W) (x : ByteArray) (hx : x.data.toList = h ++ [S.getD k 0]) => PtSt.put (hn ▸ h1) h2 h3 h4 h5 (fun e => h6 (by rw [e]; rfl)) h7 h8 hLT' hcc hW x hx)
        clear hlt hLT' h1 h2 h3 h4 h5 h6 h7 h8 hc hx h44 hcc j5 hH hln hm hE
        rw [← hn]
        clear hn
        go_wp2_with fail
        have HXE := Lib.hid (show (H ++ E).data.toList = h ++ [S.getD k 0] from by rw [data_add, HH.out, HE.out, HCC.out])
        rw [← HM.out] at PUT
        clear HK1 HSZ HP HC HL HS
        go_region_law (fail)
        all_goals
          go_wp2_with fail
          go_roundg (s.size - (k + 1))
          case measure => have := HLT.out; omega
          case rel => exact ⟨k + 1, _, rfl, HLT.out, rfl, by go_num, (PUT.out _ (Kp.refl wr) _ HXE.out).kp (((Kp.refl _).alloc _).drew)⟩
    · obtain rfl : k = s.size := by have := HKN.out; omega
      have HF := Lib.hid (HR.out.fin (by rw [HS.out, HL.out]; exact Nat.le_refl _))
      obtain ⟨g, cap, rfl⟩ : ∃ g cap, v = .slice (some ⟨g, 0, none⟩) (splitC S).length cap := by
        rcases HF.out.1.2 with ⟨_, h⟩ | ⟨g, cap, cur, h, _⟩
        · exact absurd (List.length_eq_zero_iff.1 h) (splitC_ne S)
        · exact ⟨g, cap, h⟩
      have HSL := Lib.hid (show S.length ≤ 300 by rw [HS.out, HL.out]; omega)
      obtain ⟨L, hL⟩ : ∃ L, L = splitC S := ⟨_, rfl⟩
      have HLS := Lib.hid (show ∀ i, (L.getD i []).length ≤ 300 from fun i => by
        by_cases hi : i < L.length
        · rw [List.getD_eq_getElem?_getD, List.getElem?_eq_getElem hi]
          have := splitC_len S (L[i]) (by rw [← hL]; exact List.getElem_mem _)
          have := HSL.out
          show L[i].length ≤ 300
          omega
        · rw [List.getD_eq_getElem?_getD, List.getElem?_eq_none (by omega)]; simp)
      have HLN := Lib.hid (show L.length ≤ 301 by have := splitC_count S; rw [hL]; have := HSL.out; omega)
      rw [← hL] at HF ⊢
      obtain ⟨n, hn⟩ : ∃ n, n = L.length := ⟨_, rfl⟩
      have HN := Lib.hid hn
      rw [← hn] at HF ⊢
      have n0 : (n : Int) ≤ 301 := by have := HLN.out; omega
      have HPOST := Lib.hid (fun (w' : World) (h : StrRow w' w.heap.size (.slice (some ⟨g, 0, none⟩) n cap) (L.map trimB) ∧ Kp w w') => (show PartsPost S w (.returned (.slice (some ⟨g, 0, none⟩) n cap)) w' from ⟨_, rfl, hL ▸ h.1, h.2⟩))
      clear hL hn hlt HR HX HP HK1 HSZ
      go_wp2_with fail
      go_loopg [35] n (fun G s35 wr => ∃ i : Nat, n - i = G ∧ i ≤ n ∧ s35 = .int .i64 (i : Int) ∧ (StrRow wr w.heap.size (.slice (some ⟨g, 0, none⟩) n cap) (partL L i) ∧ Kp w wr))
      case atStart => exact ⟨0, rfl, Nat.zero_le _, rfl, by simpa [partL] using HF.out⟩
      case round =>
        obtain ⟨i, rfl, hi, rfl, hrow⟩ := hrel
        have HRW := Lib.hid hrow
        have HI := Lib.hid hi
        have k0 : (0 : Int) ≤ (i : Int) := by omega
        have k1 : (i : Int) ≤ (n : Int) := by omega
        clear hi hrow
        by_cases hlt : i < n
        · have k2 : (i : Int) < (n : Int) := by omega
          have HLT := Lib.hid hlt
          obtain ⟨h1, h2⟩ := HRW.out
          have h1' := h1
          unfold StrRow at h1'
          have hml : (partL L i).length = n := by rw [partL_len, HN.out]
          rw [hml] at h1'
          obtain ⟨p, hp⟩ : ∃ p : ByteArray, p = ⟨(L.getD i []).toArray⟩ := ⟨_, rfl⟩
          have HP := Lib.hid (show p.data.toList = L.getD i [] by rw [hp])
          have HPS := Lib.hid (show p.size ≤ 300 by rw [hp]; exact HLS.out i)
          have d0 : wr.cell? ⟨g, i, none⟩ = some (.string p) := by rw [World.ownsRow.cellAt h1' i (by omega), partL_get L i (by rw [← HN.out]; exact hlt), hp]
          have d1 : wr.frozen? ⟨g, i, none⟩ = false := World.ownsRow.frozenAt h1' i
          have STO := Lib.hid (fun (x : ByteArray) (u : Unit) (hx : x.data.toList = trimB (L.getD i [])) => (show StrRow (wr.setCell ⟨g, i, none⟩ (.string x)) w.heap.size (.slice (some ⟨g, 0, none⟩) n cap) (partL L (i + 1)) ∧ Kp w (wr.setCell ⟨g, i, none⟩ (.string x)) from ⟨by
            have := (World.ownsRow.stored h1' i (.string x)).1
            rw [partL_set L i (by rw [← HN.out]; exact hlt) x hx] at this
            unfold StrRow
            rw [partL_len, ← HN.out]
            exact this, h2.set (own_ge h1' g rfl) _⟩))
          clear hlt h1 h2 h1' hml hp
          go_wp2_with fail
          go_loopg [7] p.size (fun G s7 wz => ∃ r : ByteArray, r.size = G ∧ s7 = .string r ∧ r.size ≤ 300 ∧ trimL r.data.toList = trimL p.data.toList ∧ wr = wz)
          case atStart => exact ⟨p, rfl, rfl, HPS.out, rfl, rfl⟩
          case round =>
            obtain ⟨q, rfl, rfl, hr, ht, rfl⟩ := hrel
            have HRT := Lib.hid ht
            have HQS := Lib.hid hr
            have r0 : (q.size : Int) ≤ 300 := by omega
            clear ht hr
            by_cases h0 : q.size = 0
            · have r2 : decide ((0 : Int) < (q.size : Int)) = false := by simp [h0]
              have r3 : (q.size : Int) = 0 := by omega
              have HQ := Lib.hid (show trimL (L.getD i []) = q.data.toList from by
                have : q.data.toList = [] := List.length_eq_zero_iff.1 h0
                rw [← HP.out, ← HRT.out, this]; rfl)
              clear h0
              go_wp2_with fail
              go_loopg [7] q.size (fun G s7 wz => ∃ r : ByteArray, r.size = G ∧ s7 = .string r ∧ r.size ≤ 300 ∧ trimR r.data.toList = trimR q.data.toList ∧ wr = wz)
              case atStart => exact ⟨q, rfl, rfl, HQS.out, rfl, rfl⟩
              case round =>
                obtain ⟨r, rfl, rfl, hr, ht, rfl⟩ := hrel
                have HRT := Lib.hid ht
                have HRS := Lib.hid hr
                have r0 : (r.size : Int) ≤ 300 := by omega
                clear ht hr
                by_cases h0 : r.size = 0
                · have r1 : ((r.size : Int) > 0) = False := by simp [h0]
                  have r2 : decide ((0 : Int) < (r.size : Int)) = false := by simp [h0]
                  have r3 : (r.size : Int) = 0 := by omega
                  have EQ := Lib.hid (show trimR q.data.toList = r.data.toList from by
                    have : r.data.toList = [] := List.length_eq_zero_iff.1 h0
                    rw [← HRT.out, this]; rfl)
                  clear h0
                  go_wp2_with fail
                  go_roundg (n - (i + 1))
                  case measure => have := HLT.out; omega
                  case rel => exact ⟨i + 1, rfl, HLT.out, by go_num, STO.out _ () (by rw [trimB, HQ.out, EQ.out]) ⟩
                · have r1 : (0 : Int) < (r.size : Int) := by omega
                  have r2 : decide ((0 : Int) < (r.size : Int)) = true := by simp; omega
                  have r4 : (0 : Int) ≤ (r.size : Int) - 1 := by omega
                  have r5 : ((r.size : Int) - 1).toNat = r.size - 1 := by omega
                  have r6 : (r.size : Int) - 1 < (r.size : Int) := by omega
                  have r7 : (r.size : Int) - 1 ≤ (r.size : Int) := by omega
                  have hl : r.size - 1 < r.size := by omega
                  have HLL := Lib.hid (last_list r hl)
                  obtain ⟨c, hc⟩ : ∃ c, c = r[r.size - 1]'hl := ⟨_, rfl⟩
                  obtain ⟨x, hx⟩ : ∃ x, (r[r.size - 1]'hl).toNat = x := ⟨_, rfl⟩
                  have HC := Lib.hid hc
                  have HXC := Lib.hid (show x = c.toNat by rw [← hx, hc])
                  clear hc
                  by_cases h32 : x = 32
                  · have e0 : ((x : Int) == 32) = true := by rw [h32]; rfl
                    have HE := Lib.hid (show trimR (r.extract 0 (r.size - 1)).data.toList = trimR q.data.toList from by
                      rw [← HRT.out, HLL.out, ← HC.out, show c = 32 from UInt8.toNat_inj.1 (by rw [← HXC.out, h32]; rfl), trimR_blank])
                    have HSZ2 := Lib.hid (show (r.extract 0 (r.size - 1)).size = r.size - 1 from by simp)
                    clear h32 h0
                    go_wp2_with fail
                    go_roundg (r.size - 1)
                    case measure => have := hl; omega
                    case rel => exact ⟨_, HSZ2.out, rfl, by have := HSZ2.out; have := HRS.out; omega, HE.out, rfl⟩
                  · have e0 : ((x : Int) == 32) = false := by simp; omega
                    have EQ := Lib.hid (show trimR q.data.toList = r.data.toList from by
                      have h := HLL.out
                      rw [← HC.out] at h
                      rw [← HRT.out, h, trimR_other _ _ (fun e => h32 (by rw [HXC.out, e]; rfl))])
                    clear h32 h0
                    go_wp2_with fail
                    go_roundg (n - (i + 1))
                    case measure => have := HLT.out; omega
                    case rel => exact ⟨i + 1, rfl, HLT.out, by go_num, STO.out _ () (by rw [trimB, HQ.out, EQ.out]) ⟩
            · have r1 : (0 : Int) < (q.size : Int) := by omega
              have r2 : decide ((0 : Int) < (q.size : Int)) = true := by simp; omega
              have r8 : (1 : Int) ≤ (q.size : Int) := by omega
              have hl : 0 < q.size := by omega
              have HLL := Lib.hid (head_list q hl)
              obtain ⟨c, hc⟩ : ∃ c, c = q[0]'hl := ⟨_, rfl⟩
              obtain ⟨x, hx⟩ : ∃ x, (q[0]'hl).toNat = x := ⟨_, rfl⟩
              have HC := Lib.hid hc
              have HXC := Lib.hid (show x = c.toNat by rw [← hx, hc])
              clear hc
              by_cases h32 : x = 32
              · have e0 : ((x : Int) == 32) = true := by rw [h32]; rfl
                have HE := Lib.hid (show trimL (q.extract 1 q.size).data.toList = trimL p.data.toList from by
                  rw [← HRT.out, HLL.out, ← HC.out, show c = 32 from UInt8.toNat_inj.1 (by rw [← HXC.out, h32]; rfl), trimL_blank])
                have HSZ2 := Lib.hid (show (q.extract 1 q.size).size = q.size - 1 from by simp)
                clear h32 h0
                go_wp2_with fail
                go_roundg (q.size - 1)
                case measure => have := hl; omega
                case rel => exact ⟨_, HSZ2.out, rfl, by have := HSZ2.out; have := HQS.out; omega, HE.out, rfl⟩
              · have e0 : ((x : Int) == 32) = false := by simp; omega
                have HQ := Lib.hid (show trimL (L.getD i []) = q.data.toList from by
                  have h := HLL.out
                  rw [← HC.out] at h
                  rw [← HP.out, ← HRT.out, h, trimL_other _ _ (fun e => h32 (by rw [HXC.out, e]; rfl))])
                clear h32 h0
                go_wp2_with fail
                go_loopg [7] q.size (fun G s7 wz => ∃ r : ByteArray, r.size = G ∧ s7 = .string r ∧ r.size ≤ 300 ∧ trimR r.data.toList = trimR q.data.toList ∧ wr = wz)
                case atStart => exact ⟨q, rfl, rfl, HQS.out, rfl, rfl⟩
                case round =>
                  obtain ⟨r, rfl, rfl, hr, ht, rfl⟩ := hrel
                  have HRT := Lib.hid ht
                  have HRS := Lib.hid hr
                  have r0 : (r.size : Int) ≤ 300 := by omega
                  clear ht hr
                  by_cases h0 : r.size = 0
                  · have r1 : ((r.size : Int) > 0) = False := by simp [h0]
                    have r2 : decide ((0 : Int) < (r.size : Int)) = false := by simp [h0]
                    have r3 : (r.size : Int) = 0 := by omega
                    have EQ := Lib.hid (show trimR q.data.toList = r.data.toList from by
                      have : r.data.toList = [] := List.length_eq_zero_iff.1 h0
                      rw [← HRT.out, this]; rfl)
                    clear h0
                    go_wp2_with fail
                    go_roundg (n - (i + 1))
                    case measure => have := HLT.out; omega
                    case rel => exact ⟨i + 1, rfl, HLT.out, by go_num, STO.out _ () (by rw [trimB, HQ.out, EQ.out]) ⟩
                  · have r1 : (0 : Int) < (r.size : Int) := by omega
                    have r2 : decide ((0 : Int) < (r.size : Int)) = true := by simp; omega
                    have r4 : (0 : Int) ≤ (r.size : Int) - 1 := by omega
                    have r5 : ((r.size : Int) - 1).toNat = r.size - 1 := by omega
                    have r6 : (r.size : Int) - 1 < (r.size : Int) := by omega
                    have r7 : (r.size : Int) - 1 ≤ (r.size : Int) := by omega
                    have hl : r.size - 1 < r.size := by omega
                    have HLL := Lib.hid (last_list r hl)
                    obtain ⟨c, hc⟩ : ∃ c, c = r[r.size - 1]'hl := ⟨_, rfl⟩
                    obtain ⟨x, hx⟩ : ∃ x, (r[r.size - 1]'hl).toNat = x := ⟨_, rfl⟩
                    have HC := Lib.hid hc
                    have HXC := Lib.hid (show x = c.toNat by rw [← hx, hc])
                    clear hc
                    by_cases h32 : x = 32
                    · have e0 : ((x : Int) == 32) = true := by rw [h32]; rfl
                      have HE := Lib.hid (show trimR (r.extract 0 (r.size - 1)).data.toList = trimR q.data.toList from by
                        rw [← HRT.out, HLL.out, ← HC.out, show c = 32 from UInt8.toNat_inj.1 (by rw [← HXC.out, h32]; rfl), trimR_blank])
                      have HSZ2 := Lib.hid (show (r.extract 0 (r.size - 1)).size = r.size - 1 from by simp)
                      clear h32 h0
                      go_wp2_with fail
                      go_roundg (r.size - 1)
                      case measure => have := hl; omega
                      case rel => exact ⟨_, HSZ2.out, rfl, by have := HSZ2.out; have := HRS.out; omega, HE.out, rfl⟩
                    · have e0 : ((x : Int) == 32) = false := by simp; omega
                      have EQ := Lib.hid (show trimR q.data.toList = r.data.toList from by
                        have h := HLL.out
                        rw [← HC.out] at h
                        rw [← HRT.out, h, trimR_other _ _ (fun e => h32 (by rw [HXC.out, e]; rfl))])
                      clear h32 h0
                      go_wp2_with fail
                      go_roundg (n - (i + 1))
                      case measure => have := HLT.out; omega
                      case rel => exact ⟨i + 1, rfl, HLT.out, by go_num, STO.out _ () (by rw [trimB, HQ.out, EQ.out]) ⟩
        · obtain rfl : i = n := by have := HI.out; omega
          clear hlt
          go_wp2_with fail
          go_ret
          exact HPOST.out _ ⟨by
            have h := HRW.out.1
            rw [HN.out, partL, List.take_length, List.drop_length, List.append_nil] at h
            rw [HN.out]
            exact h, HRW.out.2⟩
end Go.Proofs.YtcdbnjhkjfimkaaDoor
