/-
  Servers in plain Lean: what adding, asking and resetting do, and that adding one twice does nothing, whatever the letters' case.
-/
import Derived.Test.YtcdbnjhkjfimkaaDoorCfg0
namespace Go.Proofs.YtcdbnjhkjfimkaaDoor
open Go

/-- A server: protocol, host, port. -/
structure Srv where
  pr : ByteArray
  ad : ByteArray
  po : Int
def sameS (s t : Srv) : Bool := hostEq s.ad.data.toList t.ad.data.toList && (s.po == t.po)
theorem sameS_iff (s t : Srv) : sameS s t = true ↔ Lib.toUpperA s.ad.data.toList = Lib.toUpperA t.ad.data.toList ∧ s.po = t.po := by
  simp only [sameS, Bool.and_eq_true, hostEq_iff, beq_iff_eq]
theorem sameS_refl (s : Srv) : sameS s s = true := (sameS_iff s s).2 ⟨rfl, rfl⟩
theorem sameS_symm {s t : Srv} (h : sameS s t = true) : sameS t s = true := (sameS_iff t s).2 ⟨((sameS_iff s t).1 h).1.symm, ((sameS_iff s t).1 h).2.symm⟩
theorem sameS_comm (s t : Srv) : sameS s t = sameS t s := by
  rw [Bool.eq_iff_iff]; exact ⟨sameS_symm, sameS_symm⟩
theorem sameS_trans {s t u : Srv} (h : sameS s t = true) (k : sameS t u = true) : sameS s u = true :=
  (sameS_iff s u).2 ⟨((sameS_iff s t).1 h).1.trans ((sameS_iff t u).1 k).1, ((sameS_iff s t).1 h).2.trans ((sameS_iff t u).1 k).2⟩
/-- The servers behind one that is added. -/
def addS (l : List Srv) (s : Srv) : List Srv := if l.any (sameS s) then l else l ++ [s]
theorem addS_keep {x : Srv} {l : List Srv} (s : Srv) (h : l.any (sameS x) = true) : (addS l s).any (sameS x) = true := by
  unfold addS
  split
  · exact h
  · simp [h]
theorem addS_own {x s : Srv} (l : List Srv) (h : sameS x s = true) : (addS l s).any (sameS x) = true := by
  unfold addS
  split
  case isTrue h1 =>
    obtain ⟨y, hy, e⟩ := List.any_eq_true.1 h1
    exact List.any_eq_true.2 ⟨y, hy, sameS_trans h e⟩
  · simp [h]
theorem fold_keep {x : Srv} : ∀ (m l : List Srv), l.any (sameS x) = true → (m.foldl addS l).any (sameS x) = true
  | [], _, h => h
  | s :: m, _, h => fold_keep m _ (addS_keep s h)
theorem fold_own {x y : Srv} (e : sameS x y = true) : ∀ (m l : List Srv), y ∈ m → (m.foldl addS l).any (sameS x) = true
  | s :: m, l, h => by
    rcases List.mem_cons.1 h with rfl | h
    · exact fold_keep m _ (addS_own l e)
    · exact fold_own e m _ h
/-- A server that is added once more, in letters of any case, changes nothing. -/
theorem added_twice {x y : Srv} (l : List Srv) (hy : y ∈ l) (e : sameS x y = true) : (l ++ [x]).foldl addS [] = l.foldl addS [] := by
  rw [List.foldl_append, List.foldl_cons, List.foldl_nil, addS, if_pos (fold_own e l [] hy)]

/-- No two of the servers are one. -/
def Apart (l : List Srv) : Prop := l.Pairwise fun a b => sameS b a = false
theorem Apart.add {l : List Srv} (h : Apart l) (s : Srv) : Apart (addS l s) := by
  unfold addS
  split
  · exact h
  case isFalse h1 =>
    refine List.pairwise_append.2 ⟨h, List.pairwise_singleton _ _, fun a ha b hb => ?_⟩
    obtain rfl := List.mem_singleton.1 hb
    by_cases e : sameS b a = true
    · exact absurd (List.any_eq_true.2 ⟨a, ha, e⟩) h1
    · simpa using e
theorem Apart.fold : ∀ (m l : List Srv), Apart (l ++ m) → m.foldl addS l = l ++ m
  | [], l, _ => by simp
  | s :: m, l, h => by
    have h1 : l.any (sameS s) = false := by
      rw [List.any_eq_false]
      intro a ha
      have := (List.pairwise_append.1 h).2.2 a ha s List.mem_cons_self
      simp [this]
    rw [List.foldl_cons, addS, h1, if_neg (by simp), Apart.fold m (l ++ [s]) (by rw [List.append_assoc]; exact h), List.append_assoc]
    rfl

/-- The servers and the place of the active one. -/
structure SrvSt where
  all : List Srv
  pos : Nat
/-- One step: 0 adds, 1 asks, 2 goes on and asks, 3 resets. -/
def SrvSt.step (t : SrvSt) (k : Int) (s : Srv) : SrvSt :=
  if k = 0 then ⟨addS t.all s, t.pos⟩ else if k = 2 then ⟨t.all, t.pos + 1⟩ else if k = 3 then ⟨t.all, 0⟩ else t
/-- Whether the step gives a server. -/
def SrvSt.gives (t : SrvSt) (k : Int) : Bool :=
  if k = 1 then decide (t.pos < t.all.length) else if k = 2 then decide (t.pos + 1 < t.all.length) else false
def SrvSt.run (t : SrvSt) : List (Int × Srv) → SrvSt × List Bool
  | [] => (t, [])
  | (k, s) :: l => let r := (t.step k s).run l; (r.1, t.gives k :: r.2)
theorem SrvSt.run_append : ∀ (l m : List (Int × Srv)) (t : SrvSt), t.run (l ++ m) = (((t.run l).1.run m).1, (t.run l).2 ++ ((t.run l).1.run m).2)
  | [], _, _ => rfl
  | (k, s) :: l, m, t => by
    simp only [List.cons_append, SrvSt.run, SrvSt.run_append l m]
theorem SrvSt.run_len : ∀ (l : List (Int × Srv)) (t : SrvSt), (t.run l).2.length = l.length
  | [], _ => rfl
  | (k, s) :: l, t => by simp [SrvSt.run, SrvSt.run_len l]
theorem SrvSt.run_adds : ∀ (l : List Srv) (t : SrvSt), (t.run (l.map fun s => (0, s))).1 = ⟨l.foldl addS t.all, t.pos⟩
  | [], _ => rfl
  | s :: l, t => by
    simp only [List.map_cons, SrvSt.run, SrvSt.run_adds l, List.foldl_cons, SrvSt.step, if_true]
theorem SrvSt.run_apart : ∀ (l : List (Int × Srv)) (t : SrvSt), Apart t.all → Apart (t.run l).1.all
  | [], _, h => h
  | (k, s) :: l, t, h => by
    refine SrvSt.run_apart l _ ?_
    unfold SrvSt.step
    split
    · exact h.add s
    · split
      · exact h
      · split <;> exact h
/-- Behind a reset the steps give what they give on the servers that there are. -/
theorem reset_law (l m : List (Int × Srv)) (z : Srv) :
    let a := SrvSt.run ⟨[], 0⟩ ((l ++ [(3, z)]) ++ m)
    let all := (SrvSt.run ⟨[], 0⟩ (l ++ [(3, z)])).1.all
    let b := SrvSt.run ⟨[], 0⟩ ((all.map fun s => (0, s)) ++ m)
    a.2.drop (l.length + 1) = b.2.drop all.length ∧ a.1.all = b.1.all := by
  intro a all b
  have h1 : (SrvSt.run ⟨[], 0⟩ (l ++ [(3, z)])).1 = ⟨all, 0⟩ := by
    simp only [all, SrvSt.run_append, SrvSt.run, SrvSt.step]
    rfl
  have h2 : Apart all := SrvSt.run_apart _ _ List.Pairwise.nil
  have h3 : (SrvSt.run ⟨[], 0⟩ (all.map fun s => (0, s))).1 = ⟨all, 0⟩ := by
    rw [SrvSt.run_adds, Apart.fold all [] h2]; rfl
  have ea : a = (((SrvSt.mk all 0).run m).1, (SrvSt.run ⟨[], 0⟩ (l ++ [(3, z)])).2 ++ ((SrvSt.mk all 0).run m).2) := by
    show SrvSt.run _ _ = _
    rw [SrvSt.run_append, h1]
  have eb : b = (((SrvSt.mk all 0).run m).1, (SrvSt.run ⟨[], 0⟩ (all.map fun s => (0, s))).2 ++ ((SrvSt.mk all 0).run m).2) := by
    show SrvSt.run _ _ = _
    rw [SrvSt.run_append, h3]
  rw [ea, eb]
  refine ⟨?_, rfl⟩
  rw [List.drop_left' (by rw [SrvSt.run_len]; simp), List.drop_left' (by rw [SrvSt.run_len]; simp)]
/-- Small letters made great: the same host. -/
def upAll (l : List UInt8) : List UInt8 := l.map Lib.upperB
set_option maxRecDepth 100000 in
theorem upperB_up (b : UInt8) : Lib.upperB (Lib.upperB b) = Lib.upperB b := by
  have : ∀ i : Fin 256, Lib.upperB (Lib.upperB (UInt8.ofNat i.val)) = Lib.upperB (UInt8.ofNat i.val) := by decide
  have h := this ⟨b.toNat, b.toNat_lt⟩
  simpa using h
theorem upAll_host (l : List UInt8) : hostEq (upAll l) l = true := by
  rw [hostEq_iff, upAll, Lib.toUpperA, Lib.toUpperA, List.map_map]
  exact List.map_congr_left fun b _ => upperB_up b
end Go.Proofs.YtcdbnjhkjfimkaaDoor
